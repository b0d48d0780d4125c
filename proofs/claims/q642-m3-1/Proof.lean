import JvmDerived
import JvmDerived.Pilot.@@N@@Statement
import JvmDerived.Pilot.@@N@@Code
set_option linter.unusedVariables false
set_option linter.unusedSimpArgs false
namespace Jvm.RoadKit
open Sem ClassFile Op Lib Jvm.Stand Jvm.Free Jvm.LawKit
section Own
variable {p : Program} {l : Launch} {e : Env} {R : Room} {s : State} {m : MethodId} {args : Array Value} {below : List Frame} {meth : Method} {c : Code} {T : State} {locs : List Loc} {cells slots : Nat}
theorem retI (X : Stand p l e R s m args below meth c T locs cells slots) (hx : p.tables.exec = Jvm.exec) {pc : Nat} {Ls : Array Slot} {z : Int32} {rest : List Value} (hret : meth.sig.returnType = some .int) (hd : decode c.code pc = .ok (.ireturn, 1)) {fs : List Frame}
    (hl : ∀ (f : JFrame) (acts : List Action), f.method = m → f.locked = none → f.entered = [] → (doReturn e (T.setTop f) acts (some (.int z))).1 = T.setFrames fs) : Steps p.tables e below (T.setTop (mkF m pc Ls (.int z :: rest))) (T.setFrames fs) :=
  retOut X hx hret rfl (Or.inl ⟨rfl, Or.inl rfl, _, rfl⟩) hd hl
variable {Q : Option Value → Heap → List Loc → Prop} {kc ks : Nat} {S S' : State}
section H
variable {Z : State} {EL : List (String × Nat)} {QH : Option Value → Heap → List Loc → (Addr → Prop) → Prop} {a0 : Array Value} {h : Heap} {vm0 : Vm}
/-- a callee that may intern, at a site: what is Safe there goes in, what is Safe at its end comes out -/
theorem backOfY {y : MethodName} {bytes : ByteArray} {maxL : Nat} {ret : Option FieldType} {rm : Room} {len W : Nat} {as' : Array Value} {sf : List Addr}
    (hM : MetFree l y (head1 [Cond.code y bytes maxL ret] rm) (fun a U => a = as' ∧ Z.Warmed39 U.vm ∧ U.heap = h ∧ CHv Z EL U.vm h ∧ ∀ x ∈ sf, Safe Z EL U.vm h x) (fun _ _ _ _ _ => True) (fun _ U o U' => ∃ v L, o = .returned v ∧ QH v U'.heap L (Safe Z EL U'.vm U'.heap) ∧ CHr Z EL U.vm U.heap U'.vm U'.heap ∧ ReturnedEndW U o U' L rm.cells rm.slots))
    (hZ : Z.Warmed39 vm0) (wc : (Cond.code y bytes maxL ret).before a0 Z = true) (wz : (Cond.initialized y.cls).before a0 Z = true) (hf : rm.frames + 1 ≤ R.frames) (hl : W + (maxL + 11) + rm.locals ≤ R.locals) (hEL : EW Z a0 EL) (H : CHv Z EL vm0 h) (hs : ∀ x ∈ sf, Safe Z EL vm0 h x) (hlt : ∀ x ∈ sf, x < h.size) :
    BackS l R p e below (s.setVm vm0) args y len W (fun A a => a = as' ∧ A.U.heap = h ∧ A.cells + rm.cells ≤ R.cells ∧ A.slots + rm.slots ≤ R.slots)
      (fun A _ v B => ∃ L, QH v B.U.heap L (Safe Z EL B.U.vm B.U.heap) ∧ B.locs = A.locs ++ L ∧ B.cells = A.cells + rm.cells ∧ B.slots = A.slots + rm.slots ∧ CHr Z EL vm0 h B.U.vm B.U.heap) := by
  refine BackS.of_freeW (bytes := bytes) (maxL := maxL) (ret := ret) (E := fun _ first o t L k n => k = rm.cells ∧ n = rm.slots ∧ (∃ v, o = .returned v ∧ QH v t.heap L (Safe Z EL t.vm t.heap)) ∧ CHr Z EL first.vm first.heap t.vm t.heap) hM hf hl ?_ ?_ (fun _ _ _ _ _ _ _ _ _ => trivial) ?_ ?_
  · intro m meth c A a Y hp
    have hU : Z.Warmed39 A.U.vm := wtrans (s := s.setVm vm0) hZ Y.warmed
    exact ⟨by show (Cond.and _ .tt).before a A.U = true; rw [Cond.before_and, mv hU wc]; rfl, mv hU wc, mv hU wz, hp.2.2.1, hp.2.2.2⟩
  · intro m meth c A a g mk Y hp
    have q := CHv.at Y hZ hEL H
    exact ⟨hp.1, wtrans (s := s.setVm vm0) hZ Y.warmed, hp.2.1, q.1, fun x hx => q.safe (hlt x hx) (hs x hx)⟩
  · rintro _ _ _ _ ⟨v, L, h1, h2, h3, h4⟩
    exact ⟨L, _, _, h4, rfl, rfl, ⟨v, h1, h2⟩, h3⟩
  · rintro m meth c A a g mk v t L k n Y hp - - ⟨e1, e2, ⟨v', e3, e4⟩, e5⟩
    cases e3; subst e1 e2
    refine ⟨L, e4, rfl, rfl, rfl, (CHv.at Y hZ hEL H).trans ?_⟩
    rw [← hp.2.1]; exact e5
end H
theorem own_len {Z : State} {args : Array Value} {t : Term} {a : Addr} {c : Cell} {ty : FieldType} {z : Int32} (ev : t.eval args Z none [] Z = some (.ref a)) (A : Arr Z Z.heap a c ty) (h : (Cond.eq (.length t) (.int z)).value args Z none Z [] = some true) : c.slots.size < 2 ^ 31 ∧ c.slots.size.toInt32 = z := by
  have ha := A.fin (U := Z) (Vm.Alike.refl _)
  by_cases q : c.slots.size < 2 ^ 31
  · exact ⟨q, gotT (Cond.eq_ints (len_f ev ha q) (Term.int_eval z)) h⟩
  · simp [Cond.value, Term.eval, ev, ha, q] at h
theorem narrow_ref {t : FieldType} {w : Value} (h : w.isRef = true) : narrow t w = w := by
  rcases XT.refc h with rfl | ⟨r, rfl⟩ <;> cases t <;> rfl
theorem fits_isref {t : FieldType} {w : Value} (ht : t.isReference = true) (h : w.isRef = true) : fits t w = true := by
  rcases XT.refc h with rfl | ⟨r, rfl⟩ <;> cases t <;> first | rfl | (cases ht)
theorem nar_c (x : Int32) : nar .char x.toUInt32.toUInt16.toUInt32.toInt32 = x.toUInt32.toUInt16.toUInt32.toInt32 := by
  have := XT.narrow_c x
  simpa [narrow, nar] using this
theorem nar_b (x : Int32) : nar .byte x.toInt8.toInt32 = x.toInt8.toInt32 := by
  have := XT.narrow_b x
  simpa [narrow, nar] using this
theorem nar_ite {P : Prop} [Decidable P] : nar .boolean (if P then (1 : Int32) else 0) = (if P then (1 : Int32) else 0) := by split <;> decide
theorem nar_ite' {P : Prop} [Decidable P] : nar .boolean (if P then (0 : Int32) else 1) = (if P then (0 : Int32) else 1) := by split <;> decide
theorem narrow_nar {t : FieldType} {z : Int32} (ht : t = .boolean ∨ t = .byte ∨ t = .char ∨ t = .short) (h : nar t z = z) : narrow t (.int z) = .int z := by
  have hn : narrow t (.int z) = .int (nar t z) := by rcases ht with rfl | rfl | rfl | rfl <;> rfl
  rw [hn, h]
end Own
/-- the run that stands in S ends as E says -/
def Runs (p : Program) (e : Env) (below : List Frame) (E : State → Outcome → Prop) (S : State) : Prop :=
  ∃ s₂ o, Steps p.tables e below S s₂ ∧ s₂.status = .running ∧ Ended s₂ below o ∧ E s₂ o
theorem Runs.by {p : Program} {e : Env} {below : List Frame} {E : State → Outcome → Prop} {S S' : State} (k : Runs p e below E S') (st : ∀ t, Steps p.tables e below S' t → Steps p.tables e below S t) : Runs p e below E S := by
  obtain ⟨s₂, o, h1, h2⟩ := k
  exact ⟨s₂, o, st _ h1, h2⟩
theorem Runs.tr {p : Program} {e : Env} {below : List Frame} {E : State → Outcome → Prop} {S S' : State} (k : Runs p e below E S') (st : Steps p.tables e below S S') : Runs p e below E S := by
  obtain ⟨s₂, o, h1, h2⟩ := k
  exact ⟨s₂, o, st.trans h1, h2⟩
def EndN (s : State) (Q : Option Value → Heap → List Loc → Prop) (kc ks : Nat) : State → Outcome → Prop := fun s₂ o => ∃ v L, o = .returned v ∧ Q v s₂.heap L ∧ FrameEnd s o s₂ L kc ks
def EndH (s Z : State) (EL : List (String × Nat)) (Q : Option Value → Heap → List Loc → (Addr → Prop) → Prop) (kc ks : Nat) : State → Outcome → Prop := fun s₂ o => ∃ v L, o = .returned v ∧ Q v s₂.heap L (Safe Z EL s₂.vm s₂.heap) ∧ CHr Z EL s.vm s.heap s₂.vm s₂.heap ∧ ReturnedEndW s o s₂ L kc ks
section W
variable {p : Program} {l : Launch} {e : Env} {Rm : Room} {s : State} {m : MethodId} {args : Array Value} {below : List Frame} {meth : Method} {c : Code} {T : State} {locs : List Loc} {cells slots : Nat} {E : State → Outcome → Prop} {pc pc' : Nat} {Ls : Array Slot} {st : List Value}
theorem w_done (X : Stand p l e Rm s m args below meth c T locs cells slots) (hlk : meth.locks = false) {Q : Option Value → Heap → List Loc → Prop} {kc ks : Nat} {h : Heap} {v : Option Value} {g : JFrame} (eT : T.heap = h) (hv : meth.sig.returnType = none → v = none)
    (hr : ∀ fs, (∀ (f : JFrame) (acts : List Action), f.method = m → f.locked = none → f.entered = [] → (doReturn e (T.setTop f) acts v).1 = T.setFrames fs) → Steps p.tables e below (T.setTop g) (T.setFrames fs)) (hc : cells ≤ kc) (hn : slots ≤ ks) (hQ : Q v h locs) : Runs p e below (EndN s Q kc ks) (T.setTop g) := by
  obtain ⟨fs, h1, hrun, hended, hW, hsame⟩ := X.leave hv hlk
  subst eT
  exact ⟨_, _, hr fs h1, hrun, hended, v, locs, rfl, hQ, ⟨_, rfl⟩, hW, hsame.mono hc hn⟩
theorem w_aload (X : Stand p l e Rm s m args below meth c T locs cells slots) (hx : p.tables.exec = Jvm.exec) {k : Nat} {v : Value} (hd : decode c.code pc = .ok (.aload k, 2)) (hl : Ls[k]? = some (.val v)) (hv : v.isRef = true) (hp : pc + 2 = pc') (K : Runs p e below E (T.setTop (mkF m pc' Ls (v :: st)))) : Runs p e below E (T.setTop (mkF m pc Ls st)) := by
  subst hp; exact K.by fun _ k => XS.aload X.here hx rfl hd hl hv k
theorem w_aloadN (X : Stand p l e Rm s m args below meth c T locs cells slots) (hx : p.tables.exec = Jvm.exec) {k : Fin 4} {v : Value} (hd : decode c.code pc = .ok (.aload_n k, 1)) (hl : Ls[k.val]? = some (.val v)) (hv : v.isRef = true) (hp : pc + 1 = pc') (K : Runs p e below E (T.setTop (mkF m pc' Ls (v :: st)))) : Runs p e below E (T.setTop (mkF m pc Ls st)) := by
  subst hp; exact K.by fun _ k => XS.aloadN X.here hx rfl hd hl hv k
theorem w_iload (X : Stand p l e Rm s m args below meth c T locs cells slots) (hx : p.tables.exec = Jvm.exec) {k : Nat} {v : Int32} (hd : decode c.code pc = .ok (.iload k, 2)) (hl : Ls[k]? = some (.val (.int v))) (hp : pc + 2 = pc') (K : Runs p e below E (T.setTop (mkF m pc' Ls (.int v :: st)))) : Runs p e below E (T.setTop (mkF m pc Ls st)) := by
  subst hp; exact K.by fun _ k => XS.iload X.here hx rfl hd hl k
theorem w_iloadN (X : Stand p l e Rm s m args below meth c T locs cells slots) (hx : p.tables.exec = Jvm.exec) {k : Fin 4} {v : Int32} (hd : decode c.code pc = .ok (.iload_n k, 1)) (hl : Ls[k.val]? = some (.val (.int v))) (hp : pc + 1 = pc') (K : Runs p e below E (T.setTop (mkF m pc' Ls (.int v :: st)))) : Runs p e below E (T.setTop (mkF m pc Ls st)) := by
  subst hp; exact K.by fun _ k => XS.iloadN X.here hx rfl hd hl k
theorem w_istore (X : Stand p l e Rm s m args below meth c T locs cells slots) (hx : p.tables.exec = Jvm.exec) {k : Nat} {x : Int32} {L' : Array Slot} (hd : decode c.code pc = .ok (.istore k, 2)) (hl : storeLocals Ls k (.int x) = some L') (hp : pc + 2 = pc') (K : Runs p e below E (T.setTop (mkF m pc' L' st))) : Runs p e below E (T.setTop (mkF m pc Ls (.int x :: st))) := by
  subst hp; exact K.by fun _ k => XS.istore X.here hx rfl hd rfl hl k
theorem w_astore (X : Stand p l e Rm s m args below meth c T locs cells slots) (hx : p.tables.exec = Jvm.exec) {k : Nat} {x : Value} {L' : Array Slot} (hd : decode c.code pc = .ok (.astore k, 2)) (hv : x.isRef = true) (hl : storeLocals Ls k x = some L') (hp : pc + 2 = pc') (K : Runs p e below E (T.setTop (mkF m pc' L' st))) : Runs p e below E (T.setTop (mkF m pc Ls (x :: st))) := by
  subst hp; exact K.by fun _ k => XS.astore X.here hx rfl hd rfl hv hl k
theorem w_iconst (X : Stand p l e Rm s m args below meth c T locs cells slots) (hx : p.tables.exec = Jvm.exec) {i : Int} {v : Int32} (hd : decode c.code pc = .ok (.iconst i, 1)) (hv : Int32.ofInt i = v) (hp : pc + 1 = pc') (K : Runs p e below E (T.setTop (mkF m pc' Ls (.int v :: st)))) : Runs p e below E (T.setTop (mkF m pc Ls st)) := by
  subst hp; exact K.by fun _ k => XT.iconstV X.here hx rfl v hd hv k
theorem w_bipush (X : Stand p l e Rm s m args below meth c T locs cells slots) (hx : p.tables.exec = Jvm.exec) {i : Int} {v : Int32} (hd : decode c.code pc = .ok (.bipush i, 2)) (hv : (Int8.ofInt i).toInt32 = v) (hp : pc + 2 = pc') (K : Runs p e below E (T.setTop (mkF m pc' Ls (.int v :: st)))) : Runs p e below E (T.setTop (mkF m pc Ls st)) := by
  subst hp; exact K.by fun _ k => XT.bipushV X.here hx rfl v hd hv k
theorem w_sipush (X : Stand p l e Rm s m args below meth c T locs cells slots) (hx : p.tables.exec = Jvm.exec) {i : Int} {v : Int32} (hd : decode c.code pc = .ok (.sipush i, 3)) (hv : (Int16.ofInt i).toInt32 = v) (hp : pc + 3 = pc') (K : Runs p e below E (T.setTop (mkF m pc' Ls (.int v :: st)))) : Runs p e below E (T.setTop (mkF m pc Ls st)) := by
  subst hp; exact K.by fun _ k => XT.sipushV X.here hx rfl v hd hv k
theorem w_null (X : Stand p l e Rm s m args below meth c T locs cells slots) (hx : p.tables.exec = Jvm.exec)  (hd : decode c.code pc = .ok (.aconst_null, 1))  (hp : pc + 1 = pc') (K : Runs p e below E (T.setTop (mkF m pc' Ls (.null :: st)))) : Runs p e below E (T.setTop (mkF m pc Ls st)) := by
  subst hp; exact K.by fun _ k => XS.aconstNull X.here hx rfl hd k
theorem w_iand (X : Stand p l e Rm s m args below meth c T locs cells slots) (hx : p.tables.exec = Jvm.exec) {x y : Int32} (hd : decode c.code pc = .ok (.iand, 1))  (hp : pc + 1 = pc') (K : Runs p e below E (T.setTop (mkF m pc' Ls (.int (x &&& y) :: st)))) : Runs p e below E (T.setTop (mkF m pc Ls (.int y :: .int x :: st))) := by
  subst hp; exact K.by fun _ k => XS.iand X.here hx rfl hd rfl k
theorem w_i2c (X : Stand p l e Rm s m args below meth c T locs cells slots) (hx : p.tables.exec = Jvm.exec) {x : Int32} (hd : decode c.code pc = .ok (.i2c, 1))  (hp : pc + 1 = pc') (K : Runs p e below E (T.setTop (mkF m pc' Ls (.int (x.toUInt32.toUInt16.toUInt32.toInt32) :: st)))) : Runs p e below E (T.setTop (mkF m pc Ls (.int x :: st))) := by
  subst hp; exact K.by fun _ k => XS.i2c X.here hx rfl hd rfl k
theorem w_iushr (X : Stand p l e Rm s m args below meth c T locs cells slots) (hx : p.tables.exec = Jvm.exec) {x y : Int32} (hd : decode c.code pc = .ok (.iushr, 1))  (hp : pc + 1 = pc') (K : Runs p e below E (T.setTop (mkF m pc' Ls (.int ((x.toUInt32 >>> (y &&& 31).toUInt32).toInt32) :: st)))) : Runs p e below E (T.setTop (mkF m pc Ls (.int y :: .int x :: st))) := by
  subst hp; exact K.by fun _ k => XS.iushr X.here hx rfl hd rfl k
theorem w_dup (X : Stand p l e Rm s m args below meth c T locs cells slots) (hx : p.tables.exec = Jvm.exec) {x : Value} (hd : decode c.code pc = .ok (.dup, 1)) (hc : x.category = 1) (hp : pc + 1 = pc') (K : Runs p e below E (T.setTop (mkF m pc' Ls (x :: x :: st)))) : Runs p e below E (T.setTop (mkF m pc Ls (x :: st))) := by
  subst hp; exact K.by fun _ k => XS.dup X.here hx rfl hd rfl hc k
theorem w_goto (X : Stand p l e Rm s m args below meth c T locs cells slots) (hx : p.tables.exec = Jvm.exec) {o : Int} (hd : decode c.code pc = .ok (.goto o, 3))  (ho : 0 ≤ (pc : Int) + o) (hp : ((pc : Int) + o).toNat = pc') (K : Runs p e below E (T.setTop (mkF m pc' Ls st))) : Runs p e below E (T.setTop (mkF m pc Ls st)) := by
  exact K.by fun _ k => XS.goto X.here hx rfl rfl hd ho hp k
theorem w_ifY (X : Stand p l e Rm s m args below meth c T locs cells slots) (hx : p.tables.exec = Jvm.exec) {cd : ClassFile.Cond} {x : Int32} {o : Int} (hd : decode c.code pc = .ok (.ifCond cd o, 3)) (hc : if_icmp.holds cd x 0 = true) (ho : 0 ≤ (pc : Int) + o) (hp : ((pc : Int) + o).toNat = pc') (K : Runs p e below E (T.setTop (mkF m pc' Ls st))) : Runs p e below E (T.setTop (mkF m pc Ls (.int x :: st))) := by
  exact K.by fun _ k => XS.ifYes X.here hx rfl rfl hd rfl ((if0 _ _).trans hc) ho hp k
theorem w_ifN (X : Stand p l e Rm s m args below meth c T locs cells slots) (hx : p.tables.exec = Jvm.exec) {cd : ClassFile.Cond} {x : Int32} {o : Int} (hd : decode c.code pc = .ok (.ifCond cd o, 3)) (hc : if_icmp.holds cd x 0 = false) (hp : pc + 3 = pc') (K : Runs p e below E (T.setTop (mkF m pc' Ls st))) : Runs p e below E (T.setTop (mkF m pc Ls (.int x :: st))) := by
  subst hp; exact K.by fun _ k => XS.ifNo X.here hx rfl hd rfl ((if0 _ _).trans hc) k
theorem w_icN (X : Stand p l e Rm s m args below meth c T locs cells slots) (hx : p.tables.exec = Jvm.exec) {cd : ClassFile.Cond} {x y : Int32} {o : Int} (hd : decode c.code pc = .ok (.if_icmp cd o, 3)) (hc : if_icmp.holds cd x y = false) (hp : pc + 3 = pc') (K : Runs p e below E (T.setTop (mkF m pc' Ls st))) : Runs p e below E (T.setTop (mkF m pc Ls (.int y :: .int x :: st))) := by
  subst hp; exact K.by fun _ k => XS.icmpNo X.here hx rfl hd rfl hc k
theorem w_acmp (X : Stand p l e Rm s m args below meth c T locs cells slots) (hx : p.tables.exec = Jvm.exec) {cd : ACond} {x y : Value} {o : Int} {same : Bool} (hd : decode c.code pc = .ok (.if_acmp cd o, 3)) (h1 : x.isRef = true) (h2 : y.isRef = true) (hq : decide (x = y) = same) (ho : 0 ≤ (pc : Int) + o) (hp : pc' = if acV cd same = true then ((pc : Int) + o).toNat else pc + 3) (K : Runs p e below E (T.setTop (mkF m pc' Ls st))) : Runs p e below E (T.setTop (mkF m pc Ls (y :: x :: st))) := by
  exact K.by fun _ k => Jvm.RoadKit.acmp (g := mkF m pc Ls _) X hx rfl h1 h2 rfl hd rfl hq ho hp k
theorem w_getF (X : Stand p l e Rm s m args below meth c T locs cells slots) (hx : p.tables.exec = Jvm.exec) {Z : State} {a0 : Array Value} {h : Heap} {own R0 O n d : String} (host : String) {index : Nat} {a : Addr} {v : Value} (hZ : Z.Warmed39 s.vm) (hown : s.vm.findClass own = some m.cls) (w : (Cond.fieldLink own index R0 n d).before a0 Z = true ∨ (Cond.fieldLinkNest own index R0 n d host).before a0 Z = true) (via : Via Z R0 O n d) (eT : T.heap = h) (F : Fld Z h a O n d v) (hd : decode c.code pc = .ok (.getfield index, 3)) (hp : pc + 3 = pc') (K : ∀ T' : State, Stand p l e Rm s m args below meth c T' locs cells slots → T'.heap = h → Runs p e below E (T'.setTop (mkF m pc' Ls (v :: st)))) : Runs p e below E (T.setTop (mkF m pc Ls (.ref a :: st))) := by
  subst hp
  obtain ⟨T1, X1, e1, st1⟩ := getF X hx hZ hown (host := host) w via eT F (g := mkF m pc Ls (.ref a :: st)) rfl rfl hd
  exact (K T1 X1 e1).by st1
theorem w_putF (X : Stand p l e Rm s m args below meth c T locs cells slots) (hx : p.tables.exec = Jvm.exec) {Z : State} {a0 : Array Value} {h : Heap} {own R0 O n d C : String} (host : String) {index kk : Nat} {ty : FieldType} {a : Addr} {v old : Value} (hZ : Z.Warmed39 s.vm) (hown : s.vm.findClass own = some m.cls) (w : (Cond.fieldLink own index R0 n d).before a0 Z = true ∨ (Cond.fieldLinkNest own index R0 n d host).before a0 Z = true) (via : Via Z R0 O n d) (eT : T.heap = h) (F : Fld Z h a O n d old) (Ex : Exa Z h a C) (Ly : (Cond.lays C O n d).before a0 Z = true ∨ ((Cond.laysFinal C O n d).before a0 Z = true ∧ own = O ∧ meth.name = "<init>")) (wi : (Cond.instantiable C kk).before a0 Z = true) (hty : parseFieldDescriptor d = some ty) (hn : narrow ty v = v) (hf : fits ty v = true) (hd : decode c.code pc = .ok (.putfield index, 3)) (hp : pc + 3 = pc') (K : ∀ (T' : State) (h' : Heap), Stand p l e Rm s m args below meth c T' (locs ++ [⟨a, slotOf Z O n d⟩]) cells slots → T'.heap = h' → Wr h h' a (slotOf Z O n d) v → Runs p e below E (T'.setTop (mkF m pc' Ls st))) : Runs p e below E (T.setTop (mkF m pc Ls (v :: .ref a :: st))) := by
  subst hp
  obtain ⟨T1, h1, X1, e1, W1, st1⟩ := putF X hx hZ hown (host := host) w via eT F Ex Ly wi hty hn hf (g := mkF m pc Ls (v :: .ref a :: st)) rfl rfl hd
  exact (K T1 h1 X1 e1 W1).by st1
theorem w_putFN (X : Stand p l e Rm s m args below meth c T locs cells slots) (hx : p.tables.exec = Jvm.exec) {Z : State} {a0 : Array Value} {h : Heap} {own R0 O n d C : String} {index kk : Nat} {ty : FieldType} {a : Addr} {v v' old : Value} (hZ : Z.Warmed39 s.vm) (hown : s.vm.findClass own = some m.cls) (w : (Cond.fieldLink own index R0 n d).before a0 Z = true) (via : Via Z R0 O n d) (eT : T.heap = h) (F : Fld Z h a O n d old) (Ex : Exa Z h a C) (Ly : (Cond.lays C O n d).before a0 Z = true ∨ ((Cond.laysFinal C O n d).before a0 Z = true ∧ own = O ∧ meth.name = "<init>")) (wi : (Cond.instantiable C kk).before a0 Z = true) (hty : parseFieldDescriptor d = some ty) (hn : narrow ty v = v') (hf : fits ty v' = true) (hd : decode c.code pc = .ok (.putfield index, 3)) (hp : pc + 3 = pc') (K : ∀ (T' : State) (h' : Heap), Stand p l e Rm s m args below meth c T' (locs ++ [⟨a, slotOf Z O n d⟩]) cells slots → T'.heap = h' → Wr h h' a (slotOf Z O n d) v' → Runs p e below E (T'.setTop (mkF m pc' Ls st))) : Runs p e below E (T.setTop (mkF m pc Ls (v :: .ref a :: st))) := by
  subst hp
  obtain ⟨T1, h1, X1, e1, W1, st1⟩ := putFN X hx hZ hown w via eT F Ex Ly wi hty hn hf (g := mkF m pc Ls (v :: .ref a :: st)) rfl rfl hd
  exact (K T1 h1 X1 e1 W1).by st1
theorem w_new (X : Stand p l e Rm s m args below meth c T locs cells slots) (hx : p.tables.exec = Jvm.exec) {Z : State} {a0 : Array Value} {h : Heap} {own C : String} {index n : Nat} (hZ : Z.Warmed39 s.vm) (hown : s.vm.findClass own = some m.cls) (w : (Cond.classLink own index C).before a0 Z = true) (wi : (Cond.instantiable C n).before a0 Z = true) (wz : (Cond.initialized C).before a0 Z = true) (eT : T.heap = h) (hd : decode c.code pc = .ok (.new index, 3)) (hc : cells + 1 ≤ Rm.cells) (hl : slots + n ≤ Rm.slots) (hp : pc + 3 = pc') (K : ∀ (T' : State) (h' : Heap) (b : Addr), Stand p l e Rm s m args below meth c T' locs (cells + 1) (slots + n) → T'.heap = h' → Ext h h' → b = h.size → Exa Z h' b C → (∀ {O nm d : String} {ty : FieldType}, Laid Z a0 C O nm d → parseFieldDescriptor d = some ty → Fld Z h' b O nm d (defaultValue ty)) → Runs p e below E (T'.setTop (mkF m pc' Ls (.ref b :: st)))) : Runs p e below E (T.setTop (mkF m pc Ls st)) := by
  subst hp
  obtain ⟨T1, h1, X1, e1, E1, A1, D1, -, st1⟩ := newO X hx hZ hown w wi wz eT (g := mkF m pc Ls st) rfl hd hc hl
  exact (K T1 h1 _ X1 e1 E1 rfl A1 D1).by st1
theorem w_newP (X : Stand p l e Rm s m args below meth c T locs cells slots) (hx : p.tables.exec = Jvm.exec) {Z : State} {a0 : Array Value} {h : Heap} (aty : ArrayType) (ty : FieldType) {n : Int32} (cap : Nat) (hty : newarray.typeOf aty = ty) (hZ : Z.Warmed39 s.vm) (w : (Cond.arrayClass ty).before a0 Z = true) (eT : T.heap = h) (hd : decode c.code pc = .ok (.newarray aty, 2)) (hn : ¬ n < 0) (hcap : n.toNatClampNeg ≤ cap) (hb : cap * 8 ≤ 536870912) (hc : cells + 1 ≤ Rm.cells) (hl : slots + cap ≤ Rm.slots) (hp : pc + 2 = pc') (K : ∀ (T' : State) (h' : Heap) (k : ClassId) (b : Addr), Stand p l e Rm s m args below meth c T' locs (cells + 1) (slots + cap) → T'.heap = h' → Ext h h' → b = h.size → Arr Z h' b (newA k ty n) ty → Runs p e below E (T'.setTop (mkF m pc' Ls (.ref b :: st)))) : Runs p e below E (T.setTop (mkF m pc Ls (.int n :: st))) := by
  subst hp
  subst hty
  obtain ⟨T1, h1, k1, X1, e1, E1, A1, st1⟩ := newP X hx hZ w eT (g := mkF m pc Ls (.int n :: st)) rfl hd rfl hn hcap hb hc hl
  exact (K T1 h1 k1 _ X1 e1 E1 rfl A1).by st1
theorem w_stC (X : Stand p l e Rm s m args below meth c T locs cells slots) (hx : p.tables.exec = Jvm.exec) {Z : State} {h : Heap} {a : Addr} {cl : Cell} {j : Int32} {x : Int32} (hZ : Z.Warmed39 s.vm) (eT : T.heap = h) (A : Arr Z h a cl .char) (hj : ¬ (j < 0 ∨ cl.slots.size ≤ j.toNatClampNeg)) (hd : decode c.code pc = .ok (.castore, 1)) (hp : pc + 1 = pc') (K : ∀ (T' : State) (h' : Heap), Stand p l e Rm s m args below meth c T' (locs ++ [⟨a, j.toNatClampNeg⟩]) cells slots → T'.heap = h' → Wr h h' a j.toNatClampNeg (.int (nar .char x)) → Runs p e below E (T'.setTop (mkF m pc' Ls st))) : Runs p e below E (T.setTop (mkF m pc Ls (.int x :: .int j :: .ref a :: st))) := by
  subst hp
  obtain ⟨T1, h1, X1, e1, W1, st1⟩ := stC X hx hZ eT A (j := j) hj (g := mkF m pc Ls (.int x :: .int j :: .ref a :: st)) rfl rfl hd
  exact (K T1 h1 X1 e1 W1).by st1
theorem w_initO (X : Stand p l e Rm s m args below meth c T locs cells slots) (hx : p.tables.exec = Jvm.exec) {Z : State} {a0 : Array Value} {h : Heap} {own : String} {index : Nat} {a : Addr} (W : Nat) (hZ : Z.Warmed39 s.vm) (hown : s.vm.findClass own = some m.cls) (w1 : (Cond.methodLink own index Lib.objectInit).before a0 Z = true) (w2 : (Cond.instanceMethod Lib.objectInit).before a0 Z = true) (w3 : (Cond.code Lib.objectInit ⟨#[0xb1]⟩ 1 none).before a0 Z = true) (eT : T.heap = h) (hsz : Ls.size = c.maxLocals) (hd : decode c.code pc = .ok (.invokespecial index, 3)) (hf : 1 ≤ Rm.frames) (hW : (st.map fun v => v.category).sum ≤ W) (hl : W + 12 ≤ Rm.locals) (hp : pc + 3 = pc') (K : ∀ T' : State, Stand p l e Rm s m args below meth c T' locs cells slots → T'.heap = h → Runs p e below E (T'.setTop (mkF m pc' Ls st))) : Runs p e below E (T.setTop (mkF m pc Ls (.ref a :: st))) := by
  subst hp
  obtain ⟨T1, X1, e1, st1⟩ := initO X hx hZ hown w1 w2 w3 eT (g := mkF m pc Ls (.ref a :: st)) rfl hsz rfl hd hf (W := W) (by show 2 * 0 + _ ≤ _; omega) hl
  exact (K T1 X1 e1).by st1
theorem w_special (X : Stand p l e Rm s m args below meth c T locs cells slots) (hx : p.tables.exec = Jvm.exec) {stk : List Value} {own : String} {index : Nat} {y : MethodName} {bytes : ByteArray} {maxL : Nat} {a : Addr} {W : Nat} {Pre : Pt → Array Value → Prop} {Post : Pt → Array Value → Option Value → Pt → Prop} (hy1 : y.name = "<init>") (hown : s.vm.findClass own = some m.cls) (hlink : (Cond.methodLink own index y).before args s = true) (hinst : (Cond.instanceMethod y).before args s = true) (hcode : (Cond.code y bytes maxL none).before args s = true) (hy : y.cls ≠ "java/lang/invoke/MethodHandle" ∧ y.cls ≠ "java/lang/invoke/VarHandle") (hK : Back l Rm p e below s args y 3 W Pre Post) (hsz : Ls.size = c.maxLocals) (argsL : List Value) (hlen : ∀ sig, parseMethodDescriptor y.desc = some sig → argsL.length = sig.parameters.length) (hst : stk = argsL.reverse ++ .ref a :: st) (hW : (st.map fun v => v.category).sum ≤ W) (hd : decode c.code pc = .ok (.invokespecial index, 3)) (hpre : ∀ vm₁, s.WarmedH vm₁ → Pre ⟨T.setVm vm₁, locs, cells, slots⟩ (.ref a :: argsL).toArray) (hp : pc + 3 = pc') (K : ∀ (v : Option Value) (vm₁ : Vm) (B : Pt), Stand p l e Rm s m args below meth c B.U B.locs B.cells B.slots → Post ⟨T.setVm vm₁, locs, cells, slots⟩ (.ref a :: argsL).toArray v B → Runs p e below E (B.U.setTop (mkF m pc' Ls (v.toList ++ st)))) : Runs p e below E (T.setTop (mkF m pc Ls stk)) := by
  subst hp
  obtain ⟨v1, vm1, B1, -, X1, q1, st1⟩ := X.specialBack hx hy1 hown hlink hinst hcode hy hK (g := mkF m pc Ls stk) rfl hsz (Steps.refl _) (a := a) (argsL := argsL) (rest := st) hlen hst (by show 2 * 0 + _ ≤ _; omega) hd hpre
  exact (K v1 vm1 B1 X1 q1).tr st1
theorem w_virtual (X : Stand p l e Rm s m args below meth c T locs cells slots) (hx : p.tables.exec = Jvm.exec) {stk : List Value} {own C : String} {index : Nat} {y z : MethodName} {b : Addr} {cB : ClassId} {W : Nat} {Pre : Pt → Array Value → Prop} {Post : Pt → Array Value → Option Value → Pt → Prop} (hown : s.vm.findClass own = some m.cls) (hlink : (Cond.methodLink own index y).before args s = true) (hdecl : (Cond.declares y).before args s = true) (hnf : NotFace s y) (hsel : (Cond.selects C y z).before args s = true) (hinst : (Cond.instanceMethod z).before args s = true) (hy : y.cls ≠ "java/lang/invoke/MethodHandle" ∧ y.cls ≠ "java/lang/invoke/VarHandle") (hK : Back l Rm p e below s args z 3 W Pre Post) (hcB : s.vm.findClass C = some cB) (hrecv : IsOf cB T b) (hsz : Ls.size = c.maxLocals) (argsL : List Value) (hlen : ∀ sig, parseMethodDescriptor y.desc = some sig → argsL.length = sig.parameters.length) (hst : stk = argsL.reverse ++ .ref b :: st) (hW : (st.map fun v => v.category).sum ≤ W) (hd : decode c.code pc = .ok (.invokevirtual index, 3)) (hpre : ∀ vm₁, s.WarmedH vm₁ → Pre ⟨T.setVm vm₁, locs, cells, slots⟩ (.ref b :: argsL).toArray) (hp : pc + 3 = pc') (K : ∀ (v : Option Value) (vm₁ : Vm) (B : Pt), Stand p l e Rm s m args below meth c B.U B.locs B.cells B.slots → Post ⟨T.setVm vm₁, locs, cells, slots⟩ (.ref b :: argsL).toArray v B → Runs p e below E (B.U.setTop (mkF m pc' Ls (v.toList ++ st)))) : Runs p e below E (T.setTop (mkF m pc Ls stk)) := by
  subst hp
  obtain ⟨v1, vm1, B1, -, X1, q1, st1⟩ := X.virtualBack hx hown hlink hdecl hnf hsel hinst hy hK hcB hrecv (g := mkF m pc Ls stk) rfl hsz (Steps.refl _) (argsL := argsL) (rest := st) hlen hst (by show 2 * 0 + _ ≤ _; omega) hd hpre
  exact (K v1 vm1 B1 X1 q1).tr st1
end W

/-- a body's contract, and how a walk shows it -/
abbrev MetN (l : Launch) (Z : State) (y : MethodName) (bytes : ByteArray) (maxL : Nat) (ret : Option FieldType) (ws : List Cond) (rm : Room) (as' : Array Value) (h : Heap) (Q : Option Value → Heap → List Loc → Prop) : Prop :=
  MetFree l y (head1 (Cond.code y bytes maxL ret :: ws) rm) (fun a U => a = as' ∧ Z.Warmed39 U.vm ∧ U.heap = h) (fun _ _ _ _ _ => True) (fun _ U o U' => ∃ v L, o = .returned v ∧ Q v U'.heap L ∧ FrameEnd U o U' L rm.cells rm.slots)
theorem MetN.of {l : Launch} {Z : State} {y : MethodName} {bytes : ByteArray} {maxL : Nat} {ret : Option FieldType} {ws : List Cond} {rm : Room} {as' : Array Value} {h : Heap} {Q : Option Value → Heap → List Loc → Prop} (hp : plainFor y = true)
    (H : ∀ (p : Program) (e : Env) (s : State) (m : MethodId) (below : List Frame) (meth : Method) (c : Code) (s₁ : State), meth.sig.returnType = ret → p.tables.exec = Jvm.exec → c.code = bytes → c.maxLocals = maxL → s.vm.findClass y.cls = some m.cls → meth.name = y.name → meth.locks = false → Z.Warmed39 s.vm → Stand p l e rm s m as' below meth c s₁ [] 0 0 → s₁.heap = h → Runs p e below (EndN s Q rm.cells rm.slots) (s₁.setTop (entryFrame m as' maxL))) :
    MetN l Z y bytes maxL ret ws rm as' h Q := by
  refine MetFree.of_bodySF hp hisR ?_
  intro p e s m args below meth c s₁ Bd hml hP hK
  obtain ⟨rfl, hZ, hh⟩ := hP
  exact H p e s m below meth c s₁ Bd.returns Bd.exec Bd.bytes hml (findClass_of_methodNamed Bd.named) (name_of_methodNamed Bd.named Bd.method).1 Bd.notSynchronized hZ (Stand.of_body Bd) (by rw [← hh, Bd.state]; rfl)
abbrev MetH (l : Launch) (Z : State) (EL : List (String × Nat)) (y : MethodName) (bytes : ByteArray) (maxL : Nat) (ret : Option FieldType) (ws : List Cond) (rm : Room) (as' : Array Value) (h : Heap) (Q : Option Value → Heap → List Loc → (Addr → Prop) → Prop) (sf : List Addr) : Prop :=
  MetFree l y (head1 (Cond.code y bytes maxL ret :: ws) rm) (fun a U => a = as' ∧ Z.Warmed39 U.vm ∧ U.heap = h ∧ CHv Z EL U.vm h ∧ ∀ x ∈ sf, Safe Z EL U.vm h x) (fun _ _ _ _ _ => True) (fun _ U o U' => ∃ v L, o = .returned v ∧ Q v U'.heap L (Safe Z EL U'.vm U'.heap) ∧ CHr Z EL U.vm U.heap U'.vm U'.heap ∧ ReturnedEndW U o U' L rm.cells rm.slots)
theorem MetH.of {l : Launch} {Z : State} {EL : List (String × Nat)} {y : MethodName} {bytes : ByteArray} {maxL : Nat} {ret : Option FieldType} {ws : List Cond} {rm : Room} {as' : Array Value} {h : Heap} {Q : Option Value → Heap → List Loc → (Addr → Prop) → Prop} {sf : List Addr} (hp : plainFor y = true)
    (H : ∀ (p : Program) (e : Env) (s : State) (m : MethodId) (below : List Frame) (meth : Method) (c : Code) (s₁ : State), meth.sig.returnType = ret → p.tables.exec = Jvm.exec → c.code = bytes → c.maxLocals = maxL → s.vm.findClass y.cls = some m.cls → meth.name = y.name → meth.locks = false → Z.Warmed39 s.vm → Stand p l e rm (s.setVm s.vm) m as' below meth c s₁ [] 0 0 → s₁.heap = h → s.heap = h → CHv Z EL s.vm h → (∀ x ∈ sf, Safe Z EL s.vm h x) → s.Since s.vm h.size → CHr Z EL s.vm h s.vm h → Runs p e below (EndH s Z EL Q rm.cells rm.slots) (s₁.setTop (entryFrame m as' maxL))) :
    MetH l Z EL y bytes maxL ret ws rm as' h Q sf := by
  refine MetFree.of_bodySF hp hisR ?_
  intro p e s m args below meth c s₁ Bd hml hP hK
  obtain ⟨rfl, hZ, hh, hH, hsf⟩ := hP
  exact H p e s m below meth c s₁ Bd.returns Bd.exec Bd.bytes hml (findClass_of_methodNamed Bd.named) (name_of_methodNamed Bd.named Bd.method).1 Bd.notSynchronized hZ (Stand.of_body Bd) (by rw [← hh, Bd.state]; rfl) hh hH hsf ((State.WarmedH.refl s).since _) (CHr.refl hH)
end Jvm.RoadKit
/- laws to paste: Road.backV (cut by pick.py; bodies as the Statement names them) -/
namespace Jvm.Pilot.@@N@@
namespace StrChars
open Jvm Sem ClassFile Op Lib Jvm.Stand Jvm.Free.XT Jvm.Free.ALB Jvm.Free.JM Jvm.Free
open Jvm.Lib.Cold (StaticIs)
/-- a char array whose places are chars -/
def Ch (a : Addr) (A : Cell) (U : State) : Prop := Arr .char a A U ∧ Typed .char A
theorem Ch.mv {a : Addr} {A : Cell} {U U' : State} (h : Ch a A U) (hal : U.vm.Alike U'.vm) (hh : U'.heap = U.heap) : Ch a A U' := ⟨h.1.mv hal hh, h.2⟩
theorem Ch.keep {a : Addr} {A : Cell} {U U' : State} (h : Ch a A U) (hal : U.vm.Alike U'.vm) (hk : U'.heap[a]? = some A) : Ch a A U' := ⟨h.1.keep hal hk, h.2⟩
/-- what place i of a char[]'s cell holds -/
def cv (A : Cell) (i : Nat) : Int32 := match A.slots[i]? with | some (.int x) => x | _ => 0
theorem Ch.get {a : Addr} {A : Cell} {U : State} (h : Ch a A U) {i : Nat} (hi : i < A.slots.size) : A.slots[i]? = some (.int (cv A i)) := by
  have e := Array.getElem?_eq_getElem hi
  have f := h.2 i _ e
  unfold cv; rw [e]
  generalize A.slots[i] = v at f
  cases v <;> simp [fits] at f ⊢
/-- the byte that i2b leaves of a char -/
def lo8 (x : Int32) : Int32 := x.toInt8.toInt32
theorem fits_lo8 (y : Int32) : fits .byte (.int (lo8 y)) = true := by
  have h1 := y.toInt8.le_toInt
  have h2 := y.toInt8.toInt_lt
  simp only [lo8, fits, Bool.and_eq_true, decide_eq_true_eq, Int32.le_iff_toInt_le, Int8.toInt_toInt32, show (-128 : Int32).toInt = -128 from by decide, show (127 : Int32).toInt = 127 from by decide]
  omega
/-- A' is A but that each place j of lo .. hi - 1 holds f j -/
def Laid (A A' : Cell) (lo hi : Nat) (f : Nat → Value) : Prop := A'.cls = A.cls ∧ A'.vm = A.vm ∧ A'.slots.size = A.slots.size ∧ ∀ i, A'.slots[i]? = if lo ≤ i ∧ i < hi then some (f i) else A.slots[i]?
theorem Laid.zero (A : Cell) (lo : Nat) (f : Nat → Value) : Laid A A lo (lo + 0) f := ⟨rfl, rfl, rfl, fun i => by rw [if_neg (by omega)]⟩
theorem Laid.step {A Ak : Cell} {lo k : Nat} {f : Nat → Value} {v : Value} (h : Laid A Ak lo k f) (hlo : lo ≤ k) (hk : k < Ak.slots.size) (hv : v = f k) : Laid A (Ak.setSlot k v) lo (k + 1) f := by
  refine ⟨h.1, h.2.1, by simpa [Cell.setSlot] using h.2.2.1, fun i => ?_⟩
  by_cases e : k = i
  · subst e; rw [Cell.slots_setSlot_self v hk, if_pos (by omega), hv]
  · rw [Cell.slots_setSlot_ne v e, h.2.2.2 i]
    by_cases q : lo ≤ i ∧ i < k
    · rw [if_pos q, if_pos (by omega)]
    · rw [if_neg q, if_neg (by omega)]
def U16 : String := "java/lang/StringUTF16"
namespace Cmp5
def yN : MethodName := ⟨"java/lang/StringUTF16", "compress", "([CI[BII)I"⟩
abbrev yB : ByteArray := jdk_52_method_21_code
theorem d0 : decode yB 0 = .ok (.iconst 0, 1) := by decide +kernel
theorem d1 : decode yB 1 = .ok (.istore 5, 2) := by decide +kernel
theorem d3 : decode yB 3 = .ok (.iload 5, 2) := by decide +kernel
theorem d5 : decode yB 5 = .ok (.iload 4, 2) := by decide +kernel
theorem d7 : decode yB 7 = .ok (.if_icmp (.ge) 37, 3) := by decide +kernel
theorem d10 : decode yB 10 = .ok (.aload_n 0, 1) := by decide +kernel
theorem d11 : decode yB 11 = .ok (.iload_n 1, 1) := by decide +kernel
theorem d12 : decode yB 12 = .ok (.caload, 1) := by decide +kernel
theorem d13 : decode yB 13 = .ok (.istore 6, 2) := by decide +kernel
theorem d15 : decode yB 15 = .ok (.iload 6, 2) := by decide +kernel
theorem d17 : decode yB 17 = .ok (.sipush 255, 3) := by decide +kernel
theorem d20 : decode yB 20 = .ok (.if_icmp (.le) 6, 3) := by decide +kernel
theorem d26 : decode yB 26 = .ok (.aload_n 2, 1) := by decide +kernel
theorem d27 : decode yB 27 = .ok (.iload_n 3, 1) := by decide +kernel
theorem d28 : decode yB 28 = .ok (.iload 6, 2) := by decide +kernel
theorem d30 : decode yB 30 = .ok (.i2b, 1) := by decide +kernel
theorem d31 : decode yB 31 = .ok (.bastore, 1) := by decide +kernel
theorem d32 : decode yB 32 = .ok (.iinc 1 1, 3) := by decide +kernel
theorem d35 : decode yB 35 = .ok (.iinc 3 1, 3) := by decide +kernel
theorem d38 : decode yB 38 = .ok (.iinc 5 1, 3) := by decide +kernel
theorem d41 : decode yB 41 = .ok (.goto (-38), 3) := by decide +kernel
theorem d44 : decode yB 44 = .ok (.iload 4, 2) := by decide +kernel
theorem d46 : decode yB 46 = .ok (.ireturn, 1) := by decide +kernel
def site : List Cond := []
def tab : Cond := tabOf yN yB 7 (some .int) site
def P (b : Addr) (A : Cell) (d : Addr) (B : Cell) (o q len : Nat) (args : Array Value) (s : State) : Prop := args = #[.ref b, .int (Int32.ofNat o), .ref d, .int (Int32.ofNat q), .int (Int32.ofNat len)] ∧ Ch b A s ∧ Arr .byte d B s ∧ b ≠ d ∧ o + len ≤ A.slots.size ∧ q + len ≤ B.slots.size ∧ ∀ i, i < len → ¬ 255 < cv A (o + i)
def E (b : Addr) (A : Cell) (d : Addr) (B : Cell) (o q len : Nat) (r : Option Value) (s u : State) : Prop := r = some (.int (Int32.ofNat len)) ∧ ∃ B', Put d B' s u ∧ Laid B B' q (q + len) (fun j => Value.int (lo8 (cv A (o + (j - q)))))
/-- no char of the range above 255: len; the places written hold each char's low byte -/
theorem law (l : Launch) (b : Addr) (A : Cell) (d : Addr) (B : Cell) (o q len : Nat) : Law l yN 5 5 0 0 yB 7 (some .int) site (P b A d B o q len) (E b A d B o q len) (copyLocs d q len) 0 0 := by
  refine Law.of_walk (plainFor_of_name (by decide +kernel)) (by decide +kernel) (by decide +kernel) (by decide) (fun _ _ h => by rw [h.1]; rfl) (fun _ U U' hal hh h => ⟨h.1, h.2.1.mv hal hh, h.2.2.1.mv hal hh, h.2.2.2⟩) (fun r U U' V V' h1 hal h2 h => ⟨h.1, h.2.elim fun B' q => ⟨B', q.1.mv h1 h2, q.2⟩⟩) ?_
  intro p e s m args below meth c s₁ X0 hexec hbytes hml hret hlk hnm hown hh0 W hP
  obtain ⟨rfl, hA, hB, hne, l1, l2, hp⟩ := hP
  have c1 : Steps p.tables e below (s₁.setTop (entryFrame m #[.ref b, .int (Int32.ofNat o), .ref d, .int (Int32.ofNat q), .int (Int32.ofNat len)] 7)) (s₁.setTop (mkF m 0 #[.val (.ref b), .val (.int (Int32.ofNat o)), .val (.ref d), .val (.int (Int32.ofNat q)), .val (.int (Int32.ofNat len)), .unset, .unset] [])) := entry rfl
  have hA0 := hA.1.mv X0.warmed.alike hh0
  have hB0 := hB.mv X0.warmed.alike hh0
  have a31 := hA.1.2.2.2
  have c2 : Steps p.tables e below (s₁.setTop (entryFrame m #[.ref b, .int (Int32.ofNat o), .ref d, .int (Int32.ofNat q), .int (Int32.ofNat len)] 7)) (s₁.setTop (mkF m 3 #[.val (.ref b), .val (.int (Int32.ofNat o)), .val (.ref d), .val (.int (Int32.ofNat q)), .val (.int (Int32.ofNat len)), .val (.int 0), .unset] [])) := c1.trans (by
    refine iconstV X0.here hexec rfl 0 (hb hbytes d0) (by decide) ?_
    refine XS.istore X0.here hexec rfl (hb hbytes d1) rfl rfl ?_
    exact Steps.refl _)
  have loop : ∀ (r i : Nat), i + r = len → ∀ (z : Slot), (z = .unset ∨ ∃ w, z = .val w ∧ w.category = 1) → ∀ (Tl : State) (Bk : Cell), Stand p l e { frames := 0, locals := 0, cells := 0, slots := 0 } s m #[.ref b, .int (Int32.ofNat o), .ref d, .int (Int32.ofNat q), .int (Int32.ofNat len)] below meth c Tl ([] ++ copyLocs d q i) 0 0 → Put d Bk s₁ Tl → Laid B Bk q (q + i) (fun j => Value.int (lo8 (cv A (o + (j - q))))) →
      Steps p.tables e below (s₁.setTop (entryFrame m #[.ref b, .int (Int32.ofNat o), .ref d, .int (Int32.ofNat q), .int (Int32.ofNat len)] 7)) (Tl.setTop (mkF m 3 #[.val (.ref b), .val (.int (Int32.ofNat (o + i))), .val (.ref d), .val (.int (Int32.ofNat (q + i))), .val (.int (Int32.ofNat len)), .val (.int (Int32.ofNat i)), z] [])) → ∃ (T' : State) (B' : Cell) (z' : Slot), Stand p l e { frames := 0, locals := 0, cells := 0, slots := 0 } s m #[.ref b, .int (Int32.ofNat o), .ref d, .int (Int32.ofNat q), .int (Int32.ofNat len)] below meth c T' ([] ++ copyLocs d q len) 0 0 ∧ Put d B' s₁ T' ∧ Laid B B' q (q + len) (fun j => Value.int (lo8 (cv A (o + (j - q))))) ∧
      Steps p.tables e below (s₁.setTop (entryFrame m #[.ref b, .int (Int32.ofNat o), .ref d, .int (Int32.ofNat q), .int (Int32.ofNat len)] 7)) (T'.setTop (mkF m 3 #[.val (.ref b), .val (.int (Int32.ofNat (o + len))), .val (.ref d), .val (.int (Int32.ofNat (q + len))), .val (.int (Int32.ofNat len)), .val (.int (Int32.ofNat len)), z'] [])) := by
    intro r
    induction r with
    | zero =>
      intro i hi z hz Tl Bk Xl pl fl cl
      have hil : i = len := by omega
      rw [hil] at Xl fl cl
      exact ⟨Tl, Bk, z, Xl, pl, fl, cl⟩
    | succ r ih =>
      intro i hi z hz Tl Bk Xl pl fl cl
      have all := X0.warmed.alike.symm.trans Xl.warmed.alike
      have hAl := hA0.keep all (pl.other hne hA0.1)
      have hBk := hB0.like all pl.1 fl.1 fl.2.1 fl.2.2.1
      have hlt : q + i < Bk.slots.size := by rw [fl.2.2.1]; omega
      have c3 : Steps p.tables e below (s₁.setTop (entryFrame m #[.ref b, .int (Int32.ofNat o), .ref d, .int (Int32.ofNat q), .int (Int32.ofNat len)] 7)) (Tl.setTop (mkF m 12 #[.val (.ref b), .val (.int (Int32.ofNat (o + i))), .val (.ref d), .val (.int (Int32.ofNat (q + i))), .val (.int (Int32.ofNat len)), .val (.int (Int32.ofNat i)), z] [.int (Int32.ofNat (o + i)), .ref b])) := cl.trans (by
        refine XS.iload Xl.here hexec rfl (hb hbytes d3) rfl ?_
        refine XS.iload Xl.here hexec rfl (hb hbytes d5) rfl ?_
        refine XS.icmpNo Xl.here hexec rfl (hb hbytes d7) rfl (ii_ge_f (lt32 (by omega) (by omega))) ?_
        refine XS.aloadN Xl.here hexec rfl (hb hbytes d10) rfl rfl ?_
        refine XS.iloadN Xl.here hexec rfl (hb hbytes d11) rfl ?_
        exact Steps.refl _)
      have c4 : Steps p.tables e below (s₁.setTop (entryFrame m #[.ref b, .int (Int32.ofNat o), .ref d, .int (Int32.ofNat q), .int (Int32.ofNat len)] 7)) (Tl.setTop (mkF m 13 #[.val (.ref b), .val (.int (Int32.ofNat (o + i))), .val (.ref d), .val (.int (Int32.ofNat (q + i))), .val (.int (Int32.ofNat len)), .val (.int (Int32.ofNat i)), z] [.int (cv A (o + i))])) := c3.trans (by
        refine Xl.aget hexec hAl rfl (hA.get (i := o + i) (by omega)) rfl rfl (hb hbytes d12) ?_
        exact Steps.refl _)
      have c5 : Steps p.tables e below (s₁.setTop (entryFrame m #[.ref b, .int (Int32.ofNat o), .ref d, .int (Int32.ofNat q), .int (Int32.ofNat len)] 7)) (Tl.setTop (mkF m 15 #[.val (.ref b), .val (.int (Int32.ofNat (o + i))), .val (.ref d), .val (.int (Int32.ofNat (q + i))), .val (.int (Int32.ofNat len)), .val (.int (Int32.ofNat i)), .val (.int (cv A (o + i)))] [])) := c4.trans (by
        refine XS.istoreS Xl.here hexec rfl (hb hbytes d13) rfl rfl hz ?_
        exact Steps.refl _)
      have c6 : Steps p.tables e below (s₁.setTop (entryFrame m #[.ref b, .int (Int32.ofNat o), .ref d, .int (Int32.ofNat q), .int (Int32.ofNat len)] 7)) (Tl.setTop (mkF m 31 #[.val (.ref b), .val (.int (Int32.ofNat (o + i))), .val (.ref d), .val (.int (Int32.ofNat (q + i))), .val (.int (Int32.ofNat len)), .val (.int (Int32.ofNat i)), .val (.int (cv A (o + i)))] [.int (lo8 (cv A (o + i))), .int (Int32.ofNat (q + i)), .ref d])) := c5.trans (by
        refine XS.iload Xl.here hexec rfl (hb hbytes d15) rfl ?_
        refine sipushV Xl.here hexec rfl 255 (hb hbytes d17) (by decide) ?_
        refine XS.icmpYes Xl.here hexec rfl (pc0 := 20) rfl (hb hbytes d20) rfl (ii_le_t (hp i (by omega))) (by decide) rfl ?_
        refine XS.aloadN Xl.here hexec rfl (hb hbytes d26) rfl rfl ?_
        refine XS.iloadN Xl.here hexec rfl (hb hbytes d27) rfl ?_
        refine XS.iload Xl.here hexec rfl (hb hbytes d28) rfl ?_
        refine i2b Xl.here hexec rfl (hb hbytes d30) rfl ?_
        exact Steps.refl _)
      obtain ⟨T7, X7, p7, st7⟩ := Xl.aput hexec hBk rfl hlt rfl (fits_lo8 (cv A (o + i))) (g := (mkF m 31 #[.val (.ref b), .val (.int (Int32.ofNat (o + i))), .val (.ref d), .val (.int (Int32.ofNat (q + i))), .val (.int (Int32.ofNat len)), .val (.int (Int32.ofNat i)), .val (.int (cv A (o + i)))] [.int (lo8 (cv A (o + i))), .int (Int32.ofNat (q + i)), .ref d])) rfl (rest := []) rfl (hb hbytes d31)
      have c8 : Steps p.tables e below (s₁.setTop (entryFrame m #[.ref b, .int (Int32.ofNat o), .ref d, .int (Int32.ofNat q), .int (Int32.ofNat len)] 7)) (T7.setTop (mkF m 32 #[.val (.ref b), .val (.int (Int32.ofNat (o + i))), .val (.ref d), .val (.int (Int32.ofNat (q + i))), .val (.int (Int32.ofNat len)), .val (.int (Int32.ofNat i)), .val (.int (cv A (o + i)))] [])) := c6.trans (st7 _ (Steps.refl _))
      have c9 : Steps p.tables e below (s₁.setTop (entryFrame m #[.ref b, .int (Int32.ofNat o), .ref d, .int (Int32.ofNat q), .int (Int32.ofNat len)] 7)) (T7.setTop (mkF m 3 #[.val (.ref b), .val (.int (Int32.ofNat (o + i) + 1)), .val (.ref d), .val (.int (Int32.ofNat (q + i) + 1)), .val (.int (Int32.ofNat len)), .val (.int (Int32.ofNat i + 1)), .val (.int (cv A (o + i)))] [])) := c8.trans (by
        refine iincV X7.here hexec rfl 1 (hb hbytes d32) (by decide) rfl rfl ?_
        refine iincV X7.here hexec rfl 1 (hb hbytes d35) (by decide) rfl rfl ?_
        refine iincV X7.here hexec rfl 1 (hb hbytes d38) (by decide) rfl rfl ?_
        refine XS.goto X7.here hexec rfl (pc0 := 41) rfl (hb hbytes d41) (by decide) rfl ?_
        exact Steps.refl _)
      have c10 : Steps p.tables e below (s₁.setTop (entryFrame m #[.ref b, .int (Int32.ofNat o), .ref d, .int (Int32.ofNat q), .int (Int32.ofNat len)] 7)) (T7.setTop (mkF m 3 #[.val (.ref b), .val (.int (Int32.ofNat (o + (i + 1)))), .val (.ref d), .val (.int (Int32.ofNat (q + (i + 1)))), .val (.int (Int32.ofNat len)), .val (.int (Int32.ofNat (i + 1))), .val (.int (cv A (o + i)))] [])) := by
        have := c9
        rw [succ32, succ32, succ32] at this
        exact this
      exact ih (i + 1) (by omega) _ (Or.inr ⟨_, rfl, rfl⟩) T7 _ (by rw [copyLocs_step, ← List.append_assoc]; exact X7) (pl.trans p7) (fl.step (by omega) hlt (by simp)) c10
  obtain ⟨T9, B9, z9, X9, p9, f9, g9⟩ := loop len 0 (by omega) .unset (Or.inl rfl) s₁ B (by simpa [copyLocs] using X0) ⟨hB0.1, fun _ _ => rfl, rfl⟩ (Laid.zero _ _ _) c2
  have c11 : Steps p.tables e below (s₁.setTop (entryFrame m #[.ref b, .int (Int32.ofNat o), .ref d, .int (Int32.ofNat q), .int (Int32.ofNat len)] 7)) (T9.setTop (mkF m 46 #[.val (.ref b), .val (.int (Int32.ofNat (o + len))), .val (.ref d), .val (.int (Int32.ofNat (q + len))), .val (.int (Int32.ofNat len)), .val (.int (Int32.ofNat len)), z9] [.int (Int32.ofNat len)])) := g9.trans (by
    refine XS.iload X9.here hexec rfl (hb hbytes d3) rfl ?_
    refine XS.iload X9.here hexec rfl (hb hbytes d5) rfl ?_
    refine XS.icmpYes X9.here hexec rfl (pc0 := 7) rfl (hb hbytes d7) rfl (ii_ge_t (nlt32 (by omega) (Nat.le_refl _))) (by decide) rfl ?_
    refine XS.iload X9.here hexec rfl (hb hbytes d44) rfl ?_
    exact Steps.refl _)
  exact ⟨T9, some (.int (Int32.ofNat len)), _, _, _, X9, by simp, rfl, rfl, (fun h => by cases h), ⟨rfl, B9, p9.from hh0, f9⟩, fun fs hl => c11.trans (X9.ireturnOut hexec hret rfl (Or.inl rfl) (hb hbytes d46) hl)⟩
end Cmp5
namespace Cmp3
def yN : MethodName := ⟨"java/lang/StringUTF16", "compress", "([CII)[B"⟩
abbrev yB : ByteArray := jdk_52_method_16_code
theorem d0 : decode yB 0 = .ok (.iload_n 2, 1) := by decide +kernel
theorem d1 : decode yB 1 = .ok (.newarray .byte, 2) := by decide +kernel
theorem d3 : decode yB 3 = .ok (.astore_n 3, 1) := by decide +kernel
theorem d4 : decode yB 4 = .ok (.aload_n 0, 1) := by decide +kernel
theorem d5 : decode yB 5 = .ok (.iload_n 1, 1) := by decide +kernel
theorem d6 : decode yB 6 = .ok (.aload_n 3, 1) := by decide +kernel
theorem d7 : decode yB 7 = .ok (.iconst 0, 1) := by decide +kernel
theorem d8 : decode yB 8 = .ok (.iload_n 2, 1) := by decide +kernel
theorem d9 : decode yB 9 = .ok (.invokestatic 115, 3) := by decide +kernel
theorem d12 : decode yB 12 = .ok (.istore 4, 2) := by decide +kernel
theorem d14 : decode yB 14 = .ok (.iload 4, 2) := by decide +kernel
theorem d16 : decode yB 16 = .ok (.iload_n 2, 1) := by decide +kernel
theorem d17 : decode yB 17 = .ok (.if_icmp (.eq) 40, 3) := by decide +kernel
theorem d57 : decode yB 57 = .ok (.aload_n 3, 1) := by decide +kernel
theorem d58 : decode yB 58 = .ok (.areturn, 1) := by decide +kernel
def site : List Cond := [.arrayClass .byte, Cmp5.tab] ++ staticW U16 115 Cmp5.yN
def tab : Cond := tabOf yN yB 6 (some (.array .byte)) site
def P (b : Addr) (A : Cell) (o len : Nat) (args : Array Value) (s : State) : Prop := args = #[.ref b, .int (Int32.ofNat o), .int (Int32.ofNat len)] ∧ Ch b A s ∧ o + len ≤ A.slots.size ∧ len ≤ 536870912 ∧ ∀ i, i < len → ¬ 255 < cv A (o + i)
def E (b : Addr) (A : Cell) (o len : Nat) (r : Option Value) (s u : State) : Prop := NewArr .byte "[B" len (fun j => .int (lo8 (cv A (o + j)))) r s u ∧ u.heap.size = s.heap.size + 1
/-- no char of the range above 255: a new byte[] of their low bytes -/
theorem law (l : Launch) (b : Addr) (A : Cell) (o len : Nat) : Law l yN 3 3 1 18 yB 6 (some (.array .byte)) site (P b A o len) (E b A o len) [] 1 len := by
  refine Law.of_walk (plainFor_of_name (by decide +kernel)) (by decide +kernel) (by decide +kernel) (by decide) (fun _ _ h => by rw [h.1]; rfl) (fun _ U U' hal hh h => ⟨h.1, h.2.1.mv hal hh, h.2.2⟩) (fun r U U' V V' h1 hal h2 h => ⟨NewArr.mv r U U' V V' h1 hal h2 h.1, by rw [h1, h2]; exact h.2⟩) ?_
  intro p e s m args below meth c s₁ X0 hexec hbytes hml hret hlk hnm hown hh0 W hP
  obtain ⟨rfl, hA, l1, l2, hp⟩ := hP
  have a31 := hA.1.2.2.2
  have c1 : Steps p.tables e below (s₁.setTop (entryFrame m #[.ref b, .int (Int32.ofNat o), .int (Int32.ofNat len)] 6)) (s₁.setTop (mkF m 0 #[.val (.ref b), .val (.int (Int32.ofNat o)), .val (.int (Int32.ofNat len)), .unset, .unset, .unset] [])) := entry rfl
  have c2 : Steps p.tables e below (s₁.setTop (entryFrame m #[.ref b, .int (Int32.ofNat o), .int (Int32.ofNat len)] 6)) (s₁.setTop (mkF m 1 #[.val (.ref b), .val (.int (Int32.ofNat o)), .val (.int (Int32.ofNat len)), .unset, .unset, .unset] [.int (Int32.ofNat len)])) := c1.trans (by
    refine XS.iloadN X0.here hexec rfl (hb hbytes d0) rfl ?_
    exact Steps.refl _)
  obtain ⟨T3, B3, X3, ba3, bs3, bv3, bh3, bf3, st3⟩ := X0.anew hexec (atype := .byte) (wk W (.arrayClass .byte)) rfl (by show len * 1 ≤ _; omega) (by omega) (g := (mkF m 1 #[.val (.ref b), .val (.int (Int32.ofNat o)), .val (.int (Int32.ofNat len)), .unset, .unset, .unset] [.int (Int32.ofNat len)])) rfl (hb hbytes d1) (rest := []) rfl (Nat.le_refl _) (by show 0 + len ≤ len; omega)
  rw [hh0] at ba3 st3
  have kp3 : XT.Kept s T3 := (XT.Kept.of_eq hh0).push bh3
  have hA3 := hA.keep X3.warmed.alike (kp3 _ _ hA.1.1)
  have hne : b ≠ s.heap.size := hA.1.ne
  have c4 : Steps p.tables e below (s₁.setTop (entryFrame m #[.ref b, .int (Int32.ofNat o), .int (Int32.ofNat len)] 6)) (T3.setTop (mkF m 3 #[.val (.ref b), .val (.int (Int32.ofNat o)), .val (.int (Int32.ofNat len)), .unset, .unset, .unset] [.ref s.heap.size])) := c2.trans (st3 _ (Steps.refl _))
  have c5 : Steps p.tables e below (s₁.setTop (entryFrame m #[.ref b, .int (Int32.ofNat o), .int (Int32.ofNat len)] 6)) (T3.setTop (mkF m 9 #[.val (.ref b), .val (.int (Int32.ofNat o)), .val (.int (Int32.ofNat len)), .val (.ref s.heap.size), .unset, .unset] [.int (Int32.ofNat len), .int 0, .ref s.heap.size, .int (Int32.ofNat o), .ref b])) := c4.trans (by
    refine XS.astoreN X3.here hexec rfl (hb hbytes d3) rfl rfl rfl ?_
    refine XS.aloadN X3.here hexec rfl (hb hbytes d4) rfl rfl ?_
    refine XS.iloadN X3.here hexec rfl (hb hbytes d5) rfl ?_
    refine XS.aloadN X3.here hexec rfl (hb hbytes d6) rfl rfl ?_
    refine iconstV X3.here hexec rfl 0 (hb hbytes d7) (by decide) ?_
    refine XS.iloadN X3.here hexec rfl (hb hbytes d8) rfl ?_
    exact Steps.refl _)
  obtain ⟨v6, T6, X6, E6, g6⟩ := X3.callS hexec (Cmp5.law l b A s.heap.size B3 o 0 len) hown (wks W (staticW U16 115 Cmp5.yN)) (wk W Cmp5.tab) (W := 0) (Nat.le_of_ble_eq_true rfl) (Nat.le_of_ble_eq_true rfl) (Nat.le_refl _) (by show 0 + len + 0 ≤ len; omega) (g := (mkF m 9 #[.val (.ref b), .val (.int (Int32.ofNat o)), .val (.int (Int32.ofNat len)), .val (.ref s.heap.size), .unset, .unset] [.int (Int32.ofNat len), .int (Int32.ofNat 0), .ref s.heap.size, .int (Int32.ofNat o), .ref b])) rfl (by rw [hml]; rfl) c5 (argsL := [.ref b, .int (Int32.ofNat o), .ref s.heap.size, .int (Int32.ofNat 0), .int (Int32.ofNat len)]) (rest := []) rfl rfl (by show 2 * 0 + 0 ≤ _; decide) (hb hbytes d9) (⟨rfl, hA3, ba3, hne, l1, by rw [bs3]; simp, hp⟩)
  obtain ⟨rfl, B6, p6, f6⟩ := E6
  have c7 : Steps p.tables e below (s₁.setTop (entryFrame m #[.ref b, .int (Int32.ofNat o), .int (Int32.ofNat len)] 6)) (T6.setTop (mkF m 12 #[.val (.ref b), .val (.int (Int32.ofNat o)), .val (.int (Int32.ofNat len)), .val (.ref s.heap.size), .unset, .unset] [.int (Int32.ofNat len)])) := g6
  have c8 : Steps p.tables e below (s₁.setTop (entryFrame m #[.ref b, .int (Int32.ofNat o), .int (Int32.ofNat len)] 6)) (T6.setTop (mkF m 58 #[.val (.ref b), .val (.int (Int32.ofNat o)), .val (.int (Int32.ofNat len)), .val (.ref s.heap.size), .val (.int (Int32.ofNat len)), .unset] [.ref s.heap.size])) := c7.trans (by
    refine XS.istore X6.here hexec rfl (hb hbytes d12) rfl rfl ?_
    refine XS.iload X6.here hexec rfl (hb hbytes d14) rfl ?_
    refine XS.iloadN X6.here hexec rfl (hb hbytes d16) rfl ?_
    refine XS.icmpYes X6.here hexec rfl (pc0 := 17) rfl (hb hbytes d17) rfl (ii_eq_t rfl) (by decide) rfl ?_
    refine XS.aloadN X6.here hexec rfl (hb hbytes d57) rfl rfl ?_
    exact Steps.refl _)
  have X8 := X6.wide (L' := []) (cells' := 1) (slots' := len) (fun x hx hlt => by
    simp only [List.nil_append, copyLocs, List.mem_map, List.mem_range] at hx
    obtain ⟨i, -, rfl⟩ := hx
    exact absurd hlt (Nat.lt_irrefl _)) (Nat.le_refl _) (by omega)
  exact ⟨T6, some (.ref s.heap.size), _, _, _, X8, rfl, rfl, rfl, (fun h => by cases h), ⟨⟨rfl, B6, ba3.like (X3.warmed.alike.symm.trans X6.warmed.alike) p6.1 f6.1 f6.2.1 f6.2.2.1, f6.2.1.trans bv3, by rw [X6.warmed.alike.findClass, f6.1]; exact bf3, by rw [f6.2.2.1, bs3]; simp, fun j hj => by rw [f6.2.2.2 j, if_pos (by omega)]; rfl, kp3.put p6 (Nat.le_refl _)⟩, by rw [p6.2.2, bh3, hh0]; simp⟩, fun fs hl => c8.trans (X8.areturnOut hexec rfl hret rfl (hb hbytes d58) hl)⟩
end Cmp3
namespace CodL
def yN : MethodName := ⟨"java/lang/StringUTF16", "coderFromArrayLen", "([BI)B"⟩
abbrev yB : ByteArray := jdk_52_method_15_code
theorem d0 : decode yB 0 = .ok (.iload_n 1, 1) := by decide +kernel
theorem d1 : decode yB 1 = .ok (.aload_n 0, 1) := by decide +kernel
theorem d2 : decode yB 2 = .ok (.arraylength, 1) := by decide +kernel
theorem d3 : decode yB 3 = .ok (.isub, 1) := by decide +kernel
theorem d4 : decode yB 4 = .ok (.bipush 31, 2) := by decide +kernel
theorem d6 : decode yB 6 = .ok (.iushr, 1) := by decide +kernel
theorem d7 : decode yB 7 = .ok (.i2b, 1) := by decide +kernel
theorem d8 : decode yB 8 = .ok (.ireturn, 1) := by decide +kernel
def site : List Cond := []
def tab : Cond := tabOf yN yB 2 (some .byte) site
def P (d : Addr) (B : Cell) (args : Array Value) (s : State) : Prop := args = #[.ref d, .int (Int32.ofNat B.slots.size)] ∧ Arr .byte d B s
def E (r : Option Value) (s u : State) : Prop := XT.PureE (some (.int 0)) r s u
/-- an array as long as the number of chars: LATIN1 -/
theorem law (l : Launch) (d : Addr) (B : Cell) : Law l yN 2 2 0 0 yB 2 (some .byte) site (P d B) E [] 0 0 := by
  refine Law.of_walk (plainFor_of_name (by decide +kernel)) (by decide +kernel) (by decide +kernel) (by decide) (fun _ _ h => by rw [h.1]; rfl) (fun _ U U' hal hh h => ⟨h.1, h.2.mv hal hh⟩) (fun r U U' V V' h1 hal h2 h => XT.PureE.mv r U U' V V' h1 hal h2 h) ?_
  intro p e s m args below meth c s₁ X0 hexec hbytes hml hret hlk hnm hown hh0 W hP
  obtain ⟨rfl, hB⟩ := hP
  have hB0 := hB.mv X0.warmed.alike hh0
  have c1 : Steps p.tables e below (s₁.setTop (entryFrame m #[.ref d, .int (Int32.ofNat B.slots.size)] 2)) (s₁.setTop (mkF m 0 #[.val (.ref d), .val (.int (Int32.ofNat B.slots.size))] [])) := entry rfl
  have c2 : Steps p.tables e below (s₁.setTop (entryFrame m #[.ref d, .int (Int32.ofNat B.slots.size)] 2)) (s₁.setTop (mkF m 2 #[.val (.ref d), .val (.int (Int32.ofNat B.slots.size))] [.ref d, .int (Int32.ofNat B.slots.size)])) := c1.trans (by
    refine XS.iloadN X0.here hexec rfl (hb hbytes d0) rfl ?_
    refine XS.aloadN X0.here hexec rfl (hb hbytes d1) rfl rfl ?_
    exact Steps.refl _)
  have c3 : Steps p.tables e below (s₁.setTop (entryFrame m #[.ref d, .int (Int32.ofNat B.slots.size)] 2)) (s₁.setTop (mkF m 8 #[.val (.ref d), .val (.int (Int32.ofNat B.slots.size))] [.int (lo8 (ushr (Int32.ofNat B.slots.size - Int32.ofNat B.slots.size) 31))])) := c2.trans (by
    refine X0.alen hexec hB0 rfl rfl (hb hbytes d2) ?_
    refine XS.isub X0.here hexec rfl (hb hbytes d3) rfl ?_
    refine bipushV X0.here hexec rfl 31 (hb hbytes d4) (by decide) ?_
    refine iushr X0.here hexec rfl (hb hbytes d6) rfl ?_
    refine i2b X0.here hexec rfl (hb hbytes d7) rfl ?_
    exact Steps.refl _)
  have e0 : lo8 (ushr (Int32.ofNat B.slots.size - Int32.ofNat B.slots.size) 31) = 0 := by rw [Int32.sub_self]; decide
  rw [e0] at c3
  exact ⟨s₁, some (.int 0), _, _, _, X0, rfl, rfl, rfl, (fun h => by cases h), ⟨rfl, hh0⟩, fun fs hl => c3.trans (X0.ireturnOut hexec hret rfl (Or.inr (Or.inr (Or.inl rfl))) (hb hbytes d8) hl)⟩
end CodL
/-- the String at a is Latin-1 over a new byte[] (the heap's one new cell): the low bytes of the len chars of A from o on; every cell but a is kept -/
def Got (a : Addr) (D : Cell) (fV fC : Field) (A : Cell) (o len : Nat) (r : Option Value) (s u : State) : Prop := r = none ∧ ∃ D' V : Cell, Blank "java/lang/String" a D' u ∧ Same D D' [fV.slot, fC.slot] ∧ D'.slots[fV.slot]? = some (.ref s.heap.size) ∧ D'.slots[fC.slot]? = some (.int 0) ∧ Arr .byte s.heap.size V u ∧ V.vm = .none ∧ u.vm.findClass "[B" = some V.cls ∧ V.slots.size = len ∧ (∀ j, j < len → V.slots[j]? = some (.int (lo8 (cv A (o + j))))) ∧ (∀ (y : Addr) (c : Cell), y ≠ a → s.heap[y]? = some c → u.heap[y]? = some c) ∧ u.heap.size = s.heap.size + 1
theorem Got.mv {a : Addr} {D A : Cell} {fV fC : Field} {o len : Nat} : ∀ r (U U' V V' : State), U'.heap = U.heap → V.vm.Alike V'.vm → V'.heap = V.heap → Got a D fV fC A o len r U V → Got a D fV fC A o len r U' V' :=
  fun r U U' V V' h1 hal h2 ⟨e0, D', X, a1, a2, a3, a4, a5, a6, a7, a8, a9, a10, a11⟩ => ⟨e0, D', X, a1.mv hal h2, a2, by rw [h1]; exact a3, a4, by rw [h1]; exact a5.mv hal h2, a6, by rw [hal.findClass]; exact a7, a8, a9, by rw [h1, h2]; exact a10, by rw [h1, h2]; exact a11⟩
namespace New4
def yN : MethodName := ⟨"java/lang/String", "<init>", "([CIILjava/lang/Void;)V"⟩
abbrev yB : ByteArray := jdk_42_method_149_code
theorem d0 : decode yB 0 = .ok (.aload_n 0, 1) := by decide +kernel
theorem d1 : decode yB 1 = .ok (.invokespecial 1, 3) := by decide +kernel
theorem d4 : decode yB 4 = .ok (.iload_n 3, 1) := by decide +kernel
theorem d5 : decode yB 5 = .ok (.ifCond (.ne) 22, 3) := by decide +kernel
theorem d27 : decode yB 27 = .ok (.getstatic 38, 3) := by decide +kernel
theorem d30 : decode yB 30 = .ok (.ifCond (.eq) 28, 3) := by decide +kernel
theorem d33 : decode yB 33 = .ok (.aload_n 1, 1) := by decide +kernel
theorem d34 : decode yB 34 = .ok (.iload_n 2, 1) := by decide +kernel
theorem d35 : decode yB 35 = .ok (.iload_n 3, 1) := by decide +kernel
theorem d36 : decode yB 36 = .ok (.invokestatic 177, 3) := by decide +kernel
theorem d39 : decode yB 39 = .ok (.astore 5, 2) := by decide +kernel
theorem d41 : decode yB 41 = .ok (.aload_n 0, 1) := by decide +kernel
theorem d42 : decode yB 42 = .ok (.aload 5, 2) := by decide +kernel
theorem d44 : decode yB 44 = .ok (.iload_n 3, 1) := by decide +kernel
theorem d45 : decode yB 45 = .ok (.invokestatic 47, 3) := by decide +kernel
theorem d48 : decode yB 48 = .ok (.putfield 15, 3) := by decide +kernel
theorem d51 : decode yB 51 = .ok (.aload_n 0, 1) := by decide +kernel
theorem d52 : decode yB 52 = .ok (.aload 5, 2) := by decide +kernel
theorem d54 : decode yB 54 = .ok (.putfield 9, 3) := by decide +kernel
theorem d57 : decode yB 57 = .ok (.return_, 1) := by decide +kernel
def site : List Cond := [.fieldLink "java/lang/String" 38 "java/lang/String" "COMPACT_STRINGS" "Z", Cmp3.tab, CodL.tab, .laysFinal "java/lang/String" "java/lang/String" "value" "[B", .fieldLink "java/lang/String" 9 "java/lang/String" "value" "[B", .laysFinal "java/lang/String" "java/lang/String" "coder" "B", .fieldLink "java/lang/String" 15 "java/lang/String" "coder" "B"] ++ objW "java/lang/String" 1 ++ staticW "java/lang/String" 177 Cmp3.yN ++ staticW "java/lang/String" 47 CodL.yN
def tab : Cond := tabOf yN yB 6 none site
def P (a : Addr) (D : Cell) (fV fC : Field) (b : Addr) (A : Cell) (z : Int32) (o len : Nat) (args : Array Value) (s : State) : Prop := args = #[.ref a, .ref b, .int (Int32.ofNat o), .int (Int32.ofNat len), .null] ∧ Blank "java/lang/String" a D s ∧ Found "java/lang/String" "value" "[B" fV s ∧ Found "java/lang/String" "coder" "B" fC s ∧ Ch b A s ∧ StaticIs s "java/lang/String" "COMPACT_STRINGS" "Z" (.int z) ∧ ¬ z = 0 ∧ 0 < len ∧ o + len ≤ A.slots.size ∧ len ≤ 536870912 ∧ ∀ i, i < len → ¬ 255 < cv A (o + i)
def E (a : Addr) (D : Cell) (fV fC : Field) (A : Cell) (o len : Nat) (r : Option Value) (s u : State) : Prop := Got a D fV fC A o len r s u
/-- len > 0, no char of the range above 255: a Latin-1 String of their low bytes -/
theorem law (l : Launch) (a : Addr) (D : Cell) (fV fC : Field) (b : Addr) (A : Cell) (z : Int32) (o len : Nat) : Law l yN 5 4 2 35 yB 6 none site (P a D fV fC b A z o len) (E a D fV fC A o len) [⟨a, fC.slot⟩, ⟨a, fV.slot⟩] 1 len := by
  refine Law.of_walk (plainFor_of_name (by decide +kernel)) (by decide +kernel) (by decide +kernel) (by decide) (fun _ _ h => by rw [h.1]; rfl) (fun _ U U' hal hh h => ⟨h.1, h.2.1.mv hal hh, h.2.2.1.al hal, h.2.2.2.1.al hal, h.2.2.2.2.1.mv hal hh, h.2.2.2.2.2.1.there hal hh, h.2.2.2.2.2.2⟩) (fun r U U' V V' h1 hal h2 h => Got.mv r U U' V V' h1 hal h2 h) ?_
  intro p e s m args below meth c s₁ X0 hexec hbytes hml hret hlk hnm hown hh0 W hP
  obtain ⟨rfl, hB, f1, f2, hA, s1, hz, l0, l1, l2, hp⟩ := hP
  have a31 := hA.1.2.2.2
  have c1 : Steps p.tables e below (s₁.setTop (entryFrame m #[.ref a, .ref b, .int (Int32.ofNat o), .int (Int32.ofNat len), .null] 6)) (s₁.setTop (mkF m 0 #[.val (.ref a), .val (.ref b), .val (.int (Int32.ofNat o)), .val (.int (Int32.ofNat len)), .val .null, .unset] [])) := entry rfl
  have c2 : Steps p.tables e below (s₁.setTop (entryFrame m #[.ref a, .ref b, .int (Int32.ofNat o), .int (Int32.ofNat len), .null] 6)) (s₁.setTop (mkF m 1 #[.val (.ref a), .val (.ref b), .val (.int (Int32.ofNat o)), .val (.int (Int32.ofNat len)), .val .null, .unset] [.ref a])) := c1.trans (by
    refine XS.aloadN X0.here hexec rfl (hb hbytes d0) rfl rfl ?_
    exact Steps.refl _)
  obtain ⟨T3, X3, q3, st3⟩ := X0.oinit hexec hown (wks W (objW "java/lang/String" 1)) (g := (mkF m 1 #[.val (.ref a), .val (.ref b), .val (.int (Int32.ofNat o)), .val (.int (Int32.ofNat len)), .val .null, .unset] [.ref a])) rfl (by rw [hml]; rfl) (rest := []) rfl (hb hbytes d1) (W := 0) (by show 2 * 0 + 0 ≤ _; decide) (Nat.le_of_ble_eq_true rfl) (Nat.le_of_ble_eq_true rfl)
  have hh3 := q3.trans hh0
  have c4 : Steps p.tables e below (s₁.setTop (entryFrame m #[.ref a, .ref b, .int (Int32.ofNat o), .int (Int32.ofNat len), .null] 6)) (T3.setTop (mkF m 27 #[.val (.ref a), .val (.ref b), .val (.int (Int32.ofNat o)), .val (.int (Int32.ofNat len)), .val .null, .unset] [])) := (c2.trans (st3 _ (Steps.refl _))).trans (by
    refine XS.iloadN X3.here hexec rfl (hb hbytes d4) rfl ?_
    refine XS.ifYes X3.here hexec rfl (pc0 := 5) rfl (hb hbytes d5) rfl (i0_ne_t (nz32 (by omega) l0)) (by decide) rfl ?_
    exact Steps.refl _)
  obtain ⟨T5, X5, q5, st5⟩ := X3.sget hexec hown (wk W (.fieldLink "java/lang/String" 38 "java/lang/String" "COMPACT_STRINGS" "Z")) s1 (fun _ _ h => by rw [hh3]; exact h) (g := (mkF m 27 #[.val (.ref a), .val (.ref b), .val (.int (Int32.ofNat o)), .val (.int (Int32.ofNat len)), .val .null, .unset] [])) rfl (hb hbytes d27)
  have hh5 := q5.trans hh3
  have c6 : Steps p.tables e below (s₁.setTop (entryFrame m #[.ref a, .ref b, .int (Int32.ofNat o), .int (Int32.ofNat len), .null] 6)) (T5.setTop (mkF m 30 #[.val (.ref a), .val (.ref b), .val (.int (Int32.ofNat o)), .val (.int (Int32.ofNat len)), .val .null, .unset] [.int z])) := c4.trans (st5 _ (Steps.refl _))
  have c7 : Steps p.tables e below (s₁.setTop (entryFrame m #[.ref a, .ref b, .int (Int32.ofNat o), .int (Int32.ofNat len), .null] 6)) (T5.setTop (mkF m 36 #[.val (.ref a), .val (.ref b), .val (.int (Int32.ofNat o)), .val (.int (Int32.ofNat len)), .val .null, .unset] [.int (Int32.ofNat len), .int (Int32.ofNat o), .ref b])) := c6.trans (by
    refine XS.ifNo X5.here hexec rfl (hb hbytes d30) rfl (i0_eq_f hz) ?_
    refine XS.aloadN X5.here hexec rfl (hb hbytes d33) rfl rfl ?_
    refine XS.iloadN X5.here hexec rfl (hb hbytes d34) rfl ?_
    refine XS.iloadN X5.here hexec rfl (hb hbytes d35) rfl ?_
    exact Steps.refl _)
  obtain ⟨v8, T8, X8, E8, g8⟩ := X5.callS hexec (Cmp3.law l b A o len) hown (wks W (staticW "java/lang/String" 177 Cmp3.yN)) (wk W Cmp3.tab) (W := 0) (Nat.le_of_ble_eq_true rfl) (Nat.le_of_ble_eq_true rfl) (Nat.le_refl _) (by show 0 + len ≤ len; omega) (g := (mkF m 36 #[.val (.ref a), .val (.ref b), .val (.int (Int32.ofNat o)), .val (.int (Int32.ofNat len)), .val .null, .unset] [.int (Int32.ofNat len), .int (Int32.ofNat o), .ref b])) rfl (by rw [hml]; rfl) c7 (argsL := [.ref b, .int (Int32.ofNat o), .int (Int32.ofNat len)]) (rest := []) rfl rfl (by show 2 * 0 + 0 ≤ _; decide) (hb hbytes d36) (⟨rfl, hA.mv X5.warmed.alike hh5, l1, l2, hp⟩)
  obtain ⟨e8, z8⟩ := E8
  obtain ⟨rfl, N, n1, n2, n3, n4, n5, n6⟩ := NewArr.mv _ T5 s _ _ hh5.symm (Vm.Alike.refl _) rfl e8
  rw [hh5] at z8
  have hB1 := hB.keep X8.warmed.alike (n6 _ _ hB.1)
  have hne : s.heap.size ≠ a := (Nat.ne_of_lt (Array.getElem?_eq_some_iff.mp hB.1).1).symm
  have c9 : Steps p.tables e below (s₁.setTop (entryFrame m #[.ref a, .ref b, .int (Int32.ofNat o), .int (Int32.ofNat len), .null] 6)) (T8.setTop (mkF m 39 #[.val (.ref a), .val (.ref b), .val (.int (Int32.ofNat o)), .val (.int (Int32.ofNat len)), .val .null, .unset] [.ref s.heap.size])) := g8
  have c10 : Steps p.tables e below (s₁.setTop (entryFrame m #[.ref a, .ref b, .int (Int32.ofNat o), .int (Int32.ofNat len), .null] 6)) (T8.setTop (mkF m 45 #[.val (.ref a), .val (.ref b), .val (.int (Int32.ofNat o)), .val (.int (Int32.ofNat len)), .val .null, .val (.ref s.heap.size)] [.int (Int32.ofNat N.slots.size), .ref s.heap.size, .ref a])) := by
    have hc : Steps p.tables e below (s₁.setTop (entryFrame m #[.ref a, .ref b, .int (Int32.ofNat o), .int (Int32.ofNat len), .null] 6)) (T8.setTop (mkF m 45 #[.val (.ref a), .val (.ref b), .val (.int (Int32.ofNat o)), .val (.int (Int32.ofNat len)), .val .null, .val (.ref s.heap.size)] [.int (Int32.ofNat len), .ref s.heap.size, .ref a])) := c9.trans (by
      refine XS.astore X8.here hexec rfl (hb hbytes d39) rfl rfl rfl ?_
      refine XS.aloadN X8.here hexec rfl (hb hbytes d41) rfl rfl ?_
      refine XS.aload X8.here hexec rfl (hb hbytes d42) rfl rfl ?_
      refine XS.iloadN X8.here hexec rfl (hb hbytes d44) rfl ?_
      exact Steps.refl _)
    rw [n4]; exact hc
  obtain ⟨v11, T11, X11, E11, g11⟩ := X8.callS hexec (CodL.law l s.heap.size N) hown (wks W (staticW "java/lang/String" 47 CodL.yN)) (wk W CodL.tab) (W := 1) (Nat.le_of_ble_eq_true rfl) (Nat.le_of_ble_eq_true rfl) (Nat.le_refl _) (by show 0 + len + 0 ≤ len; omega) (g := (mkF m 45 #[.val (.ref a), .val (.ref b), .val (.int (Int32.ofNat o)), .val (.int (Int32.ofNat len)), .val .null, .val (.ref s.heap.size)] [.int (Int32.ofNat N.slots.size), .ref s.heap.size, .ref a])) rfl (by rw [hml]; rfl) c10 (argsL := [.ref s.heap.size, .int (Int32.ofNat N.slots.size)]) (rest := [.ref a]) rfl rfl (by show 2 * 0 + (1 + 0) ≤ _; decide) (hb hbytes d45) (⟨rfl, n1⟩)
  obtain ⟨rfl, q11⟩ := E11
  have hB11 := hB1.mv (X8.warmed.alike.symm.trans X11.warmed.alike) q11
  have c12 : Steps p.tables e below (s₁.setTop (entryFrame m #[.ref a, .ref b, .int (Int32.ofNat o), .int (Int32.ofNat len), .null] 6)) (T11.setTop (mkF m 48 #[.val (.ref a), .val (.ref b), .val (.int (Int32.ofNat o)), .val (.int (Int32.ofNat len)), .val .null, .val (.ref s.heap.size)] [.int 0, .ref a])) := g11
  obtain ⟨T13, X13, p13, bl13, sl13, st13⟩ := X11.finit hexec hown (wk W (.fieldLink "java/lang/String" 15 "java/lang/String" "coder" "B")) (Or.inr ⟨_, (wk W (.laysFinal "java/lang/String" "java/lang/String" "coder" "B"))⟩) (Or.inl ⟨rfl, hnm⟩) f2 (Or.inl rfl) hB11 (t := .byte) (by decide +kernel) rfl (g := (mkF m 48 #[.val (.ref a), .val (.ref b), .val (.int (Int32.ofNat o)), .val (.int (Int32.ofNat len)), .val .null, .val (.ref s.heap.size)] [.int 0, .ref a])) rfl (rest := []) rfl (hb hbytes d48)
  have c14 : Steps p.tables e below (s₁.setTop (entryFrame m #[.ref a, .ref b, .int (Int32.ofNat o), .int (Int32.ofNat len), .null] 6)) (T13.setTop (mkF m 54 #[.val (.ref a), .val (.ref b), .val (.int (Int32.ofNat o)), .val (.int (Int32.ofNat len)), .val .null, .val (.ref s.heap.size)] [.ref s.heap.size, .ref a])) := (c12.trans (st13 _ (Steps.refl _))).trans (by
    refine XS.aloadN X13.here hexec rfl (hb hbytes d51) rfl rfl ?_
    refine XS.aload X13.here hexec rfl (hb hbytes d52) rfl rfl ?_
    exact Steps.refl _)
  obtain ⟨T15, X15, p15, bl15, sl15, st15⟩ := X13.finit hexec hown (wk W (.fieldLink "java/lang/String" 9 "java/lang/String" "value" "[B")) (Or.inr ⟨_, (wk W (.laysFinal "java/lang/String" "java/lang/String" "value" "[B"))⟩) (Or.inl ⟨rfl, hnm⟩) f1 (Or.inl rfl) bl13 (t := (.array .byte)) (by decide +kernel) rfl (g := (mkF m 54 #[.val (.ref a), .val (.ref b), .val (.int (Int32.ofNat o)), .val (.int (Int32.ofNat len)), .val .null, .val (.ref s.heap.size)] [.ref s.heap.size, .ref a])) rfl (rest := []) rfl (hb hbytes d54)
  have c16 : Steps p.tables e below (s₁.setTop (entryFrame m #[.ref a, .ref b, .int (Int32.ofNat o), .int (Int32.ofNat len), .null] 6)) (T15.setTop (mkF m 57 #[.val (.ref a), .val (.ref b), .val (.int (Int32.ofNat o)), .val (.int (Int32.ofNat len)), .val .null, .val (.ref s.heap.size)] [])) := c14.trans (st15 _ (Steps.refl _))
  have ap := apart (Or.inr ⟨_, (wk W (.laysFinal "java/lang/String" "java/lang/String" "value" "[B"))⟩) (Or.inr ⟨_, (wk W (.laysFinal "java/lang/String" "java/lang/String" "coder" "B"))⟩) f1 f2 (t₁ := .array .byte) (t₂ := .byte) (by decide +kernel) (by decide +kernel) (by decide)
  have al := X8.warmed.alike.symm.trans X15.warmed.alike
  have n7 : T11.heap[s.heap.size]? = some N := by rw [q11]; exact n1.1
  exact ⟨T15, none, _, _, _, X15, by simp, rfl, by omega, (fun _ => rfl), ⟨rfl, _, N, bl15, ((Same.refl D _).set _ (by simp)).set _ (by simp), sl15, (Cell.slots_setSlot_ne _ ap).trans sl13, n1.keep al (p15.other hne (p13.other hne n7)), n2, by rw [al.findClass]; exact n3, n4, n5, fun y c h1 h2 => p15.other h1 (p13.other h1 (by rw [q11]; exact n6 y c h2)), by rw [p15.2.2, p13.2.2, q11]; exact z8⟩, fun fs hl => c16.trans (X15.returnOut hexec hret (hb hbytes d57) hl)⟩
end New4
namespace New1
def yN : MethodName := ⟨"java/lang/String", "<init>", "([C)V"⟩
abbrev yB : ByteArray := jdk_42_method_3_code
theorem d0 : decode yB 0 = .ok (.aload_n 0, 1) := by decide +kernel
theorem d1 : decode yB 1 = .ok (.aload_n 1, 1) := by decide +kernel
theorem d2 : decode yB 2 = .ok (.iconst 0, 1) := by decide +kernel
theorem d3 : decode yB 3 = .ok (.aload_n 1, 1) := by decide +kernel
theorem d4 : decode yB 4 = .ok (.arraylength, 1) := by decide +kernel
theorem d5 : decode yB 5 = .ok (.aconst_null, 1) := by decide +kernel
theorem d6 : decode yB 6 = .ok (.invokespecial 27, 3) := by decide +kernel
theorem d9 : decode yB 9 = .ok (.return_, 1) := by decide +kernel
def site : List Cond := [New4.tab] ++ initW "java/lang/String" 27 New4.yN
def tab : Cond := tabOf yN yB 2 none site
def P (a : Addr) (D : Cell) (fV fC : Field) (b : Addr) (A : Cell) (z : Int32) (args : Array Value) (s : State) : Prop := args = #[.ref a, .ref b] ∧ Blank "java/lang/String" a D s ∧ Found "java/lang/String" "value" "[B" fV s ∧ Found "java/lang/String" "coder" "B" fC s ∧ Ch b A s ∧ StaticIs s "java/lang/String" "COMPACT_STRINGS" "Z" (.int z) ∧ ¬ z = 0 ∧ 0 < A.slots.size ∧ A.slots.size ≤ 536870912 ∧ ∀ i, i < A.slots.size → ¬ 255 < cv A i
def E (a : Addr) (D : Cell) (fV fC : Field) (A : Cell) (r : Option Value) (s u : State) : Prop := Got a D fV fC A 0 A.slots.size r s u
/-- new String(chars), not empty, no char above 255: a Latin-1 String of their low bytes -/
theorem law (l : Launch) (a : Addr) (D : Cell) (fV fC : Field) (b : Addr) (A : Cell) (z : Int32) : Law l yN 2 1 3 52 yB 2 none site (P a D fV fC b A z) (E a D fV fC A) [⟨a, fC.slot⟩, ⟨a, fV.slot⟩] 1 A.slots.size := by
  refine Law.of_walk (plainFor_of_name (by decide +kernel)) (by decide +kernel) (by decide +kernel) (by decide) (fun _ _ h => by rw [h.1]; rfl) (fun _ U U' hal hh h => ⟨h.1, h.2.1.mv hal hh, h.2.2.1.al hal, h.2.2.2.1.al hal, h.2.2.2.2.1.mv hal hh, h.2.2.2.2.2.1.there hal hh, h.2.2.2.2.2.2⟩) (fun r U U' V V' h1 hal h2 h => Got.mv r U U' V V' h1 hal h2 h) ?_
  intro p e s m args below meth c s₁ X0 hexec hbytes hml hret hlk hnm hown hh0 W hP
  obtain ⟨rfl, hB, f1, f2, hA, s1, hz, l0, l2, hp⟩ := hP
  have c1 : Steps p.tables e below (s₁.setTop (entryFrame m #[.ref a, .ref b] 2)) (s₁.setTop (mkF m 0 #[.val (.ref a), .val (.ref b)] [])) := entry rfl
  have c2 : Steps p.tables e below (s₁.setTop (entryFrame m #[.ref a, .ref b] 2)) (s₁.setTop (mkF m 6 #[.val (.ref a), .val (.ref b)] [.null, .int (Int32.ofNat A.slots.size), .int 0, .ref b, .ref a])) := c1.trans (by
    refine XS.aloadN X0.here hexec rfl (hb hbytes d0) rfl rfl ?_
    refine XS.aloadN X0.here hexec rfl (hb hbytes d1) rfl rfl ?_
    refine iconstV X0.here hexec rfl 0 (hb hbytes d2) (by decide) ?_
    refine XS.aloadN X0.here hexec rfl (hb hbytes d3) rfl rfl ?_
    refine X0.alen hexec (hA.1.mv X0.warmed.alike hh0) rfl rfl (hb hbytes d4) ?_
    refine XS.aconstNull X0.here hexec rfl (hb hbytes d5) ?_
    exact Steps.refl _)
  obtain ⟨v3, T3, X3, E3, g3⟩ := X0.callN hexec (New4.law l a D fV fC b A z 0 A.slots.size) rfl hown (wks W (initW "java/lang/String" 27 New4.yN)) (W New4.tab (by simp only [site, List.mem_cons, List.mem_append, true_or, or_true])) (W := 0) (Nat.le_of_ble_eq_true rfl) (Nat.le_of_ble_eq_true rfl) (Nat.le_refl _) (by show 0 + A.slots.size ≤ A.slots.size; omega) (g := (mkF m 6 #[.val (.ref a), .val (.ref b)] [.null, .int (Int32.ofNat A.slots.size), .int (Int32.ofNat 0), .ref b, .ref a])) rfl (by rw [hml]; rfl) c2 (argsL := [.ref b, .int (Int32.ofNat 0), .int (Int32.ofNat A.slots.size), .null]) (rest := []) rfl rfl (by show 2 * 0 + 0 ≤ _; decide) (hb hbytes d6) (⟨rfl, hB.mv X0.warmed.alike hh0, f1.al X0.warmed.alike, f2.al X0.warmed.alike, hA.mv X0.warmed.alike hh0, s1.there X0.warmed.alike hh0, hz, l0, by omega, l2, fun i hi => by rw [Nat.zero_add]; exact hp i hi⟩)
  have e0 := Got.mv _ s₁ s _ _ hh0.symm (Vm.Alike.refl _) rfl E3
  obtain rfl := e0.1
  have c4 : Steps p.tables e below (s₁.setTop (entryFrame m #[.ref a, .ref b] 2)) (T3.setTop (mkF m 9 #[.val (.ref a), .val (.ref b)] [])) := g3
  exact ⟨T3, none, _, _, _, X3, by simp, rfl, by omega, (fun _ => rfl), e0, fun fs hl => c4.trans (X3.returnOut hexec hret (hb hbytes d9) hl)⟩
theorem pays {l : Launch} {R : Room} {p : Program} {e : Env} {below : List Frame} {s : State} {sargs : Array Value} {len W : Nat} (a : Addr) (D : Cell) (fV fC : Field) (b : Addr) (A : Cell) (z : Int32) (htab : tab.before sargs s = true) (hfr : 4 ≤ R.frames) (hlo : W + 65 ≤ R.locals) :
    Back l R p e below s sargs yN len W (fun A₁ a₁ => A₁.cells + 1 ≤ R.cells ∧ A₁.slots + A.slots.size ≤ R.slots ∧ P a D fV fC b A z a₁ A₁.U) (fun A₁ _ v₁ B₁ => E a D fV fC A v₁ A₁.U B₁.U ∧ B₁.locs = A₁.locs ++ [⟨a, fC.slot⟩, ⟨a, fV.slot⟩] ∧ B₁.cells = A₁.cells + 1 ∧ B₁.slots = A₁.slots + A.slots.size) :=
  (law l a D fV fC b A z).pays htab hfr (by omega)
end New1
end StrChars
namespace StrChars.Road
open Jvm Sem ClassFile Op Lib Jvm.Stand Jvm.Free Jvm.Free.XT
open Jvm.Lib.Cold (StaticIs)
abbrev ST : String := "java/lang/String"
/-- every table word that New1's law asks, flat -/
abbrev words : List Jvm.Cond := [.code New1.yN New1.yB 2 none, .initialized ST, .methodLink ST 27 New4.yN, .instanceMethod New4.yN,
  .code New4.yN New4.yB 6 none, .fieldLink ST 38 ST "COMPACT_STRINGS" "Z", .laysFinal ST ST "value" "[B", .fieldLink ST 9 ST "value" "[B", .laysFinal ST ST "coder" "B", .fieldLink ST 15 ST "coder" "B",
  .methodLink ST 1 Lib.objectInit, .instanceMethod Lib.objectInit, .code Lib.objectInit ⟨#[0xb1]⟩ 1 none, .methodLink ST 177 Cmp3.yN, .static Cmp3.yN, .methodLink ST 47 CodL.yN, .static CodL.yN,
  .code Cmp3.yN Cmp3.yB 6 (some (.array .byte)), .initialized U16, .arrayClass .byte, .methodLink U16 115 Cmp5.yN, .static Cmp5.yN, .code Cmp5.yN Cmp5.yB 7 (some .int), .code CodL.yN CodL.yB 2 (some .byte)]
theorem tab_of {a : Array Value} {s : State} (h : ∀ w ∈ words, w.before a s = true) : New1.tab.before a s = true := by
  have h5 : Cmp5.tab.before a s = true := unparts (wk h (.code Cmp5.yN Cmp5.yB 7 (some .int))) (wks h (.initialized Cmp5.yN.cls :: Cmp5.site))
  have hc : CodL.tab.before a s = true := unparts (wk h (.code CodL.yN CodL.yB 2 (some .byte))) (wks h (.initialized CodL.yN.cls :: CodL.site))
  have q5 : ∀ w ∈ Cmp5.tab :: words, w.before a s = true := fun w hw => (List.mem_cons.mp hw).elim (fun e => e ▸ h5) (h w)
  have h3 : Cmp3.tab.before a s = true := unparts (wk q5 (.code Cmp3.yN Cmp3.yB 6 (some (.array .byte)))) (wks q5 (.initialized Cmp3.yN.cls :: Cmp3.site))
  have q3 : ∀ w ∈ Cmp3.tab :: CodL.tab :: words, w.before a s = true := fun w hw => (List.mem_cons.mp hw).elim (fun e => e ▸ h3) fun hw => (List.mem_cons.mp hw).elim (fun e => e ▸ hc) (h w)
  have h4 : New4.tab.before a s = true := unparts (wk q3 (.code New4.yN New4.yB 6 none)) (wks q3 (.initialized New4.yN.cls :: New4.site))
  have q4 : ∀ w ∈ New4.tab :: words, w.before a s = true := fun w hw => (List.mem_cons.mp hw).elim (fun e => e ▸ h4) (h w)
  exact unparts (wk q4 (.code New1.yN New1.yB 2 none)) (wks q4 (.initialized New1.yN.cls :: New1.site))
/-- the words ride from the start Z to the walk's own state -/
theorem moved {Z s : State} {a0 args : Array Value} (hZ : Z.Warmed39 s.vm) (hw : ∀ d ∈ words, d.before a0 Z = true) : ∀ d ∈ words, d.before args s = true := fun d hd => by
  have q := hw d hd
  have t : ∀ d ∈ words, d = .arrayClass .byte ∨ (d.onTables && d.keepsFace) = true := by decide +kernel
  rcases t d hd with rfl | t
  · exact RoadKit.mvA hZ q
  · exact RoadKit.mv hZ q t
/-- WHAT COMES BACK, over the tables of the start Z: h the heap at the call, h' behind it -/
def Q (Z : State) (x : Addr) (A : Cell) (h : Heap) (v : Option Value) (h' : Heap) (L : List Loc) : Prop := v = none ∧ (∀ y ∈ L, y.base = x) ∧ RoadKit.Keep h h' [x] ∧ h'.size = h.size + 1 ∧ RoadKit.Exa Z h' x ST ∧ RoadKit.Fld Z h' x ST "value" "[B" (.ref h.size) ∧ RoadKit.Fld Z h' x ST "coder" "B" (.int 0) ∧
  (∃ V : Cell, RoadKit.Arr Z h' h.size V .byte ∧ V.vm = .none ∧ Z.vm.findClass "[B" = some V.cls ∧ V.slots.size = A.slots.size ∧ ∀ j, j < A.slots.size → V.slots[j]? = some (.int (lo8 (cv A j)))) ∧
  ∀ (O n d : String) (w : Value), RoadKit.Fld Z h x O n d w → RoadKit.slotOf Z O n d ≠ RoadKit.slotOf Z ST "value" "[B" → RoadKit.slotOf Z O n d ≠ RoadKit.slotOf Z ST "coder" "B" → RoadKit.Fld Z h' x O n d w
/-- **new String(chars) AT A CALL, IN THE ROAD'S FORM**: for specialBack behind newO: x the fresh String, b the char[] with the cell A -/
theorem back {p : Program} {l : Launch} {e : Env} {R : Room} {s : State} {args : Array Value} {below : List Frame} {len W : Nat} {Z : State} {a0 : Array Value} {h : Heap} (hZ : Z.Warmed39 s.vm) (hw : ∀ d ∈ words, d.before a0 Z = true) {kI : Nat} (wi : (Jvm.Cond.instantiable ST kI).before a0 Z = true)
    {x b : Addr} {A : Cell} {z : Int32} {v0 c0 : Value} (E : RoadKit.Exa Z h x ST) (V : RoadKit.Fld Z h x ST "value" "[B" v0) (C : RoadKit.Fld Z h x ST "coder" "B" c0) (K : RoadKit.Arr Z h b A .char) (hty : Typed .char A) (S : RoadKit.Sta Z h ST "COMPACT_STRINGS" "Z" (.int z)) (hz : ¬ z = 0)
    (l0 : 0 < A.slots.size) (l2 : A.slots.size ≤ 536870912) (hp : ∀ i, i < A.slots.size → ¬ 255 < cv A i) (hfr : 4 ≤ R.frames) (hlo : W + 65 ≤ R.locals) :
    Back l R p e below s args New1.yN len W (fun P a => a = #[.ref x, .ref b] ∧ P.U.heap = h ∧ P.cells + 1 ≤ R.cells ∧ P.slots + A.slots.size ≤ R.slots)
      (fun P _ v B => ∃ L, Q Z x A h v B.U.heap L ∧ B.locs = P.locs ++ L ∧ B.cells = P.cells + 1 ∧ B.slots = P.slots + A.slots.size) := by
  intro m meth c P g ig mk a X hg hsize hdg hW hn hp'
  obtain ⟨rfl, rfl, r1, r2⟩ := hp'
  have al : Z.vm.Alike P.U.vm := hZ.alike.trans X.warmed.alike
  obtain ⟨D, cfV, kV, iV, fV, hD, gV, stV, knV, obV, asV, slV⟩ := id V
  obtain ⟨D', cfC, kC, iC, fC, hD', gC, stC, -, -, asC, slC⟩ := id C
  cases hD.symm.trans hD'
  obtain ⟨D2, kD, e1, e2, e3, e4, e5⟩ := id E
  cases hD.symm.trans e1
  obtain ⟨c2, k2, i1, i2, i3, -⟩ := Cond.instantiable_spec wi
  cases e2.symm.trans i1
  cases e3.symm.trans i2
  obtain ⟨kU, u1, u2⟩ := al.2.2 _ _ e3
  have hB : Blank ST x D P.U := ⟨hD, ⟨knV, fun q hq => by rw [hq] at obV; cases obV⟩, by rw [al.findClass]; exact e2, kU, u1, by rw [u2]; exact i3, by rw [u2]; exact e5 i3⟩
  have F1 : Found ST "value" "[B" fV P.U := ⟨SBG.found_only al ⟨cfV, kV, iV, gV⟩, stV⟩
  have F2 : Found ST "coder" "B" fC P.U := ⟨SBG.found_only al ⟨cfC, kC, iC, gC⟩, stC⟩
  have hA : Ch b A P.U := ⟨⟨K.1, State.isArrayOf_alike al K.2.1, K.2.2, by omega⟩, hty⟩
  have hS : StaticIs P.U ST "COMPACT_STRINGS" "Z" (.int z) := by
    obtain ⟨cfS, iS, kS, fS, st, cS, t1, t2, t3, t4, t5, t6, t7⟩ := S
    exact StaticIs.there (s := { Z with heap := P.U.heap }) ⟨cfS, iS, kS, fS, st, cS, t1, t2, t3, t4, t5, (fun q => by rw [q] at t6; cases t6), t7⟩ al rfl
  obtain ⟨v, B, X', ⟨⟨hv, E', V', q1, q2, q3, q4, q5, q6, q7, q8, q9, q10, q11⟩, hl, hc, hs⟩, st⟩ := New1.pays x D fV fC b A z (tab_of (moved hZ hw)) hfr hlo m meth c P g ig mk _ X hg hsize hdg hW hn ⟨r1, r2, rfl, hB, F1, F2, hA, hS, hz, l0, l2, hp⟩
  have al' : Z.vm.Alike B.U.vm := hZ.alike.trans X'.warmed.alike
  have hsz : E'.slots.size = D.slots.size := by
    obtain ⟨-, -, -, kB, w1, w2, w3⟩ := q1
    obtain ⟨kB', y1, y2⟩ := al'.2.2 _ _ e3
    rw [q2.2.1] at w1
    cases w1.symm.trans y1
    rw [w3, e5 i3, y2]
  refine ⟨v, B, X', ⟨_, ⟨hv, ?_, ⟨by omega, fun y cy hy hn' => q10 y cy (by simpa using hn') hy, fun y cy hy => ?_⟩, q11, ⟨E', _, q1.1, by rw [q2.2.1]; exact e2, by rw [q2.2.1]; exact e3, by rw [q2.1]; exact obV, fun _ => by rw [hsz]; exact e5 i3⟩,
    ⟨E', cfV, kV, iV, fV, q1.1, gV, stV, by rw [q2.1]; exact knV, by rw [q2.1]; exact obV, by rw [q2.2.1]; exact asV, q3⟩, ⟨E', cfC, kC, iC, fC, q1.1, gC, stC, by rw [q2.1]; exact knV, by rw [q2.1]; exact obV, by rw [q2.2.1]; exact asC, q4⟩,
    ⟨V', ⟨q5.1, State.isArrayOf_alike al'.symm q5.2.1, q5.2.2.1⟩, q6, by rw [← al'.findClass]; exact q7, q8, fun j hj => by have := q9 j hj; rwa [Nat.zero_add] at this⟩, fun O n d w F n1 n2 => ?_⟩, hl, hc, hs⟩, st⟩
  · intro y hy
    simp only [List.mem_cons, List.not_mem_nil, or_false] at hy
    rcases hy with rfl | rfl <;> rfl
  · by_cases q : y = x
    · subst q
      cases hD.symm.trans hy
      exact ⟨E', q1.1, q2.2.1, q2.1, hsz⟩
    · exact ⟨cy, q10 y cy q hy, rfl, rfl, rfl⟩
  · obtain ⟨D3, cf, k, i, f, g1, g2, g3, g4, g5, g6, g7⟩ := F
    cases hD.symm.trans g1
    simp only [RoadKit.slotOf, g2, gV, gC, Option.map_some, Option.getD_some] at n1 n2
    exact ⟨E', cf, k, i, f, q1.1, g2, g3, by rw [q2.1]; exact g4, by rw [q2.1]; exact g5, by rw [q2.2.1]; exact g6, by rw [q2.2.2 f.slot (by simp [n1, n2])]; exact g7⟩
end StrChars.Road
namespace StrChars.Road
open Jvm Sem ClassFile Op Lib Jvm.Stand Jvm.Free Jvm.Free.XT
/-- WHAT COMES BACK, the byte[] as a list of values -/
def QA (Z : State) (x : Addr) (zn : Int32) (cs : List Int32) (h : Heap) (v : Option Value) (h' : Heap) (L : List Loc) : Prop := v = none ∧ (∀ y ∈ L, y.base = x) ∧ RoadKit.Keep h h' [x] ∧ h'.size = h.size + 1 ∧ RoadKit.Exa Z h' x ST ∧ RoadKit.Fld Z h' x ST "value" "[B" (.ref h.size) ∧ RoadKit.Fld Z h' x ST "coder" "B" (.int 0) ∧
  (∃ kb, Z.vm.findClass "[B" = some kb ∧ RoadKit.Arv Z h' h.size kb .byte zn (cs.map fun c => .int (lo8 c)) (.int 0)) ∧
  ∀ (O n d : String) (w : Value), RoadKit.Fld Z h x O n d w → RoadKit.slotOf Z O n d ≠ RoadKit.slotOf Z ST "value" "[B" → RoadKit.slotOf Z O n d ≠ RoadKit.slotOf Z ST "coder" "B" → RoadKit.Fld Z h' x O n d w
/-- **new String(chars) AT A CALL, THE ARRAYS AS LISTS**: the char[] at b holds cs, not empty, no char above 255 -/
theorem backArv {p : Program} {l : Launch} {e : Env} {R : Room} {s : State} {args : Array Value} {below : List Frame} {len W : Nat} {Z : State} {a0 : Array Value} {h : Heap} (hZ : Z.Warmed39 s.vm) (hw : ∀ d ∈ words, d.before a0 Z = true) {kI : Nat} (wi : (Jvm.Cond.instantiable ST kI).before a0 Z = true)
    {x b : Addr} {k : ClassId} {zn z : Int32} {cs : List Int32} {dv v0 c0 : Value} (E : RoadKit.Exa Z h x ST) (V : RoadKit.Fld Z h x ST "value" "[B" v0) (C : RoadKit.Fld Z h x ST "coder" "B" c0) (K : RoadKit.Arv Z h b k .char zn (cs.map Value.int) dv) (S : RoadKit.Sta Z h ST "COMPACT_STRINGS" "Z" (.int z)) (hz : ¬ z = 0)
    (hlen : zn.toNatClampNeg = cs.length) (h0 : 0 < cs.length) (hbig : cs.length ≤ 536870912) (hall : ∀ c ∈ cs, ¬ 255 < c) (hfr : 4 ≤ R.frames) (hlo : W + 65 ≤ R.locals) :
    Back l R p e below s args New1.yN len W (fun P a => a = #[.ref x, .ref b] ∧ P.U.heap = h ∧ P.cells + 1 ≤ R.cells ∧ P.slots + cs.length ≤ R.slots)
      (fun P _ v B => ∃ L, QA Z x zn cs h v B.U.heap L ∧ B.locs = P.locs ++ L ∧ B.cells = P.cells + 1 ∧ B.slots = P.slots + cs.length) := by
  obtain ⟨A, K1, K2, K3, K4, K5, K6⟩ := K
  have e : A.slots.size = cs.length := K3.trans hlen
  have hat : ∀ (i : Nat) (hi : i < cs.length), A.slots[i]? = some (.int cs[i]) := fun i hi => by rw [K5 i (by omega)]; simp [List.getD_eq_getElem?_getD, hi]
  have hcv : ∀ (i : Nat) (hi : i < cs.length), cv A i = cs[i] := fun i hi => by unfold cv; rw [hat i hi]
  have hty : Typed .char A := fun i v hv => by
    have hi : i < A.slots.size := (Array.getElem?_eq_some_iff.mp hv).1
    have q := K5 i hi
    rw [hv] at q
    rw [Option.some.inj q]
    exact K6 i hi
  refine Back.mono (back hZ hw wi E V C K1 hty S hz (by omega) (by omega) (fun i hi => by rw [hcv i (by omega)]; exact hall _ (List.getElem_mem _)) hfr hlo) (fun P a hp => ⟨hp.1, hp.2.1, hp.2.2.1, by rw [e]; exact hp.2.2.2⟩) (fun P a v B hp hq => ?_)
  obtain ⟨L, ⟨q1, q2, q3, q4, q5, q6, q7, ⟨V', v1, v2, v3, v4, v5⟩, q9⟩, hl, hc, hs⟩ := hq
  refine ⟨L, ⟨q1, q2, q3, q4, q5, q6, q7, ⟨V'.cls, v3, V', v1, rfl, by rw [v4, e, hlen], K4, fun i hi => ?_, fun i hi => ?_⟩, q9⟩, hl, hc, by rw [hs, e]⟩
  · have hi' : i < cs.length := by omega
    rw [v5 i (by omega), hcv i hi']; simp [List.getD_eq_getElem?_getD, hi']
  · have hi' : i < cs.length := by omega
    simp only [List.getD_eq_getElem?_getD, List.getElem?_map, List.getElem?_eq_getElem hi', Option.map_some, Option.getD_some]
    exact fits_lo8 _
end StrChars.Road
namespace StrChars.Road
open Jvm Sem ClassFile Op Lib Jvm.Stand Jvm.Free Jvm.Free.XT
/-- WHAT COMES BACK, in the writer's own shape -/
def QV (Z : State) (x : Addr) (N : Int32) (bs : List Int32) (h : Heap) (n0 : Nat) (v : Option Value) (h' : Heap) (L : List Loc) : Prop := v = none ∧ RoadKit.Fr n0 L ∧ RoadKit.Keep h h' [x] ∧ RoadKit.Exa Z h' x ST ∧ RoadKit.Fld Z h' x ST "coder" "B" (.int 0) ∧
  ∃ (t : Addr) (kb : ClassId), n0 ≤ t ∧ h.size ≤ t ∧ ¬ t = x ∧ RoadKit.Fld Z h' x ST "value" "[B" (.ref t) ∧ RoadKit.Arv Z h' t kb .byte N (bs.map Value.int) (.int 0)
/-- **new String(chars) AT A CALL, FOR THE WRITER**: a char[] of n known ints, each 0 to 255 -/
theorem backV {p : Program} {l : Launch} {e : Env} {R : Room} {s : State} {args : Array Value} {below : List Frame} {len W : Nat} {Z : State} {a0 : Array Value} {h : Heap} (hZ : Z.Warmed39 s.vm) (hw : ∀ d ∈ words, d.before a0 Z = true) {kI : Nat} (wi : (Jvm.Cond.instantiable ST kI).before a0 Z = true)
    {x b : Addr} {kC : ClassId} {cs bs : List Int32} {d v0 c0 : Value} {z N : Int32} {n n0 : Nat} (hx0 : n0 ≤ x) (hh0 : n0 ≤ h.size) (E : RoadKit.Exa Z h x ST) (V : RoadKit.Fld Z h x ST "value" "[B" v0) (C : RoadKit.Fld Z h x ST "coder" "B" c0) (K : RoadKit.Arv Z h b kC .char N (cs.map Value.int) d) (S : RoadKit.Sta Z h ST "COMPACT_STRINGS" "Z" (.int z)) (hz : ¬ z = 0)
    (hn : cs.length = n) (hN : N = Int32.ofNat n) (l0 : 0 < n) (l2 : n ≤ 4000) (hp : ∀ c ∈ cs, ¬ c < 0 ∧ ¬ (255 : Int32) < c) (hb : bs = cs.map (fun c => c.toInt8.toInt32)) (hfr : 4 ≤ R.frames) (hlo : W + 65 ≤ R.locals) :
    Back l R p e below s args (⟨"java/lang/String", "<init>", "([C)V"⟩ : MethodName) len W (fun P a => a = #[.ref x, .ref b] ∧ P.U.heap = h ∧ P.cells + 1 ≤ R.cells ∧ P.slots + n ≤ R.slots)
      (fun P _ v B => ∃ L, QV Z x N bs h n0 v B.U.heap L ∧ B.locs = P.locs ++ L ∧ B.cells = P.cells + 1 ∧ B.slots = P.slots + n) := by
  subst hn hN hb
  refine Back.mono (backArv hZ hw wi E V C K S hz (n32 (by omega)) l0 (by omega) (fun c hc => (hp c hc).2) hfr hlo) (fun P a hp => hp) (fun P a v B hp hq => ?_)
  obtain ⟨L, ⟨q1, q2, q3, q4, q5, q6, q7, ⟨kb, v1, v2⟩, q9⟩, hl, hc, hs⟩ := hq
  exact ⟨L, ⟨q1, fun y hy => by rw [q2 y hy]; exact hx0, q3, q5, q7, h.size, kb, hh0, Nat.le_refl _, Nat.ne_of_gt E.lt, q6, by rw [List.map_map]; exact v2⟩, hl, hc, hs⟩
end StrChars.Road
end Jvm.Pilot.@@N@@
namespace Jvm.Pilot.@@N@@
open Jvm Jvm.ClassFile Sem Op Lib Jvm.Free Jvm.Stand Jvm.LawKit Jvm.RoadKit Bundle Jvm.Pilot.@@N@@.Jvm.D
set_option maxRecDepth 65536
set_option maxHeartbeats 40000000
abbrev kc0 : String := "com/example/roundkeeper/roundkeeper/ruleset/ranked/Fighter"
abbrev kc1 : String := "java/lang/String"
abbrev kc2 : String := "com/example/roundkeeper/roundkeeper/Turn"
abbrev kc3 : String := "com/example/roundkeeper/roundkeeper/ruleset/ranked/Reach"
abbrev kc4 : String := "com/example/roundkeeper/roundkeeper/ruleset/ranked/Slot"
theorem own_and255 (x : Int32) : ¬ ((x &&& (255 : Int32)).toUInt32.toUInt16.toUInt32.toInt32) < 0 ∧ ¬ (255 : Int32) < ((x &&& (255 : Int32)).toUInt32.toUInt16.toUInt32.toInt32) := by
  have t : ∀ k : Fin 256, ¬ ((Int32.ofNat k.val).toUInt32.toUInt16.toUInt32.toInt32) < 0 ∧ ¬ (255 : Int32) < ((Int32.ofNat k.val).toUInt32.toUInt16.toUInt32.toInt32) := by decide +kernel
  have h : (x &&& 255).toBitVec.toNat < 256 := by
    rw [Int32.toBitVec_and, BitVec.toNat_and]
    exact Nat.lt_succ_of_le Nat.and_le_right
  have e : (x &&& 255) = Int32.ofNat (x &&& 255).toBitVec.toNat := by
    apply Int32.toBitVec_inj.mp
    show _ = BitVec.ofNat 32 _
    rw [BitVec.ofNat_toNat]; simp
  rw [e]
  exact t ⟨_, h⟩
theorem own_hws {Z : State} {a0 : Array Value} (hw : ∀ d ∈ tables_1, d.before a0 Z = true) : ∀ d ∈ StrChars.Road.words, d.before a0 Z = true := fun d hd => hw d ((by decide +kernel : ∀ d ∈ StrChars.Road.words, d ∈ tables_1) d hd)
abbrev DC (b : ByteArray) (p : Nat) (i : Instr) (n : Nat) : Prop := ∀ {c : Code}, c.code = b → decode c.code p = .ok (i, n)
abbrev WD (w : Jvm.Cond) : Prop := ∀ {Z : State} {a0 : Array Value}, (∀ d ∈ tables_1, d.before a0 Z = true) → w.before a0 Z = true
theorem own_wd (i : Nat) {w : Jvm.Cond} (h : tables_1[i]? = some w) {Z : State} {a0 : Array Value} (hw : ∀ d ∈ tables_1, d.before a0 Z = true) : w.before a0 Z = true := hw _ (List.mem_of_getElem? h)
abbrev yn_1 : MethodName := ⟨"java/lang/String", "<init>", "([C)V"⟩
abbrev yn_7 : MethodName := ⟨"com/example/roundkeeper/roundkeeper/ruleset/ranked/Fighter", "<init>", "(Ljava/lang/String;Ljava/lang/String;IILcom/example/roundkeeper/roundkeeper/ruleset/ranked/Reach;IIII)V"⟩
abbrev yn_8 : MethodName := ⟨"java/lang/Record", "<init>", "()V"⟩
abbrev yn_9 : MethodName := ⟨"com/example/roundkeeper/roundkeeper/ruleset/ranked/Slot", "<init>", "(Lcom/example/roundkeeper/roundkeeper/ruleset/ranked/Fighter;I)V"⟩
abbrev yn_10 : MethodName := ⟨"com/example/roundkeeper/roundkeeper/ruleset/ranked/Slot", "turn", "(Z)Lcom/example/roundkeeper/roundkeeper/Turn;"⟩
abbrev yn_11 : MethodName := ⟨"com/example/roundkeeper/roundkeeper/ruleset/ranked/Fighter", "name", "()Ljava/lang/String;"⟩
abbrev yn_12 : MethodName := ⟨"com/example/roundkeeper/roundkeeper/ruleset/ranked/Fighter", "side", "()Ljava/lang/String;"⟩
abbrev yn_13 : MethodName := ⟨"com/example/roundkeeper/roundkeeper/Turn", "<init>", "(Ljava/lang/String;Ljava/lang/String;IZ)V"⟩
abbrev yn_14 : MethodName := ⟨"com/example/roundkeeper/roundkeeper/Turn", "name", "()Ljava/lang/String;"⟩
abbrev yn_15 : MethodName := ⟨"java/lang/String", "equals", "(Ljava/lang/Object;)Z"⟩
abbrev yn_16 : MethodName := ⟨"com/example/roundkeeper/roundkeeper/Turn", "side", "()Ljava/lang/String;"⟩
abbrev yn_17 : MethodName := ⟨"com/example/roundkeeper/roundkeeper/Turn", "initiative", "()I"⟩
abbrev yn_18 : MethodName := ⟨"com/example/roundkeeper/roundkeeper/Turn", "simultaneous", "()Z"⟩
theorem d8_0 : DC jdk_30_method_1_code 0 (.aload_n 0) 1 := fun h => hb h (by decide +kernel)
theorem d8_1 : DC jdk_30_method_1_code 1 (.invokespecial 1) 3 := fun h => hb h (by decide +kernel)
theorem d8_4 : DC jdk_30_method_1_code 4 (.return_) 1 := fun h => hb h (by decide +kernel)
theorem d15_0 : DC jdk_42_method_66_code 0 (.aload_n 0) 1 := fun h => hb h (by decide +kernel)
theorem d15_1 : DC jdk_42_method_66_code 1 (.aload_n 1) 1 := fun h => hb h (by decide +kernel)
theorem d15_2 : DC jdk_42_method_66_code 2 (.if_acmp .ne 5) 3 := fun h => hb h (by decide +kernel)
theorem d15_5 : DC jdk_42_method_66_code 5 (.iconst 1) 1 := fun h => hb h (by decide +kernel)
theorem d15_6 : DC jdk_42_method_66_code 6 (.ireturn) 1 := fun h => hb h (by decide +kernel)
theorem d7_0 : DC prog_13_method_1_code 0 (.aload_n 0) 1 := fun h => hb h (by decide +kernel)
theorem d7_1 : DC prog_13_method_1_code 1 (.invokespecial 1) 3 := fun h => hb h (by decide +kernel)
theorem d7_4 : DC prog_13_method_1_code 4 (.aload_n 0) 1 := fun h => hb h (by decide +kernel)
theorem d7_5 : DC prog_13_method_1_code 5 (.aload_n 1) 1 := fun h => hb h (by decide +kernel)
theorem d7_6 : DC prog_13_method_1_code 6 (.putfield 7) 3 := fun h => hb h (by decide +kernel)
theorem d7_9 : DC prog_13_method_1_code 9 (.aload_n 0) 1 := fun h => hb h (by decide +kernel)
theorem d7_10 : DC prog_13_method_1_code 10 (.aload_n 2) 1 := fun h => hb h (by decide +kernel)
theorem d7_11 : DC prog_13_method_1_code 11 (.putfield 13) 3 := fun h => hb h (by decide +kernel)
theorem d7_14 : DC prog_13_method_1_code 14 (.aload_n 0) 1 := fun h => hb h (by decide +kernel)
theorem d7_15 : DC prog_13_method_1_code 15 (.iload_n 3) 1 := fun h => hb h (by decide +kernel)
theorem d7_16 : DC prog_13_method_1_code 16 (.putfield 16) 3 := fun h => hb h (by decide +kernel)
theorem d7_19 : DC prog_13_method_1_code 19 (.aload_n 0) 1 := fun h => hb h (by decide +kernel)
theorem d7_20 : DC prog_13_method_1_code 20 (.iload 4) 2 := fun h => hb h (by decide +kernel)
theorem d7_22 : DC prog_13_method_1_code 22 (.putfield 20) 3 := fun h => hb h (by decide +kernel)
theorem d7_25 : DC prog_13_method_1_code 25 (.aload_n 0) 1 := fun h => hb h (by decide +kernel)
theorem d7_26 : DC prog_13_method_1_code 26 (.aload 5) 2 := fun h => hb h (by decide +kernel)
theorem d7_28 : DC prog_13_method_1_code 28 (.putfield 23) 3 := fun h => hb h (by decide +kernel)
theorem d7_31 : DC prog_13_method_1_code 31 (.aload_n 0) 1 := fun h => hb h (by decide +kernel)
theorem d7_32 : DC prog_13_method_1_code 32 (.iload 6) 2 := fun h => hb h (by decide +kernel)
theorem d7_34 : DC prog_13_method_1_code 34 (.putfield 27) 3 := fun h => hb h (by decide +kernel)
theorem d7_37 : DC prog_13_method_1_code 37 (.aload_n 0) 1 := fun h => hb h (by decide +kernel)
theorem d7_38 : DC prog_13_method_1_code 38 (.iload 7) 2 := fun h => hb h (by decide +kernel)
theorem d7_40 : DC prog_13_method_1_code 40 (.putfield 30) 3 := fun h => hb h (by decide +kernel)
theorem d7_43 : DC prog_13_method_1_code 43 (.aload_n 0) 1 := fun h => hb h (by decide +kernel)
theorem d7_44 : DC prog_13_method_1_code 44 (.iload 8) 2 := fun h => hb h (by decide +kernel)
theorem d7_46 : DC prog_13_method_1_code 46 (.putfield 33) 3 := fun h => hb h (by decide +kernel)
theorem d7_49 : DC prog_13_method_1_code 49 (.aload_n 0) 1 := fun h => hb h (by decide +kernel)
theorem d7_50 : DC prog_13_method_1_code 50 (.iload 9) 2 := fun h => hb h (by decide +kernel)
theorem d7_52 : DC prog_13_method_1_code 52 (.putfield 36) 3 := fun h => hb h (by decide +kernel)
theorem d7_55 : DC prog_13_method_1_code 55 (.return_) 1 := fun h => hb h (by decide +kernel)
theorem d11_0 : DC prog_13_method_6_code 0 (.aload_n 0) 1 := fun h => hb h (by decide +kernel)
theorem d11_1 : DC prog_13_method_6_code 1 (.getfield 7) 3 := fun h => hb h (by decide +kernel)
theorem d11_4 : DC prog_13_method_6_code 4 (.areturn) 1 := fun h => hb h (by decide +kernel)
theorem d12_0 : DC prog_13_method_7_code 0 (.aload_n 0) 1 := fun h => hb h (by decide +kernel)
theorem d12_1 : DC prog_13_method_7_code 1 (.getfield 13) 3 := fun h => hb h (by decide +kernel)
theorem d12_4 : DC prog_13_method_7_code 4 (.areturn) 1 := fun h => hb h (by decide +kernel)
theorem d9_0 : DC prog_16_method_1_code 0 (.aload_n 0) 1 := fun h => hb h (by decide +kernel)
theorem d9_1 : DC prog_16_method_1_code 1 (.invokespecial 1) 3 := fun h => hb h (by decide +kernel)
theorem d9_4 : DC prog_16_method_1_code 4 (.aload_n 0) 1 := fun h => hb h (by decide +kernel)
theorem d9_5 : DC prog_16_method_1_code 5 (.aload_n 1) 1 := fun h => hb h (by decide +kernel)
theorem d9_6 : DC prog_16_method_1_code 6 (.putfield 7) 3 := fun h => hb h (by decide +kernel)
theorem d9_9 : DC prog_16_method_1_code 9 (.aload_n 0) 1 := fun h => hb h (by decide +kernel)
theorem d9_10 : DC prog_16_method_1_code 10 (.iload_n 2) 1 := fun h => hb h (by decide +kernel)
theorem d9_11 : DC prog_16_method_1_code 11 (.putfield 13) 3 := fun h => hb h (by decide +kernel)
theorem d9_14 : DC prog_16_method_1_code 14 (.return_) 1 := fun h => hb h (by decide +kernel)
theorem d10_0 : DC prog_16_method_2_code 0 (.new 17) 3 := fun h => hb h (by decide +kernel)
theorem d10_3 : DC prog_16_method_2_code 3 (.dup) 1 := fun h => hb h (by decide +kernel)
theorem d10_4 : DC prog_16_method_2_code 4 (.aload_n 0) 1 := fun h => hb h (by decide +kernel)
theorem d10_5 : DC prog_16_method_2_code 5 (.getfield 7) 3 := fun h => hb h (by decide +kernel)
theorem d10_8 : DC prog_16_method_2_code 8 (.invokevirtual 19) 3 := fun h => hb h (by decide +kernel)
theorem d10_11 : DC prog_16_method_2_code 11 (.aload_n 0) 1 := fun h => hb h (by decide +kernel)
theorem d10_12 : DC prog_16_method_2_code 12 (.getfield 7) 3 := fun h => hb h (by decide +kernel)
theorem d10_15 : DC prog_16_method_2_code 15 (.invokevirtual 25) 3 := fun h => hb h (by decide +kernel)
theorem d10_18 : DC prog_16_method_2_code 18 (.aload_n 0) 1 := fun h => hb h (by decide +kernel)
theorem d10_19 : DC prog_16_method_2_code 19 (.getfield 13) 3 := fun h => hb h (by decide +kernel)
theorem d10_22 : DC prog_16_method_2_code 22 (.iload_n 1) 1 := fun h => hb h (by decide +kernel)
theorem d10_23 : DC prog_16_method_2_code 23 (.invokespecial 28) 3 := fun h => hb h (by decide +kernel)
theorem d10_26 : DC prog_16_method_2_code 26 (.areturn) 1 := fun h => hb h (by decide +kernel)
theorem d13_0 : DC prog_3_method_2_code 0 (.aload_n 0) 1 := fun h => hb h (by decide +kernel)
theorem d13_1 : DC prog_3_method_2_code 1 (.invokespecial 1) 3 := fun h => hb h (by decide +kernel)
theorem d13_4 : DC prog_3_method_2_code 4 (.aload_n 0) 1 := fun h => hb h (by decide +kernel)
theorem d13_5 : DC prog_3_method_2_code 5 (.aload_n 1) 1 := fun h => hb h (by decide +kernel)
theorem d13_6 : DC prog_3_method_2_code 6 (.putfield 7) 3 := fun h => hb h (by decide +kernel)
theorem d13_9 : DC prog_3_method_2_code 9 (.aload_n 0) 1 := fun h => hb h (by decide +kernel)
theorem d13_10 : DC prog_3_method_2_code 10 (.aload_n 2) 1 := fun h => hb h (by decide +kernel)
theorem d13_11 : DC prog_3_method_2_code 11 (.putfield 13) 3 := fun h => hb h (by decide +kernel)
theorem d13_14 : DC prog_3_method_2_code 14 (.aload_n 0) 1 := fun h => hb h (by decide +kernel)
theorem d13_15 : DC prog_3_method_2_code 15 (.iload_n 3) 1 := fun h => hb h (by decide +kernel)
theorem d13_16 : DC prog_3_method_2_code 16 (.putfield 16) 3 := fun h => hb h (by decide +kernel)
theorem d13_19 : DC prog_3_method_2_code 19 (.aload_n 0) 1 := fun h => hb h (by decide +kernel)
theorem d13_20 : DC prog_3_method_2_code 20 (.iload 4) 2 := fun h => hb h (by decide +kernel)
theorem d13_22 : DC prog_3_method_2_code 22 (.putfield 20) 3 := fun h => hb h (by decide +kernel)
theorem d13_25 : DC prog_3_method_2_code 25 (.return_) 1 := fun h => hb h (by decide +kernel)
theorem d14_0 : DC prog_3_method_6_code 0 (.aload_n 0) 1 := fun h => hb h (by decide +kernel)
theorem d14_1 : DC prog_3_method_6_code 1 (.getfield 7) 3 := fun h => hb h (by decide +kernel)
theorem d14_4 : DC prog_3_method_6_code 4 (.areturn) 1 := fun h => hb h (by decide +kernel)
theorem d16_0 : DC prog_3_method_7_code 0 (.aload_n 0) 1 := fun h => hb h (by decide +kernel)
theorem d16_1 : DC prog_3_method_7_code 1 (.getfield 13) 3 := fun h => hb h (by decide +kernel)
theorem d16_4 : DC prog_3_method_7_code 4 (.areturn) 1 := fun h => hb h (by decide +kernel)
theorem d17_0 : DC prog_3_method_8_code 0 (.aload_n 0) 1 := fun h => hb h (by decide +kernel)
theorem d17_1 : DC prog_3_method_8_code 1 (.getfield 16) 3 := fun h => hb h (by decide +kernel)
theorem d17_4 : DC prog_3_method_8_code 4 (.ireturn) 1 := fun h => hb h (by decide +kernel)
theorem d18_0 : DC prog_3_method_9_code 0 (.aload_n 0) 1 := fun h => hb h (by decide +kernel)
theorem d18_1 : DC prog_3_method_9_code 1 (.getfield 20) 3 := fun h => hb h (by decide +kernel)
theorem d18_4 : DC prog_3_method_9_code 4 (.ireturn) 1 := fun h => hb h (by decide +kernel)
theorem pn_0 : plainName "java/lang/Record" = true := by first | (simp [plainName, overriddenIn]; done) | decide +kernel
theorem pn_1 : plainName "com/example/roundkeeper/roundkeeper/ruleset/ranked/Fighter" = true := by first | (simp [plainName, overriddenIn]; done) | decide +kernel
theorem pn_2 : plainName "com/example/roundkeeper/roundkeeper/ruleset/ranked/Slot" = true := by first | (simp [plainName, overriddenIn]; done) | decide +kernel
theorem pn_3 : plainName "com/example/roundkeeper/roundkeeper/Turn" = true := by first | (simp [plainName, overriddenIn]; done) | decide +kernel
theorem pn_4 : plainName "java/lang/String" = true := by first | (simp [plainName, overriddenIn]; done) | decide +kernel
theorem pn_5 : plainName "com/example/roundkeeper/roundkeeper/ruleset/ranked/SlotTurnPinLaw" = true := by first | (simp [plainName, overriddenIn]; done) | decide +kernel
theorem pd_0 : parseMethodDescriptor "([C)V" = some ⟨[(.array .char)], none⟩ := by decide +kernel
theorem pd_1 : parseMethodDescriptor "()V" = some ⟨[], none⟩ := by decide +kernel
theorem pd_2 : parseMethodDescriptor "(Ljava/lang/String;Ljava/lang/String;IILcom/example/roundkeeper/roundkeeper/ruleset/ranked/Reach;IIII)V" = some ⟨[(.object "java/lang/String"), (.object "java/lang/String"), .int, .int, (.object "com/example/roundkeeper/roundkeeper/ruleset/ranked/Reach"), .int, .int, .int, .int], none⟩ := by decide +kernel
theorem pd_3 : parseMethodDescriptor "(Lcom/example/roundkeeper/roundkeeper/ruleset/ranked/Fighter;I)V" = some ⟨[(.object "com/example/roundkeeper/roundkeeper/ruleset/ranked/Fighter"), .int], none⟩ := by decide +kernel
theorem pd_4 : parseMethodDescriptor "()Ljava/lang/String;" = some ⟨[], some (.object "java/lang/String")⟩ := by decide +kernel
theorem pd_5 : parseMethodDescriptor "(Ljava/lang/String;Ljava/lang/String;IZ)V" = some ⟨[(.object "java/lang/String"), (.object "java/lang/String"), .int, .boolean], none⟩ := by decide +kernel
theorem pd_6 : parseMethodDescriptor "(Z)Lcom/example/roundkeeper/roundkeeper/Turn;" = some ⟨[.boolean], some (.object "com/example/roundkeeper/roundkeeper/Turn")⟩ := by decide +kernel
theorem pd_7 : parseMethodDescriptor "(Ljava/lang/Object;)Z" = some ⟨[(.object "java/lang/Object")], some .boolean⟩ := by decide +kernel
theorem pd_8 : parseMethodDescriptor "()I" = some ⟨[], some .int⟩ := by decide +kernel
theorem pd_9 : parseMethodDescriptor "()Z" = some ⟨[], some .boolean⟩ := by decide +kernel
theorem wd_0 : WD (Jvm.Cond.arrayClass Jvm.ClassFile.FieldType.char) := own_wd 0 rfl
theorem wd_1 : WD (Jvm.Cond.classLink "com/example/roundkeeper/roundkeeper/ruleset/ranked/SlotTurnPinLaw" (7 : Nat) kc1) := own_wd 1 rfl
theorem wd_2 : WD (Jvm.Cond.instantiable kc1 (4 : Nat)) := own_wd 2 rfl
theorem wd_3 : WD (Jvm.Cond.initialized kc1) := own_wd 3 rfl
theorem wd_4 : WD (Jvm.Cond.methodLink "com/example/roundkeeper/roundkeeper/ruleset/ranked/SlotTurnPinLaw" (9 : Nat) ({ cls := kc1, name := "<init>", desc := "([C)V" } : Jvm.MethodName)) := own_wd 4 rfl
theorem wd_5 : WD (Jvm.Cond.instanceMethod ({ cls := kc1, name := "<init>", desc := "([C)V" } : Jvm.MethodName)) := own_wd 5 rfl
theorem wd_6 : WD (Jvm.Cond.code ({ cls := kc1, name := "<init>", desc := "([C)V" } : Jvm.MethodName) jdk_42_method_3_code (2 : Nat) (Option.none : Option Jvm.ClassFile.FieldType)) := own_wd 6 rfl
theorem wd_12 : WD (Jvm.Cond.instanceMethod ({ cls := "java/lang/Object", name := "<init>", desc := "()V" } : Jvm.MethodName)) := own_wd 12 rfl
theorem wd_13 : WD (Jvm.Cond.code ({ cls := "java/lang/Object", name := "<init>", desc := "()V" } : Jvm.MethodName) object_method_1_code (1 : Nat) (Option.none : Option Jvm.ClassFile.FieldType)) := own_wd 13 rfl
theorem wd_27 : WD (Jvm.Cond.laysFinal kc1 kc1 "coder" "B") := own_wd 27 rfl
theorem wd_29 : WD (Jvm.Cond.laysFinal kc1 kc1 "value" "[B") := own_wd 29 rfl
theorem wd_30 : WD (Jvm.Cond.classLink "com/example/roundkeeper/roundkeeper/ruleset/ranked/SlotTurnPinLaw" (12 : Nat) kc0) := own_wd 30 rfl
theorem wd_31 : WD (Jvm.Cond.instantiable kc0 (9 : Nat)) := own_wd 31 rfl
theorem wd_32 : WD (Jvm.Cond.initialized kc0) := own_wd 32 rfl
theorem wd_33 : WD (Jvm.Cond.methodLink "com/example/roundkeeper/roundkeeper/ruleset/ranked/SlotTurnPinLaw" (14 : Nat) ({ cls := kc0, name := "<init>", desc := "(Ljava/lang/String;Ljava/lang/String;IILcom/example/roundkeeper/roundkeeper/ruleset/ranked/Reach;IIII)V" } : Jvm.MethodName)) := own_wd 33 rfl
theorem wd_34 : WD (Jvm.Cond.instanceMethod ({ cls := kc0, name := "<init>", desc := "(Ljava/lang/String;Ljava/lang/String;IILcom/example/roundkeeper/roundkeeper/ruleset/ranked/Reach;IIII)V" } : Jvm.MethodName)) := own_wd 34 rfl
theorem wd_35 : WD (Jvm.Cond.code ({ cls := kc0, name := "<init>", desc := "(Ljava/lang/String;Ljava/lang/String;IILcom/example/roundkeeper/roundkeeper/ruleset/ranked/Reach;IIII)V" } : Jvm.MethodName) prog_13_method_1_code (10 : Nat) (Option.none : Option Jvm.ClassFile.FieldType)) := own_wd 35 rfl
theorem wd_36 : WD (Jvm.Cond.methodLink kc0 (1 : Nat) ({ cls := "java/lang/Record", name := "<init>", desc := "()V" } : Jvm.MethodName)) := own_wd 36 rfl
theorem wd_37 : WD (Jvm.Cond.instanceMethod ({ cls := "java/lang/Record", name := "<init>", desc := "()V" } : Jvm.MethodName)) := own_wd 37 rfl
theorem wd_39 : WD (Jvm.Cond.initialized "java/lang/Record") := own_wd 39 rfl
theorem wd_40 : WD (Jvm.Cond.code ({ cls := "java/lang/Record", name := "<init>", desc := "()V" } : Jvm.MethodName) jdk_30_method_1_code (1 : Nat) (Option.none : Option Jvm.ClassFile.FieldType)) := own_wd 40 rfl
theorem wd_41 : WD (Jvm.Cond.methodLink "java/lang/Record" (1 : Nat) ({ cls := "java/lang/Object", name := "<init>", desc := "()V" } : Jvm.MethodName)) := own_wd 41 rfl
theorem wd_42 : WD (Jvm.Cond.fieldLink kc0 (7 : Nat) kc0 "name" "Ljava/lang/String;") := own_wd 42 rfl
theorem wd_43 : WD (Jvm.Cond.laysFinal kc0 kc0 "name" "Ljava/lang/String;") := own_wd 43 rfl
theorem wd_44 : WD (Jvm.Cond.fieldLink kc0 (13 : Nat) kc0 "side" "Ljava/lang/String;") := own_wd 44 rfl
theorem wd_45 : WD (Jvm.Cond.laysFinal kc0 kc0 "side" "Ljava/lang/String;") := own_wd 45 rfl
theorem wd_46 : WD (Jvm.Cond.fieldLink kc0 (16 : Nat) kc0 "index" "I") := own_wd 46 rfl
theorem wd_47 : WD (Jvm.Cond.laysFinal kc0 kc0 "index" "I") := own_wd 47 rfl
theorem wd_48 : WD (Jvm.Cond.fieldLink kc0 (20 : Nat) kc0 "rank" "I") := own_wd 48 rfl
theorem wd_49 : WD (Jvm.Cond.laysFinal kc0 kc0 "rank" "I") := own_wd 49 rfl
theorem wd_50 : WD (Jvm.Cond.fieldLink kc0 (23 : Nat) kc0 "reach" "Lcom/example/roundkeeper/roundkeeper/ruleset/ranked/Reach;") := own_wd 50 rfl
theorem wd_51 : WD (Jvm.Cond.laysFinal kc0 kc0 "reach" "Lcom/example/roundkeeper/roundkeeper/ruleset/ranked/Reach;") := own_wd 51 rfl
theorem wd_52 : WD (Jvm.Cond.fieldLink kc0 (27 : Nat) kc0 "skill" "I") := own_wd 52 rfl
theorem wd_53 : WD (Jvm.Cond.laysFinal kc0 kc0 "skill" "I") := own_wd 53 rfl
theorem wd_54 : WD (Jvm.Cond.fieldLink kc0 (30 : Nat) kc0 "actions" "I") := own_wd 54 rfl
theorem wd_55 : WD (Jvm.Cond.laysFinal kc0 kc0 "actions" "I") := own_wd 55 rfl
theorem wd_56 : WD (Jvm.Cond.fieldLink kc0 (33 : Nat) kc0 "hp" "I") := own_wd 56 rfl
theorem wd_57 : WD (Jvm.Cond.laysFinal kc0 kc0 "hp" "I") := own_wd 57 rfl
theorem wd_58 : WD (Jvm.Cond.fieldLink kc0 (36 : Nat) kc0 "armour" "I") := own_wd 58 rfl
theorem wd_59 : WD (Jvm.Cond.laysFinal kc0 kc0 "armour" "I") := own_wd 59 rfl
theorem wd_60 : WD (Jvm.Cond.classLink "com/example/roundkeeper/roundkeeper/ruleset/ranked/SlotTurnPinLaw" (17 : Nat) kc4) := own_wd 60 rfl
theorem wd_61 : WD (Jvm.Cond.instantiable kc4 (2 : Nat)) := own_wd 61 rfl
theorem wd_62 : WD (Jvm.Cond.initialized kc4) := own_wd 62 rfl
theorem wd_63 : WD (Jvm.Cond.methodLink "com/example/roundkeeper/roundkeeper/ruleset/ranked/SlotTurnPinLaw" (19 : Nat) ({ cls := kc4, name := "<init>", desc := "(Lcom/example/roundkeeper/roundkeeper/ruleset/ranked/Fighter;I)V" } : Jvm.MethodName)) := own_wd 63 rfl
theorem wd_64 : WD (Jvm.Cond.instanceMethod ({ cls := kc4, name := "<init>", desc := "(Lcom/example/roundkeeper/roundkeeper/ruleset/ranked/Fighter;I)V" } : Jvm.MethodName)) := own_wd 64 rfl
theorem wd_65 : WD (Jvm.Cond.code ({ cls := kc4, name := "<init>", desc := "(Lcom/example/roundkeeper/roundkeeper/ruleset/ranked/Fighter;I)V" } : Jvm.MethodName) prog_16_method_1_code (3 : Nat) (Option.none : Option Jvm.ClassFile.FieldType)) := own_wd 65 rfl
theorem wd_66 : WD (Jvm.Cond.methodLink kc4 (1 : Nat) ({ cls := "java/lang/Record", name := "<init>", desc := "()V" } : Jvm.MethodName)) := own_wd 66 rfl
theorem wd_67 : WD (Jvm.Cond.fieldLink kc4 (7 : Nat) kc4 "fighter" "Lcom/example/roundkeeper/roundkeeper/ruleset/ranked/Fighter;") := own_wd 67 rfl
theorem wd_68 : WD (Jvm.Cond.laysFinal kc4 kc4 "fighter" "Lcom/example/roundkeeper/roundkeeper/ruleset/ranked/Fighter;") := own_wd 68 rfl
theorem wd_69 : WD (Jvm.Cond.fieldLink kc4 (13 : Nat) kc4 "rank" "I") := own_wd 69 rfl
theorem wd_70 : WD (Jvm.Cond.laysFinal kc4 kc4 "rank" "I") := own_wd 70 rfl
theorem wd_71 : WD (Jvm.Cond.methodLink "com/example/roundkeeper/roundkeeper/ruleset/ranked/SlotTurnPinLaw" (22 : Nat) ({ cls := kc4, name := "turn", desc := "(Z)Lcom/example/roundkeeper/roundkeeper/Turn;" } : Jvm.MethodName)) := own_wd 71 rfl
theorem wd_72 : WD (Jvm.Cond.declares ({ cls := kc4, name := "turn", desc := "(Z)Lcom/example/roundkeeper/roundkeeper/Turn;" } : Jvm.MethodName)) := own_wd 72 rfl
theorem wd_73 : WD (Jvm.Cond.instanceMethod ({ cls := kc4, name := "turn", desc := "(Z)Lcom/example/roundkeeper/roundkeeper/Turn;" } : Jvm.MethodName)) := own_wd 73 rfl
theorem wd_74 : WD (Jvm.Cond.selects kc4 ({ cls := kc4, name := "turn", desc := "(Z)Lcom/example/roundkeeper/roundkeeper/Turn;" } : Jvm.MethodName) ({ cls := kc4, name := "turn", desc := "(Z)Lcom/example/roundkeeper/roundkeeper/Turn;" } : Jvm.MethodName)) := own_wd 74 rfl
theorem wd_75 : WD (Jvm.Cond.code ({ cls := kc4, name := "turn", desc := "(Z)Lcom/example/roundkeeper/roundkeeper/Turn;" } : Jvm.MethodName) prog_16_method_2_code (2 : Nat) (Option.some (Jvm.ClassFile.FieldType.object kc2))) := own_wd 75 rfl
theorem wd_76 : WD (Jvm.Cond.classLink kc4 (17 : Nat) kc2) := own_wd 76 rfl
theorem wd_77 : WD (Jvm.Cond.instantiable kc2 (4 : Nat)) := own_wd 77 rfl
theorem wd_78 : WD (Jvm.Cond.initialized kc2) := own_wd 78 rfl
theorem wd_79 : WD (Jvm.Cond.methodLink kc4 (19 : Nat) ({ cls := kc0, name := "name", desc := "()Ljava/lang/String;" } : Jvm.MethodName)) := own_wd 79 rfl
theorem wd_80 : WD (Jvm.Cond.declares ({ cls := kc0, name := "name", desc := "()Ljava/lang/String;" } : Jvm.MethodName)) := own_wd 80 rfl
theorem wd_81 : WD (Jvm.Cond.instanceMethod ({ cls := kc0, name := "name", desc := "()Ljava/lang/String;" } : Jvm.MethodName)) := own_wd 81 rfl
theorem wd_82 : WD (Jvm.Cond.selects kc0 ({ cls := kc0, name := "name", desc := "()Ljava/lang/String;" } : Jvm.MethodName) ({ cls := kc0, name := "name", desc := "()Ljava/lang/String;" } : Jvm.MethodName)) := own_wd 82 rfl
theorem wd_83 : WD (Jvm.Cond.code ({ cls := kc0, name := "name", desc := "()Ljava/lang/String;" } : Jvm.MethodName) prog_13_method_6_code (1 : Nat) (Option.some (Jvm.ClassFile.FieldType.object kc1))) := own_wd 83 rfl
theorem wd_84 : WD (Jvm.Cond.methodLink kc4 (25 : Nat) ({ cls := kc0, name := "side", desc := "()Ljava/lang/String;" } : Jvm.MethodName)) := own_wd 84 rfl
theorem wd_85 : WD (Jvm.Cond.declares ({ cls := kc0, name := "side", desc := "()Ljava/lang/String;" } : Jvm.MethodName)) := own_wd 85 rfl
theorem wd_86 : WD (Jvm.Cond.instanceMethod ({ cls := kc0, name := "side", desc := "()Ljava/lang/String;" } : Jvm.MethodName)) := own_wd 86 rfl
theorem wd_87 : WD (Jvm.Cond.selects kc0 ({ cls := kc0, name := "side", desc := "()Ljava/lang/String;" } : Jvm.MethodName) ({ cls := kc0, name := "side", desc := "()Ljava/lang/String;" } : Jvm.MethodName)) := own_wd 87 rfl
theorem wd_88 : WD (Jvm.Cond.code ({ cls := kc0, name := "side", desc := "()Ljava/lang/String;" } : Jvm.MethodName) prog_13_method_7_code (1 : Nat) (Option.some (Jvm.ClassFile.FieldType.object kc1))) := own_wd 88 rfl
theorem wd_89 : WD (Jvm.Cond.methodLink kc4 (28 : Nat) ({ cls := kc2, name := "<init>", desc := "(Ljava/lang/String;Ljava/lang/String;IZ)V" } : Jvm.MethodName)) := own_wd 89 rfl
theorem wd_90 : WD (Jvm.Cond.instanceMethod ({ cls := kc2, name := "<init>", desc := "(Ljava/lang/String;Ljava/lang/String;IZ)V" } : Jvm.MethodName)) := own_wd 90 rfl
theorem wd_91 : WD (Jvm.Cond.code ({ cls := kc2, name := "<init>", desc := "(Ljava/lang/String;Ljava/lang/String;IZ)V" } : Jvm.MethodName) prog_3_method_2_code (5 : Nat) (Option.none : Option Jvm.ClassFile.FieldType)) := own_wd 91 rfl
theorem wd_92 : WD (Jvm.Cond.methodLink kc2 (1 : Nat) ({ cls := "java/lang/Record", name := "<init>", desc := "()V" } : Jvm.MethodName)) := own_wd 92 rfl
theorem wd_93 : WD (Jvm.Cond.fieldLink kc2 (7 : Nat) kc2 "name" "Ljava/lang/String;") := own_wd 93 rfl
theorem wd_94 : WD (Jvm.Cond.laysFinal kc2 kc2 "name" "Ljava/lang/String;") := own_wd 94 rfl
theorem wd_95 : WD (Jvm.Cond.fieldLink kc2 (13 : Nat) kc2 "side" "Ljava/lang/String;") := own_wd 95 rfl
theorem wd_96 : WD (Jvm.Cond.laysFinal kc2 kc2 "side" "Ljava/lang/String;") := own_wd 96 rfl
theorem wd_97 : WD (Jvm.Cond.fieldLink kc2 (16 : Nat) kc2 "initiative" "I") := own_wd 97 rfl
theorem wd_98 : WD (Jvm.Cond.laysFinal kc2 kc2 "initiative" "I") := own_wd 98 rfl
theorem wd_99 : WD (Jvm.Cond.fieldLink kc2 (20 : Nat) kc2 "simultaneous" "Z") := own_wd 99 rfl
theorem wd_100 : WD (Jvm.Cond.laysFinal kc2 kc2 "simultaneous" "Z") := own_wd 100 rfl
theorem wd_101 : WD (Jvm.Cond.methodLink "com/example/roundkeeper/roundkeeper/ruleset/ranked/SlotTurnPinLaw" (26 : Nat) ({ cls := kc2, name := "name", desc := "()Ljava/lang/String;" } : Jvm.MethodName)) := own_wd 101 rfl
theorem wd_102 : WD (Jvm.Cond.declares ({ cls := kc2, name := "name", desc := "()Ljava/lang/String;" } : Jvm.MethodName)) := own_wd 102 rfl
theorem wd_103 : WD (Jvm.Cond.instanceMethod ({ cls := kc2, name := "name", desc := "()Ljava/lang/String;" } : Jvm.MethodName)) := own_wd 103 rfl
theorem wd_104 : WD (Jvm.Cond.selects kc2 ({ cls := kc2, name := "name", desc := "()Ljava/lang/String;" } : Jvm.MethodName) ({ cls := kc2, name := "name", desc := "()Ljava/lang/String;" } : Jvm.MethodName)) := own_wd 104 rfl
theorem wd_105 : WD (Jvm.Cond.code ({ cls := kc2, name := "name", desc := "()Ljava/lang/String;" } : Jvm.MethodName) prog_3_method_6_code (1 : Nat) (Option.some (Jvm.ClassFile.FieldType.object kc1))) := own_wd 105 rfl
theorem wd_106 : WD (Jvm.Cond.methodLink "com/example/roundkeeper/roundkeeper/ruleset/ranked/SlotTurnPinLaw" (32 : Nat) ({ cls := kc1, name := "equals", desc := "(Ljava/lang/Object;)Z" } : Jvm.MethodName)) := own_wd 106 rfl
theorem wd_107 : WD (Jvm.Cond.declares ({ cls := kc1, name := "equals", desc := "(Ljava/lang/Object;)Z" } : Jvm.MethodName)) := own_wd 107 rfl
theorem wd_108 : WD (Jvm.Cond.instanceMethod ({ cls := kc1, name := "equals", desc := "(Ljava/lang/Object;)Z" } : Jvm.MethodName)) := own_wd 108 rfl
theorem wd_109 : WD (Jvm.Cond.selects kc1 ({ cls := kc1, name := "equals", desc := "(Ljava/lang/Object;)Z" } : Jvm.MethodName) ({ cls := kc1, name := "equals", desc := "(Ljava/lang/Object;)Z" } : Jvm.MethodName)) := own_wd 109 rfl
theorem wd_110 : WD (Jvm.Cond.code ({ cls := kc1, name := "equals", desc := "(Ljava/lang/Object;)Z" } : Jvm.MethodName) jdk_42_method_66_code (3 : Nat) (Option.some Jvm.ClassFile.FieldType.boolean)) := own_wd 110 rfl
theorem wd_111 : WD (Jvm.Cond.methodLink "com/example/roundkeeper/roundkeeper/ruleset/ranked/SlotTurnPinLaw" (36 : Nat) ({ cls := kc2, name := "side", desc := "()Ljava/lang/String;" } : Jvm.MethodName)) := own_wd 111 rfl
theorem wd_112 : WD (Jvm.Cond.declares ({ cls := kc2, name := "side", desc := "()Ljava/lang/String;" } : Jvm.MethodName)) := own_wd 112 rfl
theorem wd_113 : WD (Jvm.Cond.instanceMethod ({ cls := kc2, name := "side", desc := "()Ljava/lang/String;" } : Jvm.MethodName)) := own_wd 113 rfl
theorem wd_114 : WD (Jvm.Cond.selects kc2 ({ cls := kc2, name := "side", desc := "()Ljava/lang/String;" } : Jvm.MethodName) ({ cls := kc2, name := "side", desc := "()Ljava/lang/String;" } : Jvm.MethodName)) := own_wd 114 rfl
theorem wd_115 : WD (Jvm.Cond.code ({ cls := kc2, name := "side", desc := "()Ljava/lang/String;" } : Jvm.MethodName) prog_3_method_7_code (1 : Nat) (Option.some (Jvm.ClassFile.FieldType.object kc1))) := own_wd 115 rfl
theorem wd_116 : WD (Jvm.Cond.methodLink "com/example/roundkeeper/roundkeeper/ruleset/ranked/SlotTurnPinLaw" (39 : Nat) ({ cls := kc2, name := "initiative", desc := "()I" } : Jvm.MethodName)) := own_wd 116 rfl
theorem wd_117 : WD (Jvm.Cond.declares ({ cls := kc2, name := "initiative", desc := "()I" } : Jvm.MethodName)) := own_wd 117 rfl
theorem wd_118 : WD (Jvm.Cond.instanceMethod ({ cls := kc2, name := "initiative", desc := "()I" } : Jvm.MethodName)) := own_wd 118 rfl
theorem wd_119 : WD (Jvm.Cond.selects kc2 ({ cls := kc2, name := "initiative", desc := "()I" } : Jvm.MethodName) ({ cls := kc2, name := "initiative", desc := "()I" } : Jvm.MethodName)) := own_wd 119 rfl
theorem wd_120 : WD (Jvm.Cond.code ({ cls := kc2, name := "initiative", desc := "()I" } : Jvm.MethodName) prog_3_method_8_code (1 : Nat) (Option.some Jvm.ClassFile.FieldType.int)) := own_wd 120 rfl
theorem wd_121 : WD (Jvm.Cond.methodLink "com/example/roundkeeper/roundkeeper/ruleset/ranked/SlotTurnPinLaw" (43 : Nat) ({ cls := kc2, name := "simultaneous", desc := "()Z" } : Jvm.MethodName)) := own_wd 121 rfl
theorem wd_122 : WD (Jvm.Cond.declares ({ cls := kc2, name := "simultaneous", desc := "()Z" } : Jvm.MethodName)) := own_wd 122 rfl
theorem wd_123 : WD (Jvm.Cond.instanceMethod ({ cls := kc2, name := "simultaneous", desc := "()Z" } : Jvm.MethodName)) := own_wd 123 rfl
theorem wd_124 : WD (Jvm.Cond.selects kc2 ({ cls := kc2, name := "simultaneous", desc := "()Z" } : Jvm.MethodName) ({ cls := kc2, name := "simultaneous", desc := "()Z" } : Jvm.MethodName)) := own_wd 124 rfl
theorem wd_125 : WD (Jvm.Cond.code ({ cls := kc2, name := "simultaneous", desc := "()Z" } : Jvm.MethodName) prog_3_method_9_code (1 : Nat) (Option.some Jvm.ClassFile.FieldType.boolean)) := own_wd 125 rfl
theorem ef_m8_2 (m : MethodId) (a0 : Addr)  : entryFrame m #[(.ref a0)] 1 = mkF m 0 #[.val (.ref a0)] [] := by first | (simp [entryFrame, mkF, argsToLocals, Value.category]; done) | rfl
def Q_m8_2 (Z : State) (a0 : Addr) (h0 : Heap) (n0 : Nat) (v : Option Value) (h : Heap) (L : List Loc) : Prop := v = none ∧ Fr n0 L ∧ h = h0
theorem rm_m8_2 (l : Launch) (Z : State) (aZ : Array Value) (hw : ∀ d ∈ tables_1, d.before aZ Z = true) (ws : List Jvm.Cond) (a0 : Addr) (h0 : Heap) (n0 : Nat) (Z0 : n0 ≤ h0.size) :
    MetN l Z yn_8 jdk_30_method_1_code 1 none ws ({ frames := 1, cells := 0, slots := 0, locals := 12 } : Room) #[(.ref a0)] h0 (Q_m8_2 Z a0 h0 n0) := by
 refine MetN.of (plainFor_of_name pn_0) ?_
 intro p e s m below meth c s₁ hret hx hby hml hown hnm hlk hZ X0 e0
 have N0 := Fr.nil n0
 rw [ef_m8_2 m a0]
 refine w_aloadN X0 hx (d8_0 hby) rfl rfl (pc' := 1) rfl ?_
 refine w_initO X0 hx 0 hZ hown (wd_41 hw) (wd_12 hw) (wd_13 hw) e0 (by rw [hml]; rfl) (d8_1 hby) (by decide) (Nat.le_of_eq rfl) (by decide) (pc' := 4) rfl ?_
 intro T20 X20 e20
 exact w_done X20 hlk (v := none) e20 (fun _ => rfl) (fun fs hr => X20.returnOut hx hret (d8_4 hby) hr) (by decide) (by decide) (⟨rfl, N0, rfl⟩)
theorem ef_m7_1 (m : MethodId) (a0 : Addr) (a1 : Addr) (a2 : Addr) (p3 : Int32) (p4 : Int32) (p6 : Int32) (p7 : Int32) (p8 : Int32) (p9 : Int32)  : entryFrame m #[(.ref a0), (.ref a1), (.ref a2), (.int p3), (.int p4), .null, (.int p6), (.int p7), (.int p8), (.int p9)] 10 = mkF m 0 #[.val (.ref a0), .val (.ref a1), .val (.ref a2), .val (.int p3), .val (.int p4), .val .null, .val (.int p6), .val (.int p7), .val (.int p8), .val (.int p9)] [] := by first | (simp [entryFrame, mkF, argsToLocals, Value.category]; done) | rfl
def Q_m7_1 (Z : State) (a0 : Addr) (a1 : Addr) (a2 : Addr) (p3 : Int32) (p4 : Int32) (p6 : Int32) (p7 : Int32) (p8 : Int32) (p9 : Int32) (h0 : Heap) (n0 : Nat) (v : Option Value) (h : Heap) (L : List Loc) : Prop := v = none ∧ Fr n0 L ∧ Keep h0 h [a0] ∧ Exa Z h a0 kc0 ∧ Fld Z h a0 kc0 "name" "Ljava/lang/String;" (.ref a1) ∧ Fld Z h a0 kc0 "side" "Ljava/lang/String;" (.ref a2) ∧ Fld Z h a0 kc0 "index" "I" (.int p3) ∧ Fld Z h a0 kc0 "rank" "I" (.int p4) ∧ Fld Z h a0 kc0 "reach" "Lcom/example/roundkeeper/roundkeeper/ruleset/ranked/Reach;" .null ∧ Fld Z h a0 kc0 "skill" "I" (.int p6) ∧ Fld Z h a0 kc0 "actions" "I" (.int p7) ∧ Fld Z h a0 kc0 "hp" "I" (.int p8) ∧ Fld Z h a0 kc0 "armour" "I" (.int p9)
theorem rm_m7_1 (l : Launch) (Z : State) (aZ : Array Value) (hw : ∀ d ∈ tables_1, d.before aZ Z = true) (ws : List Jvm.Cond) (a0 : Addr) (a1 : Addr) (a2 : Addr) (p3 : Int32) (p4 : Int32) (p6 : Int32) (p7 : Int32) (p8 : Int32) (p9 : Int32) (h0 : Heap) (n0 : Nat) (Z0 : n0 ≤ h0.size) (E_a0 : Exa Z h0 a0 kc0) (zz0 : Fld Z h0 a0 kc0 "name" "Ljava/lang/String;" .null) (zz1 : n0 ≤ a0) (zz2 : Fld Z h0 a0 kc0 "side" "Ljava/lang/String;" .null) (zz3 : Fld Z h0 a0 kc0 "index" "I" (.int (0 : Int32))) (zz4 : Fld Z h0 a0 kc0 "rank" "I" (.int (0 : Int32))) (zz5 : Fld Z h0 a0 kc0 "reach" "Lcom/example/roundkeeper/roundkeeper/ruleset/ranked/Reach;" .null) (zz6 : Fld Z h0 a0 kc0 "skill" "I" (.int (0 : Int32))) (zz7 : Fld Z h0 a0 kc0 "actions" "I" (.int (0 : Int32))) (zz8 : Fld Z h0 a0 kc0 "hp" "I" (.int (0 : Int32))) (zz9 : Fld Z h0 a0 kc0 "armour" "I" (.int (0 : Int32))) :
    MetN l Z yn_7 prog_13_method_1_code 10 none ws ({ frames := 2, cells := 0, slots := 0, locals := 24 } : Room) #[(.ref a0), (.ref a1), (.ref a2), (.int p3), (.int p4), .null, (.int p6), (.int p7), (.int p8), (.int p9)] h0 (Q_m7_1 Z a0 a1 a2 p3 p4 p6 p7 p8 p9 h0 n0) := by
 refine MetN.of (plainFor_of_name pn_1) ?_
 intro p e s m below meth c s₁ hret hx hby hml hown hnm hlk hZ X0 e0
 have N0 := Fr.nil n0
 rw [ef_m7_1 m a0 a1 a2 p3 p4 p6 p7 p8 p9]
 refine w_aloadN X0 hx (d7_0 hby) rfl rfl (pc' := 1) rfl ?_
 refine w_special X0 hx (y := yn_8) rfl hown (mvT hZ (wd_36 hw)) (mvT hZ (wd_37 hw)) (mvT hZ (wd_40 hw)) (by decide) (backOf (W := 0) (rm_m8_2 l Z aZ hw [] a0 h0 n0 Z0 ) hZ (wd_40 hw) (wd_39 hw) (by decide) (by decide)) (by rw [hml]; rfl) [] (lenOf pd_1 rfl) rfl (Nat.le_of_eq rfl) (d7_1 hby) (fun _ _ => ⟨rfl, e0, (by decide : 0 + 0 ≤ _), (by decide : 0 + 0 ≤ _)⟩) (pc' := 4) rfl ?_
 rintro _ _ ⟨T20, L20, k20, n20⟩ X20 ⟨Lc20, hQ20, l20, y20, z20⟩
 dsimp only [Pt.U, Pt.locs, Pt.cells, Pt.slots] at X20 l20 y20 z20 hQ20 ⊢
 subst l20 y20 z20
 obtain ⟨rfl, N20q, e20⟩ := hQ20
 have N21 := Fr.app N0 N20q
 show Runs _ _ _ _ (T20.setTop (mkF m 4 #[.val (.ref a0), .val (.ref a1), .val (.ref a2), .val (.int p3), .val (.int p4), .val .null, .val (.int p6), .val (.int p7), .val (.int p8), .val (.int p9)] []))
 refine w_aloadN X20 hx (d7_4 hby) rfl rfl (pc' := 5) rfl ?_
 refine w_aloadN X20 hx (d7_5 hby) rfl rfl (pc' := 6) rfl ?_
 refine w_putF X20 hx "" hZ hown (Or.inl (wd_42 hw)) Via.refl e20 zz0 E_a0 (Or.inr ⟨(wd_43 hw), rfl, hnm⟩) (wd_31 hw) (ty := (.object kc1)) (by decide) rfl rfl (d7_6 hby) (pc' := 9) rfl ?_
 intro T22 h22 X22 e22 W22
 have f23 : Fld Z h22 a0 kc0 "name" "Ljava/lang/String;" (.ref a1) := zz0.same W22
 have K24 : Keep h0 h22 [a0] := (Keep.refl h0 [a0]).wr W22 (Or.inl (by simp))
 have N25 := Fr.snoc X22 N21 zz1
 refine w_aloadN X22 hx (d7_9 hby) rfl rfl (pc' := 10) rfl ?_
 refine w_aloadN X22 hx (d7_10 hby) rfl rfl (pc' := 11) rfl ?_
 have f26 : Exa Z h22 a0 kc0 := (E_a0.wr W22)
 have f27 : Fld Z h22 a0 kc0 "side" "Ljava/lang/String;" .null := (zz2.other W22 (Or.inr (slot_ne (Or.inr (wd_45 hw)) (Or.inr (wd_43 hw)) (by decide) (t := (.object kc1)) (t' := (.object kc1)) (by decide) (by decide))))
 refine w_putF X22 hx "" hZ hown (Or.inl (wd_44 hw)) Via.refl e22 f27 f26 (Or.inr ⟨(wd_45 hw), rfl, hnm⟩) (wd_31 hw) (ty := (.object kc1)) (by decide) rfl rfl (d7_11 hby) (pc' := 14) rfl ?_
 intro T28 h28 X28 e28 W28
 have f29 : Fld Z h28 a0 kc0 "side" "Ljava/lang/String;" (.ref a2) := f27.same W28
 have K30 : Keep h0 h28 [a0] := K24.wr W28 (Or.inl (by simp))
 have N31 := Fr.snoc X28 N25 zz1
 refine w_aloadN X28 hx (d7_14 hby) rfl rfl (pc' := 15) rfl ?_
 refine w_iloadN X28 hx (d7_15 hby) rfl (pc' := 16) rfl ?_
 have f32 : Exa Z h28 a0 kc0 := (f26.wr W28)
 have f33 : Fld Z h28 a0 kc0 "index" "I" (.int (0 : Int32)) := ((zz3.other W22 (Or.inr (slot_ne (Or.inr (wd_47 hw)) (Or.inr (wd_43 hw)) (by decide) (t := .int) (t' := (.object kc1)) (by decide) (by decide)))).other W28 (Or.inr (slot_ne (Or.inr (wd_47 hw)) (Or.inr (wd_45 hw)) (by decide) (t := .int) (t' := (.object kc1)) (by decide) (by decide))))
 refine w_putF X28 hx "" hZ hown (Or.inl (wd_46 hw)) Via.refl e28 f33 f32 (Or.inr ⟨(wd_47 hw), rfl, hnm⟩) (wd_31 hw) (ty := .int) (by decide) rfl rfl (d7_16 hby) (pc' := 19) rfl ?_
 intro T34 h34 X34 e34 W34
 have f35 : Fld Z h34 a0 kc0 "index" "I" (.int p3) := f33.same W34
 have K36 : Keep h0 h34 [a0] := K30.wr W34 (Or.inl (by simp))
 have N37 := Fr.snoc X34 N31 zz1
 refine w_aloadN X34 hx (d7_19 hby) rfl rfl (pc' := 20) rfl ?_
 refine w_iload X34 hx (d7_20 hby) rfl (pc' := 22) rfl ?_
 have f38 : Exa Z h34 a0 kc0 := (f32.wr W34)
 have f39 : Fld Z h34 a0 kc0 "rank" "I" (.int (0 : Int32)) := (((zz4.other W22 (Or.inr (slot_ne (Or.inr (wd_49 hw)) (Or.inr (wd_43 hw)) (by decide) (t := .int) (t' := (.object kc1)) (by decide) (by decide)))).other W28 (Or.inr (slot_ne (Or.inr (wd_49 hw)) (Or.inr (wd_45 hw)) (by decide) (t := .int) (t' := (.object kc1)) (by decide) (by decide)))).other W34 (Or.inr (slot_ne (Or.inr (wd_49 hw)) (Or.inr (wd_47 hw)) (by decide) (t := .int) (t' := .int) (by decide) (by decide))))
 refine w_putF X34 hx "" hZ hown (Or.inl (wd_48 hw)) Via.refl e34 f39 f38 (Or.inr ⟨(wd_49 hw), rfl, hnm⟩) (wd_31 hw) (ty := .int) (by decide) rfl rfl (d7_22 hby) (pc' := 25) rfl ?_
 intro T40 h40 X40 e40 W40
 have f41 : Fld Z h40 a0 kc0 "rank" "I" (.int p4) := f39.same W40
 have K42 : Keep h0 h40 [a0] := K36.wr W40 (Or.inl (by simp))
 have N43 := Fr.snoc X40 N37 zz1
 refine w_aloadN X40 hx (d7_25 hby) rfl rfl (pc' := 26) rfl ?_
 refine w_aload X40 hx (d7_26 hby) rfl rfl (pc' := 28) rfl ?_
 have f44 : Exa Z h40 a0 kc0 := (f38.wr W40)
 have f45 : Fld Z h40 a0 kc0 "reach" "Lcom/example/roundkeeper/roundkeeper/ruleset/ranked/Reach;" .null := ((((zz5.other W22 (Or.inr (slot_ne (Or.inr (wd_51 hw)) (Or.inr (wd_43 hw)) (by decide) (t := (.object kc3)) (t' := (.object kc1)) (by decide) (by decide)))).other W28 (Or.inr (slot_ne (Or.inr (wd_51 hw)) (Or.inr (wd_45 hw)) (by decide) (t := (.object kc3)) (t' := (.object kc1)) (by decide) (by decide)))).other W34 (Or.inr (slot_ne (Or.inr (wd_51 hw)) (Or.inr (wd_47 hw)) (by decide) (t := (.object kc3)) (t' := .int) (by decide) (by decide)))).other W40 (Or.inr (slot_ne (Or.inr (wd_51 hw)) (Or.inr (wd_49 hw)) (by decide) (t := (.object kc3)) (t' := .int) (by decide) (by decide))))
 refine w_putF X40 hx "" hZ hown (Or.inl (wd_50 hw)) Via.refl e40 f45 f44 (Or.inr ⟨(wd_51 hw), rfl, hnm⟩) (wd_31 hw) (ty := (.object kc3)) (by decide) rfl rfl (d7_28 hby) (pc' := 31) rfl ?_
 intro T46 h46 X46 e46 W46
 have f47 : Fld Z h46 a0 kc0 "reach" "Lcom/example/roundkeeper/roundkeeper/ruleset/ranked/Reach;" .null := f45.same W46
 have K48 : Keep h0 h46 [a0] := K42.wr W46 (Or.inl (by simp))
 have N49 := Fr.snoc X46 N43 zz1
 refine w_aloadN X46 hx (d7_31 hby) rfl rfl (pc' := 32) rfl ?_
 refine w_iload X46 hx (d7_32 hby) rfl (pc' := 34) rfl ?_
 have f50 : Exa Z h46 a0 kc0 := (f44.wr W46)
 have f51 : Fld Z h46 a0 kc0 "skill" "I" (.int (0 : Int32)) := (((((zz6.other W22 (Or.inr (slot_ne (Or.inr (wd_53 hw)) (Or.inr (wd_43 hw)) (by decide) (t := .int) (t' := (.object kc1)) (by decide) (by decide)))).other W28 (Or.inr (slot_ne (Or.inr (wd_53 hw)) (Or.inr (wd_45 hw)) (by decide) (t := .int) (t' := (.object kc1)) (by decide) (by decide)))).other W34 (Or.inr (slot_ne (Or.inr (wd_53 hw)) (Or.inr (wd_47 hw)) (by decide) (t := .int) (t' := .int) (by decide) (by decide)))).other W40 (Or.inr (slot_ne (Or.inr (wd_53 hw)) (Or.inr (wd_49 hw)) (by decide) (t := .int) (t' := .int) (by decide) (by decide)))).other W46 (Or.inr (slot_ne (Or.inr (wd_53 hw)) (Or.inr (wd_51 hw)) (by decide) (t := .int) (t' := (.object kc3)) (by decide) (by decide))))
 refine w_putF X46 hx "" hZ hown (Or.inl (wd_52 hw)) Via.refl e46 f51 f50 (Or.inr ⟨(wd_53 hw), rfl, hnm⟩) (wd_31 hw) (ty := .int) (by decide) rfl rfl (d7_34 hby) (pc' := 37) rfl ?_
 intro T52 h52 X52 e52 W52
 have f53 : Fld Z h52 a0 kc0 "skill" "I" (.int p6) := f51.same W52
 have K54 : Keep h0 h52 [a0] := K48.wr W52 (Or.inl (by simp))
 have N55 := Fr.snoc X52 N49 zz1
 refine w_aloadN X52 hx (d7_37 hby) rfl rfl (pc' := 38) rfl ?_
 refine w_iload X52 hx (d7_38 hby) rfl (pc' := 40) rfl ?_
 have f56 : Exa Z h52 a0 kc0 := (f50.wr W52)
 have f57 : Fld Z h52 a0 kc0 "actions" "I" (.int (0 : Int32)) := ((((((zz7.other W22 (Or.inr (slot_ne (Or.inr (wd_55 hw)) (Or.inr (wd_43 hw)) (by decide) (t := .int) (t' := (.object kc1)) (by decide) (by decide)))).other W28 (Or.inr (slot_ne (Or.inr (wd_55 hw)) (Or.inr (wd_45 hw)) (by decide) (t := .int) (t' := (.object kc1)) (by decide) (by decide)))).other W34 (Or.inr (slot_ne (Or.inr (wd_55 hw)) (Or.inr (wd_47 hw)) (by decide) (t := .int) (t' := .int) (by decide) (by decide)))).other W40 (Or.inr (slot_ne (Or.inr (wd_55 hw)) (Or.inr (wd_49 hw)) (by decide) (t := .int) (t' := .int) (by decide) (by decide)))).other W46 (Or.inr (slot_ne (Or.inr (wd_55 hw)) (Or.inr (wd_51 hw)) (by decide) (t := .int) (t' := (.object kc3)) (by decide) (by decide)))).other W52 (Or.inr (slot_ne (Or.inr (wd_55 hw)) (Or.inr (wd_53 hw)) (by decide) (t := .int) (t' := .int) (by decide) (by decide))))
 refine w_putF X52 hx "" hZ hown (Or.inl (wd_54 hw)) Via.refl e52 f57 f56 (Or.inr ⟨(wd_55 hw), rfl, hnm⟩) (wd_31 hw) (ty := .int) (by decide) rfl rfl (d7_40 hby) (pc' := 43) rfl ?_
 intro T58 h58 X58 e58 W58
 have f59 : Fld Z h58 a0 kc0 "actions" "I" (.int p7) := f57.same W58
 have K60 : Keep h0 h58 [a0] := K54.wr W58 (Or.inl (by simp))
 have N61 := Fr.snoc X58 N55 zz1
 refine w_aloadN X58 hx (d7_43 hby) rfl rfl (pc' := 44) rfl ?_
 refine w_iload X58 hx (d7_44 hby) rfl (pc' := 46) rfl ?_
 have f62 : Exa Z h58 a0 kc0 := (f56.wr W58)
 have f63 : Fld Z h58 a0 kc0 "hp" "I" (.int (0 : Int32)) := (((((((zz8.other W22 (Or.inr (slot_ne (Or.inr (wd_57 hw)) (Or.inr (wd_43 hw)) (by decide) (t := .int) (t' := (.object kc1)) (by decide) (by decide)))).other W28 (Or.inr (slot_ne (Or.inr (wd_57 hw)) (Or.inr (wd_45 hw)) (by decide) (t := .int) (t' := (.object kc1)) (by decide) (by decide)))).other W34 (Or.inr (slot_ne (Or.inr (wd_57 hw)) (Or.inr (wd_47 hw)) (by decide) (t := .int) (t' := .int) (by decide) (by decide)))).other W40 (Or.inr (slot_ne (Or.inr (wd_57 hw)) (Or.inr (wd_49 hw)) (by decide) (t := .int) (t' := .int) (by decide) (by decide)))).other W46 (Or.inr (slot_ne (Or.inr (wd_57 hw)) (Or.inr (wd_51 hw)) (by decide) (t := .int) (t' := (.object kc3)) (by decide) (by decide)))).other W52 (Or.inr (slot_ne (Or.inr (wd_57 hw)) (Or.inr (wd_53 hw)) (by decide) (t := .int) (t' := .int) (by decide) (by decide)))).other W58 (Or.inr (slot_ne (Or.inr (wd_57 hw)) (Or.inr (wd_55 hw)) (by decide) (t := .int) (t' := .int) (by decide) (by decide))))
 refine w_putF X58 hx "" hZ hown (Or.inl (wd_56 hw)) Via.refl e58 f63 f62 (Or.inr ⟨(wd_57 hw), rfl, hnm⟩) (wd_31 hw) (ty := .int) (by decide) rfl rfl (d7_46 hby) (pc' := 49) rfl ?_
 intro T64 h64 X64 e64 W64
 have f65 : Fld Z h64 a0 kc0 "hp" "I" (.int p8) := f63.same W64
 have K66 : Keep h0 h64 [a0] := K60.wr W64 (Or.inl (by simp))
 have N67 := Fr.snoc X64 N61 zz1
 refine w_aloadN X64 hx (d7_49 hby) rfl rfl (pc' := 50) rfl ?_
 refine w_iload X64 hx (d7_50 hby) rfl (pc' := 52) rfl ?_
 have f68 : Exa Z h64 a0 kc0 := (f62.wr W64)
 have f69 : Fld Z h64 a0 kc0 "armour" "I" (.int (0 : Int32)) := ((((((((zz9.other W22 (Or.inr (slot_ne (Or.inr (wd_59 hw)) (Or.inr (wd_43 hw)) (by decide) (t := .int) (t' := (.object kc1)) (by decide) (by decide)))).other W28 (Or.inr (slot_ne (Or.inr (wd_59 hw)) (Or.inr (wd_45 hw)) (by decide) (t := .int) (t' := (.object kc1)) (by decide) (by decide)))).other W34 (Or.inr (slot_ne (Or.inr (wd_59 hw)) (Or.inr (wd_47 hw)) (by decide) (t := .int) (t' := .int) (by decide) (by decide)))).other W40 (Or.inr (slot_ne (Or.inr (wd_59 hw)) (Or.inr (wd_49 hw)) (by decide) (t := .int) (t' := .int) (by decide) (by decide)))).other W46 (Or.inr (slot_ne (Or.inr (wd_59 hw)) (Or.inr (wd_51 hw)) (by decide) (t := .int) (t' := (.object kc3)) (by decide) (by decide)))).other W52 (Or.inr (slot_ne (Or.inr (wd_59 hw)) (Or.inr (wd_53 hw)) (by decide) (t := .int) (t' := .int) (by decide) (by decide)))).other W58 (Or.inr (slot_ne (Or.inr (wd_59 hw)) (Or.inr (wd_55 hw)) (by decide) (t := .int) (t' := .int) (by decide) (by decide)))).other W64 (Or.inr (slot_ne (Or.inr (wd_59 hw)) (Or.inr (wd_57 hw)) (by decide) (t := .int) (t' := .int) (by decide) (by decide))))
 refine w_putF X64 hx "" hZ hown (Or.inl (wd_58 hw)) Via.refl e64 f69 f68 (Or.inr ⟨(wd_59 hw), rfl, hnm⟩) (wd_31 hw) (ty := .int) (by decide) rfl rfl (d7_52 hby) (pc' := 55) rfl ?_
 intro T70 h70 X70 e70 W70
 have f71 : Fld Z h70 a0 kc0 "armour" "I" (.int p9) := f69.same W70
 have K72 : Keep h0 h70 [a0] := K66.wr W70 (Or.inl (by simp))
 have N73 := Fr.snoc X70 N67 zz1
 have f74 : Exa Z h70 a0 kc0 := (f68.wr W70)
 have f75 : Fld Z h70 a0 kc0 "name" "Ljava/lang/String;" (.ref a1) := ((((((((f23.other W28 (Or.inr (slot_ne (Or.inr (wd_43 hw)) (Or.inr (wd_45 hw)) (by decide) (t := (.object kc1)) (t' := (.object kc1)) (by decide) (by decide)))).other W34 (Or.inr (slot_ne (Or.inr (wd_43 hw)) (Or.inr (wd_47 hw)) (by decide) (t := (.object kc1)) (t' := .int) (by decide) (by decide)))).other W40 (Or.inr (slot_ne (Or.inr (wd_43 hw)) (Or.inr (wd_49 hw)) (by decide) (t := (.object kc1)) (t' := .int) (by decide) (by decide)))).other W46 (Or.inr (slot_ne (Or.inr (wd_43 hw)) (Or.inr (wd_51 hw)) (by decide) (t := (.object kc1)) (t' := (.object kc3)) (by decide) (by decide)))).other W52 (Or.inr (slot_ne (Or.inr (wd_43 hw)) (Or.inr (wd_53 hw)) (by decide) (t := (.object kc1)) (t' := .int) (by decide) (by decide)))).other W58 (Or.inr (slot_ne (Or.inr (wd_43 hw)) (Or.inr (wd_55 hw)) (by decide) (t := (.object kc1)) (t' := .int) (by decide) (by decide)))).other W64 (Or.inr (slot_ne (Or.inr (wd_43 hw)) (Or.inr (wd_57 hw)) (by decide) (t := (.object kc1)) (t' := .int) (by decide) (by decide)))).other W70 (Or.inr (slot_ne (Or.inr (wd_43 hw)) (Or.inr (wd_59 hw)) (by decide) (t := (.object kc1)) (t' := .int) (by decide) (by decide))))
 have f76 : Fld Z h70 a0 kc0 "side" "Ljava/lang/String;" (.ref a2) := (((((((f29.other W34 (Or.inr (slot_ne (Or.inr (wd_45 hw)) (Or.inr (wd_47 hw)) (by decide) (t := (.object kc1)) (t' := .int) (by decide) (by decide)))).other W40 (Or.inr (slot_ne (Or.inr (wd_45 hw)) (Or.inr (wd_49 hw)) (by decide) (t := (.object kc1)) (t' := .int) (by decide) (by decide)))).other W46 (Or.inr (slot_ne (Or.inr (wd_45 hw)) (Or.inr (wd_51 hw)) (by decide) (t := (.object kc1)) (t' := (.object kc3)) (by decide) (by decide)))).other W52 (Or.inr (slot_ne (Or.inr (wd_45 hw)) (Or.inr (wd_53 hw)) (by decide) (t := (.object kc1)) (t' := .int) (by decide) (by decide)))).other W58 (Or.inr (slot_ne (Or.inr (wd_45 hw)) (Or.inr (wd_55 hw)) (by decide) (t := (.object kc1)) (t' := .int) (by decide) (by decide)))).other W64 (Or.inr (slot_ne (Or.inr (wd_45 hw)) (Or.inr (wd_57 hw)) (by decide) (t := (.object kc1)) (t' := .int) (by decide) (by decide)))).other W70 (Or.inr (slot_ne (Or.inr (wd_45 hw)) (Or.inr (wd_59 hw)) (by decide) (t := (.object kc1)) (t' := .int) (by decide) (by decide))))
 have f77 : Fld Z h70 a0 kc0 "index" "I" (.int p3) := ((((((f35.other W40 (Or.inr (slot_ne (Or.inr (wd_47 hw)) (Or.inr (wd_49 hw)) (by decide) (t := .int) (t' := .int) (by decide) (by decide)))).other W46 (Or.inr (slot_ne (Or.inr (wd_47 hw)) (Or.inr (wd_51 hw)) (by decide) (t := .int) (t' := (.object kc3)) (by decide) (by decide)))).other W52 (Or.inr (slot_ne (Or.inr (wd_47 hw)) (Or.inr (wd_53 hw)) (by decide) (t := .int) (t' := .int) (by decide) (by decide)))).other W58 (Or.inr (slot_ne (Or.inr (wd_47 hw)) (Or.inr (wd_55 hw)) (by decide) (t := .int) (t' := .int) (by decide) (by decide)))).other W64 (Or.inr (slot_ne (Or.inr (wd_47 hw)) (Or.inr (wd_57 hw)) (by decide) (t := .int) (t' := .int) (by decide) (by decide)))).other W70 (Or.inr (slot_ne (Or.inr (wd_47 hw)) (Or.inr (wd_59 hw)) (by decide) (t := .int) (t' := .int) (by decide) (by decide))))
 have f78 : Fld Z h70 a0 kc0 "rank" "I" (.int p4) := (((((f41.other W46 (Or.inr (slot_ne (Or.inr (wd_49 hw)) (Or.inr (wd_51 hw)) (by decide) (t := .int) (t' := (.object kc3)) (by decide) (by decide)))).other W52 (Or.inr (slot_ne (Or.inr (wd_49 hw)) (Or.inr (wd_53 hw)) (by decide) (t := .int) (t' := .int) (by decide) (by decide)))).other W58 (Or.inr (slot_ne (Or.inr (wd_49 hw)) (Or.inr (wd_55 hw)) (by decide) (t := .int) (t' := .int) (by decide) (by decide)))).other W64 (Or.inr (slot_ne (Or.inr (wd_49 hw)) (Or.inr (wd_57 hw)) (by decide) (t := .int) (t' := .int) (by decide) (by decide)))).other W70 (Or.inr (slot_ne (Or.inr (wd_49 hw)) (Or.inr (wd_59 hw)) (by decide) (t := .int) (t' := .int) (by decide) (by decide))))
 have f79 : Fld Z h70 a0 kc0 "reach" "Lcom/example/roundkeeper/roundkeeper/ruleset/ranked/Reach;" .null := ((((f47.other W52 (Or.inr (slot_ne (Or.inr (wd_51 hw)) (Or.inr (wd_53 hw)) (by decide) (t := (.object kc3)) (t' := .int) (by decide) (by decide)))).other W58 (Or.inr (slot_ne (Or.inr (wd_51 hw)) (Or.inr (wd_55 hw)) (by decide) (t := (.object kc3)) (t' := .int) (by decide) (by decide)))).other W64 (Or.inr (slot_ne (Or.inr (wd_51 hw)) (Or.inr (wd_57 hw)) (by decide) (t := (.object kc3)) (t' := .int) (by decide) (by decide)))).other W70 (Or.inr (slot_ne (Or.inr (wd_51 hw)) (Or.inr (wd_59 hw)) (by decide) (t := (.object kc3)) (t' := .int) (by decide) (by decide))))
 have f80 : Fld Z h70 a0 kc0 "skill" "I" (.int p6) := (((f53.other W58 (Or.inr (slot_ne (Or.inr (wd_53 hw)) (Or.inr (wd_55 hw)) (by decide) (t := .int) (t' := .int) (by decide) (by decide)))).other W64 (Or.inr (slot_ne (Or.inr (wd_53 hw)) (Or.inr (wd_57 hw)) (by decide) (t := .int) (t' := .int) (by decide) (by decide)))).other W70 (Or.inr (slot_ne (Or.inr (wd_53 hw)) (Or.inr (wd_59 hw)) (by decide) (t := .int) (t' := .int) (by decide) (by decide))))
 have f81 : Fld Z h70 a0 kc0 "actions" "I" (.int p7) := ((f59.other W64 (Or.inr (slot_ne (Or.inr (wd_55 hw)) (Or.inr (wd_57 hw)) (by decide) (t := .int) (t' := .int) (by decide) (by decide)))).other W70 (Or.inr (slot_ne (Or.inr (wd_55 hw)) (Or.inr (wd_59 hw)) (by decide) (t := .int) (t' := .int) (by decide) (by decide))))
 have f82 : Fld Z h70 a0 kc0 "hp" "I" (.int p8) := (f65.other W70 (Or.inr (slot_ne (Or.inr (wd_57 hw)) (Or.inr (wd_59 hw)) (by decide) (t := .int) (t' := .int) (by decide) (by decide))))
 exact w_done X70 hlk (v := none) e70 (fun _ => rfl) (fun fs hr => X70.returnOut hx hret (d7_55 hby) hr) (by decide) (by decide) (⟨rfl, N73, K72, f74, f75, f76, f77, f78, f79, f80, f81, f82, f71⟩)
theorem ef_m9_3 (m : MethodId) (a0 : Addr) (a1 : Addr) (p2 : Int32)  : entryFrame m #[(.ref a0), (.ref a1), (.int p2)] 3 = mkF m 0 #[.val (.ref a0), .val (.ref a1), .val (.int p2)] [] := by first | (simp [entryFrame, mkF, argsToLocals, Value.category]; done) | rfl
def Q_m9_3 (Z : State) (a0 : Addr) (a1 : Addr) (p2 : Int32) (h0 : Heap) (n0 : Nat) (v : Option Value) (h : Heap) (L : List Loc) : Prop := v = none ∧ Fr n0 L ∧ Keep h0 h [a0] ∧ Exa Z h a0 kc4 ∧ Fld Z h a0 kc4 "fighter" "Lcom/example/roundkeeper/roundkeeper/ruleset/ranked/Fighter;" (.ref a1) ∧ Fld Z h a0 kc4 "rank" "I" (.int p2)
theorem rm_m9_3 (l : Launch) (Z : State) (aZ : Array Value) (hw : ∀ d ∈ tables_1, d.before aZ Z = true) (ws : List Jvm.Cond) (a0 : Addr) (a1 : Addr) (p2 : Int32) (h0 : Heap) (n0 : Nat) (Z0 : n0 ≤ h0.size) (E_a0 : Exa Z h0 a0 kc4) (zz0 : Fld Z h0 a0 kc4 "fighter" "Lcom/example/roundkeeper/roundkeeper/ruleset/ranked/Fighter;" .null) (zz1 : n0 ≤ a0) (zz2 : Fld Z h0 a0 kc4 "rank" "I" (.int (0 : Int32))) :
    MetN l Z yn_9 prog_16_method_1_code 3 none ws ({ frames := 2, cells := 0, slots := 0, locals := 24 } : Room) #[(.ref a0), (.ref a1), (.int p2)] h0 (Q_m9_3 Z a0 a1 p2 h0 n0) := by
 refine MetN.of (plainFor_of_name pn_2) ?_
 intro p e s m below meth c s₁ hret hx hby hml hown hnm hlk hZ X0 e0
 have N0 := Fr.nil n0
 rw [ef_m9_3 m a0 a1 p2]
 refine w_aloadN X0 hx (d9_0 hby) rfl rfl (pc' := 1) rfl ?_
 refine w_special X0 hx (y := yn_8) rfl hown (mvT hZ (wd_66 hw)) (mvT hZ (wd_37 hw)) (mvT hZ (wd_40 hw)) (by decide) (backOf (W := 0) (rm_m8_2 l Z aZ hw [] a0 h0 n0 Z0 ) hZ (wd_40 hw) (wd_39 hw) (by decide) (by decide)) (by rw [hml]; rfl) [] (lenOf pd_1 rfl) rfl (Nat.le_of_eq rfl) (d9_1 hby) (fun _ _ => ⟨rfl, e0, (by decide : 0 + 0 ≤ _), (by decide : 0 + 0 ≤ _)⟩) (pc' := 4) rfl ?_
 rintro _ _ ⟨T20, L20, k20, n20⟩ X20 ⟨Lc20, hQ20, l20, y20, z20⟩
 dsimp only [Pt.U, Pt.locs, Pt.cells, Pt.slots] at X20 l20 y20 z20 hQ20 ⊢
 subst l20 y20 z20
 obtain ⟨rfl, N20q, e20⟩ := hQ20
 have N21 := Fr.app N0 N20q
 show Runs _ _ _ _ (T20.setTop (mkF m 4 #[.val (.ref a0), .val (.ref a1), .val (.int p2)] []))
 refine w_aloadN X20 hx (d9_4 hby) rfl rfl (pc' := 5) rfl ?_
 refine w_aloadN X20 hx (d9_5 hby) rfl rfl (pc' := 6) rfl ?_
 refine w_putF X20 hx "" hZ hown (Or.inl (wd_67 hw)) Via.refl e20 zz0 E_a0 (Or.inr ⟨(wd_68 hw), rfl, hnm⟩) (wd_61 hw) (ty := (.object kc0)) (by decide) rfl rfl (d9_6 hby) (pc' := 9) rfl ?_
 intro T22 h22 X22 e22 W22
 have f23 : Fld Z h22 a0 kc4 "fighter" "Lcom/example/roundkeeper/roundkeeper/ruleset/ranked/Fighter;" (.ref a1) := zz0.same W22
 have K24 : Keep h0 h22 [a0] := (Keep.refl h0 [a0]).wr W22 (Or.inl (by simp))
 have N25 := Fr.snoc X22 N21 zz1
 refine w_aloadN X22 hx (d9_9 hby) rfl rfl (pc' := 10) rfl ?_
 refine w_iloadN X22 hx (d9_10 hby) rfl (pc' := 11) rfl ?_
 have f26 : Exa Z h22 a0 kc4 := (E_a0.wr W22)
 have f27 : Fld Z h22 a0 kc4 "rank" "I" (.int (0 : Int32)) := (zz2.other W22 (Or.inr (slot_ne (Or.inr (wd_70 hw)) (Or.inr (wd_68 hw)) (by decide) (t := .int) (t' := (.object kc0)) (by decide) (by decide))))
 refine w_putF X22 hx "" hZ hown (Or.inl (wd_69 hw)) Via.refl e22 f27 f26 (Or.inr ⟨(wd_70 hw), rfl, hnm⟩) (wd_61 hw) (ty := .int) (by decide) rfl rfl (d9_11 hby) (pc' := 14) rfl ?_
 intro T28 h28 X28 e28 W28
 have f29 : Fld Z h28 a0 kc4 "rank" "I" (.int p2) := f27.same W28
 have K30 : Keep h0 h28 [a0] := K24.wr W28 (Or.inl (by simp))
 have N31 := Fr.snoc X28 N25 zz1
 have f32 : Exa Z h28 a0 kc4 := (f26.wr W28)
 have f33 : Fld Z h28 a0 kc4 "fighter" "Lcom/example/roundkeeper/roundkeeper/ruleset/ranked/Fighter;" (.ref a1) := (f23.other W28 (Or.inr (slot_ne (Or.inr (wd_68 hw)) (Or.inr (wd_70 hw)) (by decide) (t := (.object kc0)) (t' := .int) (by decide) (by decide))))
 exact w_done X28 hlk (v := none) e28 (fun _ => rfl) (fun fs hr => X28.returnOut hx hret (d9_14 hby) hr) (by decide) (by decide) (⟨rfl, N31, K30, f32, f33, f29⟩)
theorem ef_m11_5 (m : MethodId) (a0 : Addr)  : entryFrame m #[(.ref a0)] 1 = mkF m 0 #[.val (.ref a0)] [] := by first | (simp [entryFrame, mkF, argsToLocals, Value.category]; done) | rfl
def Q_m11_5 (Z : State) (a0 : Addr) (jj0 : Addr) (h0 : Heap) (n0 : Nat) (v : Option Value) (h : Heap) (L : List Loc) : Prop := v = some (.ref jj0) ∧ Fr n0 L ∧ h = h0
theorem rm_m11_5 (l : Launch) (Z : State) (aZ : Array Value) (hw : ∀ d ∈ tables_1, d.before aZ Z = true) (ws : List Jvm.Cond) (a0 : Addr) (jj0 : Addr) (h0 : Heap) (n0 : Nat) (Z0 : n0 ≤ h0.size) (zz1 : Fld Z h0 a0 kc0 "name" "Ljava/lang/String;" (.ref jj0)) :
    MetN l Z yn_11 prog_13_method_6_code 1 (some (.object kc1)) ws ({ frames := 0, cells := 0, slots := 0, locals := 0 } : Room) #[(.ref a0)] h0 (Q_m11_5 Z a0 jj0 h0 n0) := by
 refine MetN.of (plainFor_of_name pn_1) ?_
 intro p e s m below meth c s₁ hret hx hby hml hown hnm hlk hZ X0 e0
 have N0 := Fr.nil n0
 rw [ef_m11_5 m a0]
 refine w_aloadN X0 hx (d11_0 hby) rfl rfl (pc' := 1) rfl ?_
 refine w_getF X0 hx "" hZ hown (Or.inl (wd_42 hw)) Via.refl e0 zz1 (d11_1 hby) (pc' := 4) rfl ?_
 intro T20 X20 e20
 exact w_done X20 hlk (v := some (.ref jj0)) e20 (fun h => by rw [hret] at h; cases h) (fun fs hr => retOut X20 hx hret rfl (Or.inr (Or.inr (Or.inr (Or.inr ⟨rfl, rfl, rfl⟩)))) (d11_4 hby) hr) (by decide) (by decide) (⟨rfl, N0, rfl⟩)
theorem ef_m12_6 (m : MethodId) (a0 : Addr)  : entryFrame m #[(.ref a0)] 1 = mkF m 0 #[.val (.ref a0)] [] := by first | (simp [entryFrame, mkF, argsToLocals, Value.category]; done) | rfl
def Q_m12_6 (Z : State) (a0 : Addr) (jj0 : Addr) (h0 : Heap) (n0 : Nat) (v : Option Value) (h : Heap) (L : List Loc) : Prop := v = some (.ref jj0) ∧ Fr n0 L ∧ h = h0
theorem rm_m12_6 (l : Launch) (Z : State) (aZ : Array Value) (hw : ∀ d ∈ tables_1, d.before aZ Z = true) (ws : List Jvm.Cond) (a0 : Addr) (jj0 : Addr) (h0 : Heap) (n0 : Nat) (Z0 : n0 ≤ h0.size) (zz1 : Fld Z h0 a0 kc0 "side" "Ljava/lang/String;" (.ref jj0)) :
    MetN l Z yn_12 prog_13_method_7_code 1 (some (.object kc1)) ws ({ frames := 0, cells := 0, slots := 0, locals := 0 } : Room) #[(.ref a0)] h0 (Q_m12_6 Z a0 jj0 h0 n0) := by
 refine MetN.of (plainFor_of_name pn_1) ?_
 intro p e s m below meth c s₁ hret hx hby hml hown hnm hlk hZ X0 e0
 have N0 := Fr.nil n0
 rw [ef_m12_6 m a0]
 refine w_aloadN X0 hx (d12_0 hby) rfl rfl (pc' := 1) rfl ?_
 refine w_getF X0 hx "" hZ hown (Or.inl (wd_44 hw)) Via.refl e0 zz1 (d12_1 hby) (pc' := 4) rfl ?_
 intro T20 X20 e20
 exact w_done X20 hlk (v := some (.ref jj0)) e20 (fun h => by rw [hret] at h; cases h) (fun fs hr => retOut X20 hx hret rfl (Or.inr (Or.inr (Or.inr (Or.inr ⟨rfl, rfl, rfl⟩)))) (d12_4 hby) hr) (by decide) (by decide) (⟨rfl, N0, rfl⟩)
theorem ef_m13_7 (m : MethodId) (a0 : Addr) (a1 : Addr) (a2 : Addr) (p3 : Int32) (p4 : Int32)  : entryFrame m #[(.ref a0), (.ref a1), (.ref a2), (.int p3), (.int p4)] 5 = mkF m 0 #[.val (.ref a0), .val (.ref a1), .val (.ref a2), .val (.int p3), .val (.int p4)] [] := by first | (simp [entryFrame, mkF, argsToLocals, Value.category]; done) | rfl
def Q_m13_7 (Z : State) (a0 : Addr) (a1 : Addr) (a2 : Addr) (p3 : Int32) (p4 : Int32) (h0 : Heap) (n0 : Nat) (v : Option Value) (h : Heap) (L : List Loc) : Prop := v = none ∧ Fr n0 L ∧ Keep h0 h [a0] ∧ Exa Z h a0 kc2 ∧ Fld Z h a0 kc2 "name" "Ljava/lang/String;" (.ref a1) ∧ Fld Z h a0 kc2 "side" "Ljava/lang/String;" (.ref a2) ∧ Fld Z h a0 kc2 "initiative" "I" (.int p3) ∧ Fld Z h a0 kc2 "simultaneous" "Z" (.int p4)
theorem rm_m13_7 (l : Launch) (Z : State) (aZ : Array Value) (hw : ∀ d ∈ tables_1, d.before aZ Z = true) (ws : List Jvm.Cond) (a0 : Addr) (a1 : Addr) (a2 : Addr) (p3 : Int32) (p4 : Int32) (h0 : Heap) (n0 : Nat) (Z0 : n0 ≤ h0.size) (E_a0 : Exa Z h0 a0 kc2) (zz0 : Fld Z h0 a0 kc2 "name" "Ljava/lang/String;" .null) (zz1 : n0 ≤ a0) (zz2 : Fld Z h0 a0 kc2 "side" "Ljava/lang/String;" .null) (zz3 : Fld Z h0 a0 kc2 "initiative" "I" (.int (0 : Int32))) (zz4 : Fld Z h0 a0 kc2 "simultaneous" "Z" (.int (0 : Int32))) (zz5 : nar .boolean p4 = p4) :
    MetN l Z yn_13 prog_3_method_2_code 5 none ws ({ frames := 2, cells := 0, slots := 0, locals := 24 } : Room) #[(.ref a0), (.ref a1), (.ref a2), (.int p3), (.int p4)] h0 (Q_m13_7 Z a0 a1 a2 p3 p4 h0 n0) := by
 refine MetN.of (plainFor_of_name pn_3) ?_
 intro p e s m below meth c s₁ hret hx hby hml hown hnm hlk hZ X0 e0
 have N0 := Fr.nil n0
 rw [ef_m13_7 m a0 a1 a2 p3 p4]
 refine w_aloadN X0 hx (d13_0 hby) rfl rfl (pc' := 1) rfl ?_
 refine w_special X0 hx (y := yn_8) rfl hown (mvT hZ (wd_92 hw)) (mvT hZ (wd_37 hw)) (mvT hZ (wd_40 hw)) (by decide) (backOf (W := 0) (rm_m8_2 l Z aZ hw [] a0 h0 n0 Z0 ) hZ (wd_40 hw) (wd_39 hw) (by decide) (by decide)) (by rw [hml]; rfl) [] (lenOf pd_1 rfl) rfl (Nat.le_of_eq rfl) (d13_1 hby) (fun _ _ => ⟨rfl, e0, (by decide : 0 + 0 ≤ _), (by decide : 0 + 0 ≤ _)⟩) (pc' := 4) rfl ?_
 rintro _ _ ⟨T20, L20, k20, n20⟩ X20 ⟨Lc20, hQ20, l20, y20, z20⟩
 dsimp only [Pt.U, Pt.locs, Pt.cells, Pt.slots] at X20 l20 y20 z20 hQ20 ⊢
 subst l20 y20 z20
 obtain ⟨rfl, N20q, e20⟩ := hQ20
 have N21 := Fr.app N0 N20q
 show Runs _ _ _ _ (T20.setTop (mkF m 4 #[.val (.ref a0), .val (.ref a1), .val (.ref a2), .val (.int p3), .val (.int p4)] []))
 refine w_aloadN X20 hx (d13_4 hby) rfl rfl (pc' := 5) rfl ?_
 refine w_aloadN X20 hx (d13_5 hby) rfl rfl (pc' := 6) rfl ?_
 refine w_putF X20 hx "" hZ hown (Or.inl (wd_93 hw)) Via.refl e20 zz0 E_a0 (Or.inr ⟨(wd_94 hw), rfl, hnm⟩) (wd_77 hw) (ty := (.object kc1)) (by decide) rfl rfl (d13_6 hby) (pc' := 9) rfl ?_
 intro T22 h22 X22 e22 W22
 have f23 : Fld Z h22 a0 kc2 "name" "Ljava/lang/String;" (.ref a1) := zz0.same W22
 have K24 : Keep h0 h22 [a0] := (Keep.refl h0 [a0]).wr W22 (Or.inl (by simp))
 have N25 := Fr.snoc X22 N21 zz1
 refine w_aloadN X22 hx (d13_9 hby) rfl rfl (pc' := 10) rfl ?_
 refine w_aloadN X22 hx (d13_10 hby) rfl rfl (pc' := 11) rfl ?_
 have f26 : Exa Z h22 a0 kc2 := (E_a0.wr W22)
 have f27 : Fld Z h22 a0 kc2 "side" "Ljava/lang/String;" .null := (zz2.other W22 (Or.inr (slot_ne (Or.inr (wd_96 hw)) (Or.inr (wd_94 hw)) (by decide) (t := (.object kc1)) (t' := (.object kc1)) (by decide) (by decide))))
 refine w_putF X22 hx "" hZ hown (Or.inl (wd_95 hw)) Via.refl e22 f27 f26 (Or.inr ⟨(wd_96 hw), rfl, hnm⟩) (wd_77 hw) (ty := (.object kc1)) (by decide) rfl rfl (d13_11 hby) (pc' := 14) rfl ?_
 intro T28 h28 X28 e28 W28
 have f29 : Fld Z h28 a0 kc2 "side" "Ljava/lang/String;" (.ref a2) := f27.same W28
 have K30 : Keep h0 h28 [a0] := K24.wr W28 (Or.inl (by simp))
 have N31 := Fr.snoc X28 N25 zz1
 refine w_aloadN X28 hx (d13_14 hby) rfl rfl (pc' := 15) rfl ?_
 refine w_iloadN X28 hx (d13_15 hby) rfl (pc' := 16) rfl ?_
 have f32 : Exa Z h28 a0 kc2 := (f26.wr W28)
 have f33 : Fld Z h28 a0 kc2 "initiative" "I" (.int (0 : Int32)) := ((zz3.other W22 (Or.inr (slot_ne (Or.inr (wd_98 hw)) (Or.inr (wd_94 hw)) (by decide) (t := .int) (t' := (.object kc1)) (by decide) (by decide)))).other W28 (Or.inr (slot_ne (Or.inr (wd_98 hw)) (Or.inr (wd_96 hw)) (by decide) (t := .int) (t' := (.object kc1)) (by decide) (by decide))))
 refine w_putF X28 hx "" hZ hown (Or.inl (wd_97 hw)) Via.refl e28 f33 f32 (Or.inr ⟨(wd_98 hw), rfl, hnm⟩) (wd_77 hw) (ty := .int) (by decide) rfl rfl (d13_16 hby) (pc' := 19) rfl ?_
 intro T34 h34 X34 e34 W34
 have f35 : Fld Z h34 a0 kc2 "initiative" "I" (.int p3) := f33.same W34
 have K36 : Keep h0 h34 [a0] := K30.wr W34 (Or.inl (by simp))
 have N37 := Fr.snoc X34 N31 zz1
 refine w_aloadN X34 hx (d13_19 hby) rfl rfl (pc' := 20) rfl ?_
 refine w_iload X34 hx (d13_20 hby) rfl (pc' := 22) rfl ?_
 have f38 : Exa Z h34 a0 kc2 := (f32.wr W34)
 have f39 : Fld Z h34 a0 kc2 "simultaneous" "Z" (.int (0 : Int32)) := (((zz4.other W22 (Or.inr (slot_ne (Or.inr (wd_100 hw)) (Or.inr (wd_94 hw)) (by decide) (t := .boolean) (t' := (.object kc1)) (by decide) (by decide)))).other W28 (Or.inr (slot_ne (Or.inr (wd_100 hw)) (Or.inr (wd_96 hw)) (by decide) (t := .boolean) (t' := (.object kc1)) (by decide) (by decide)))).other W34 (Or.inr (slot_ne (Or.inr (wd_100 hw)) (Or.inr (wd_98 hw)) (by decide) (t := .boolean) (t' := .int) (by decide) (by decide))))
 refine w_putFN X34 hx hZ hown (wd_99 hw) Via.refl e34 f39 f38 (Or.inr ⟨(wd_100 hw), rfl, hnm⟩) (wd_77 hw) (ty := .boolean) (by decide) (v' := (.int (nar .boolean p4))) rfl (fits_nar_bool _) (d13_22 hby) (pc' := 25) rfl ?_
 intro T40 h40 X40 e40 W40
 have f41 : Fld Z h40 a0 kc2 "simultaneous" "Z" (.int (nar .boolean p4)) := f39.same W40
 have f42 : Fld Z h40 a0 kc2 "simultaneous" "Z" (.int p4) := by rw [zz5] at f41; exact f41
 have K43 : Keep h0 h40 [a0] := K36.wr W40 (Or.inl (by simp))
 have N44 := Fr.snoc X40 N37 zz1
 have f45 : Exa Z h40 a0 kc2 := (f38.wr W40)
 have f46 : Fld Z h40 a0 kc2 "name" "Ljava/lang/String;" (.ref a1) := (((f23.other W28 (Or.inr (slot_ne (Or.inr (wd_94 hw)) (Or.inr (wd_96 hw)) (by decide) (t := (.object kc1)) (t' := (.object kc1)) (by decide) (by decide)))).other W34 (Or.inr (slot_ne (Or.inr (wd_94 hw)) (Or.inr (wd_98 hw)) (by decide) (t := (.object kc1)) (t' := .int) (by decide) (by decide)))).other W40 (Or.inr (slot_ne (Or.inr (wd_94 hw)) (Or.inr (wd_100 hw)) (by decide) (t := (.object kc1)) (t' := .boolean) (by decide) (by decide))))
 have f47 : Fld Z h40 a0 kc2 "side" "Ljava/lang/String;" (.ref a2) := ((f29.other W34 (Or.inr (slot_ne (Or.inr (wd_96 hw)) (Or.inr (wd_98 hw)) (by decide) (t := (.object kc1)) (t' := .int) (by decide) (by decide)))).other W40 (Or.inr (slot_ne (Or.inr (wd_96 hw)) (Or.inr (wd_100 hw)) (by decide) (t := (.object kc1)) (t' := .boolean) (by decide) (by decide))))
 have f48 : Fld Z h40 a0 kc2 "initiative" "I" (.int p3) := (f35.other W40 (Or.inr (slot_ne (Or.inr (wd_98 hw)) (Or.inr (wd_100 hw)) (by decide) (t := .int) (t' := .boolean) (by decide) (by decide))))
 exact w_done X40 hlk (v := none) e40 (fun _ => rfl) (fun fs hr => X40.returnOut hx hret (d13_25 hby) hr) (by decide) (by decide) (⟨rfl, N44, K43, f45, f46, f47, f48, f42⟩)
theorem ef_m10_4 (m : MethodId) (a0 : Addr) (p1 : Int32)  : entryFrame m #[(.ref a0), (.int p1)] 2 = mkF m 0 #[.val (.ref a0), .val (.int p1)] [] := by first | (simp [entryFrame, mkF, argsToLocals, Value.category]; done) | rfl
def Q_m10_4 (Z : State) (a0 : Addr) (p1 : Int32) (jj0 : Addr) (jj1 : Addr) (jj2 : Addr) (jj3 : Int32) (h0 : Heap) (n0 : Nat) (v : Option Value) (h : Heap) (L : List Loc) : Prop := ∃ (r0 : Addr), v = some (.ref r0) ∧ Fr n0 L ∧ Keep h0 h [] ∧ h0.size ≤ r0 ∧ Exa Z h r0 kc2 ∧ Fld Z h r0 kc2 "name" "Ljava/lang/String;" (.ref jj1) ∧ Fld Z h r0 kc2 "side" "Ljava/lang/String;" (.ref jj2) ∧ Fld Z h r0 kc2 "initiative" "I" (.int jj3) ∧ Fld Z h r0 kc2 "simultaneous" "Z" (.int p1)
theorem rm_m10_4 (l : Launch) (Z : State) (aZ : Array Value) (hw : ∀ d ∈ tables_1, d.before aZ Z = true) (ws : List Jvm.Cond) (a0 : Addr) (p1 : Int32) (jj0 : Addr) (jj1 : Addr) (jj2 : Addr) (jj3 : Int32) (h0 : Heap) (n0 : Nat) (Z0 : n0 ≤ h0.size) (zz4 : Fld Z h0 a0 kc4 "fighter" "Lcom/example/roundkeeper/roundkeeper/ruleset/ranked/Fighter;" (.ref jj0)) (zz5 : Exa Z h0 jj0 kc0) (zz6 : Fld Z h0 jj0 kc0 "name" "Ljava/lang/String;" (.ref jj1)) (zz7 : Fld Z h0 jj0 kc0 "side" "Ljava/lang/String;" (.ref jj2)) (zz8 : Fld Z h0 a0 kc4 "rank" "I" (.int jj3)) (zz9 : nar .boolean p1 = p1) :
    MetN l Z yn_10 prog_16_method_2_code 2 (some (.object kc2)) ws ({ frames := 3, cells := 1, slots := 4, locals := 41 } : Room) #[(.ref a0), (.int p1)] h0 (Q_m10_4 Z a0 p1 jj0 jj1 jj2 jj3 h0 n0) := by
 refine MetN.of (plainFor_of_name pn_2) ?_
 intro p e s m below meth c s₁ hret hx hby hml hown hnm hlk hZ X0 e0
 have N0 := Fr.nil n0
 rw [ef_m10_4 m a0 p1]
 refine w_new X0 hx hZ hown (wd_76 hw) (wd_77 hw) (wd_78 hw) e0 (d10_0 hby) (by decide) (by decide) (pc' := 3) rfl ?_
 intro T20 h20 b20 X20 e20 E20 g20 A20 D20
 have ge21 : n0 ≤ b20 := Nat.le_trans Z0 (Nat.le_of_eq g20.symm)
 have sz22 : h0.size ≤ b20 := Nat.le_trans (Nat.le_refl _) (Nat.le_of_eq g20.symm)
 have K23 : Keep h0 h20 [] := (Keep.refl h0 []).ext E20
 have f24 : Fld Z h20 b20 kc2 "name" "Ljava/lang/String;" .null := D20 (Or.inr (wd_94 hw)) (ty := (.object kc1)) (by decide)
 have f25 : Fld Z h20 b20 kc2 "side" "Ljava/lang/String;" .null := D20 (Or.inr (wd_96 hw)) (ty := (.object kc1)) (by decide)
 have f26 : Fld Z h20 b20 kc2 "initiative" "I" (.int (0 : Int32)) := D20 (Or.inr (wd_98 hw)) (ty := .int) (by decide)
 have f27 : Fld Z h20 b20 kc2 "simultaneous" "Z" (.int (0 : Int32)) := D20 (Or.inr (wd_100 hw)) (ty := .boolean) (by decide)
 refine w_dup X20 hx (d10_3 hby) rfl (pc' := 4) rfl ?_
 refine w_aloadN X20 hx (d10_4 hby) rfl rfl (pc' := 5) rfl ?_
 have f28 : Fld Z h20 a0 kc4 "fighter" "Lcom/example/roundkeeper/roundkeeper/ruleset/ranked/Fighter;" (.ref jj0) := (zz4.ext E20)
 refine w_getF X20 hx "" hZ hown (Or.inl (wd_67 hw)) Via.refl e20 f28 (d10_5 hby) (pc' := 8) rfl ?_
 intro T29 X29 e29
 have f30 : Fld Z h20 jj0 kc0 "name" "Ljava/lang/String;" (.ref jj1) := (zz6.ext E20)
 have f32 : Exa Z h20 jj0 kc0 := (zz5.ext E20)
 obtain ⟨cq31, kq31, q31a, q31b, q31c⟩ := isOf hZ e29 f32
 refine w_virtual X29 hx (y := yn_11) (z := yn_11) hown (mvT hZ (wd_79 hw)) (mvT hZ (wd_80 hw)) (notFace_of_selects (args := #[]) (mvT hZ (wd_82 hw))) (mvT hZ (wd_82 hw)) (mvT hZ (wd_81 hw)) (by decide) (backOf (W := 2) (rm_m11_5 l Z aZ hw [] jj0 jj1 h20 n0 (Nat.le_trans Z0 E20.1) f30) hZ (wd_83 hw) (wd_32 hw) (by decide) (by decide)) q31a q31c (by rw [hml]; rfl) [] (lenOf pd_4 rfl) rfl (Nat.le_of_eq rfl) (d10_8 hby) (fun _ _ => ⟨rfl, e29, (by decide : 1 + 0 ≤ _), (by decide : 4 + 0 ≤ _)⟩) (pc' := 11) rfl ?_
 rintro _ _ ⟨T31, L31, k31, n31⟩ X31 ⟨Lc31, hQ31, l31, y31, z31⟩
 dsimp only [Pt.U, Pt.locs, Pt.cells, Pt.slots] at X31 l31 y31 z31 hQ31 ⊢
 subst l31 y31 z31
 obtain ⟨rfl, N31q, e31⟩ := hQ31
 have N33 := Fr.app N0 N31q
 show Runs _ _ _ _ (T31.setTop (mkF m 11 #[.val (.ref a0), .val (.int p1)] [(.ref jj1), (.ref b20), (.ref b20)]))
 refine w_aloadN X31 hx (d10_11 hby) rfl rfl (pc' := 12) rfl ?_
 refine w_getF X31 hx "" hZ hown (Or.inl (wd_67 hw)) Via.refl e31 f28 (d10_12 hby) (pc' := 15) rfl ?_
 intro T34 X34 e34
 have f35 : Fld Z h20 jj0 kc0 "side" "Ljava/lang/String;" (.ref jj2) := (zz7.ext E20)
 obtain ⟨cq36, kq36, q36a, q36b, q36c⟩ := isOf hZ e34 f32
 refine w_virtual X34 hx (y := yn_12) (z := yn_12) hown (mvT hZ (wd_84 hw)) (mvT hZ (wd_85 hw)) (notFace_of_selects (args := #[]) (mvT hZ (wd_87 hw))) (mvT hZ (wd_87 hw)) (mvT hZ (wd_86 hw)) (by decide) (backOf (W := 3) (rm_m12_6 l Z aZ hw [] jj0 jj2 h20 n0 (Nat.le_trans Z0 E20.1) f35) hZ (wd_88 hw) (wd_32 hw) (by decide) (by decide)) q36a q36c (by rw [hml]; rfl) [] (lenOf pd_4 rfl) rfl (Nat.le_of_eq rfl) (d10_15 hby) (fun _ _ => ⟨rfl, e34, (by decide : 1 + 0 ≤ _), (by decide : 4 + 0 ≤ _)⟩) (pc' := 18) rfl ?_
 rintro _ _ ⟨T36, L36, k36, n36⟩ X36 ⟨Lc36, hQ36, l36, y36, z36⟩
 dsimp only [Pt.U, Pt.locs, Pt.cells, Pt.slots] at X36 l36 y36 z36 hQ36 ⊢
 subst l36 y36 z36
 obtain ⟨rfl, N36q, e36⟩ := hQ36
 have N37 := Fr.app N33 N36q
 show Runs _ _ _ _ (T36.setTop (mkF m 18 #[.val (.ref a0), .val (.int p1)] [(.ref jj2), (.ref jj1), (.ref b20), (.ref b20)]))
 refine w_aloadN X36 hx (d10_18 hby) rfl rfl (pc' := 19) rfl ?_
 have f38 : Fld Z h20 a0 kc4 "rank" "I" (.int jj3) := (zz8.ext E20)
 refine w_getF X36 hx "" hZ hown (Or.inl (wd_69 hw)) Via.refl e36 f38 (d10_19 hby) (pc' := 22) rfl ?_
 intro T39 X39 e39
 refine w_iloadN X39 hx (d10_22 hby) rfl (pc' := 23) rfl ?_
 refine w_special X39 hx (y := yn_13) rfl hown (mvT hZ (wd_89 hw)) (mvT hZ (wd_90 hw)) (mvT hZ (wd_91 hw)) (by decide) (backOf (W := 1) (rm_m13_7 l Z aZ hw [] b20 jj1 jj2 jj3 p1 h20 n0 (Nat.le_trans Z0 E20.1) A20 f24 ge21 f25 f26 f27 zz9) hZ (wd_91 hw) (wd_78 hw) (by decide) (by decide)) (by rw [hml]; rfl) [(.ref jj1), (.ref jj2), (.int jj3), (.int p1)] (lenOf pd_5 rfl) rfl (Nat.le_of_eq rfl) (d10_23 hby) (fun _ _ => ⟨rfl, e39, (by decide : 1 + 0 ≤ _), (by decide : 4 + 0 ≤ _)⟩) (pc' := 26) rfl ?_
 rintro _ _ ⟨T40, L40, k40, n40⟩ X40 ⟨Lc40, hQ40, l40, y40, z40⟩
 dsimp only [Pt.U, Pt.locs, Pt.cells, Pt.slots] at X40 l40 y40 z40 hQ40 ⊢
 subst l40 y40 z40
 obtain ⟨rfl, N40q, K40, g40_0, g40_1, g40_2, g40_3, g40_4⟩ := hQ40
 have N41 := Fr.app N37 N40q
 have K42 : Keep h0 T40.heap [] := K23.trans K40 (allS (Or.inr sz22) (all0 (P := fun x => x ∈ [] ∨ h0.size ≤ x)))
 show Runs _ _ _ _ (T40.setTop (mkF m 26 #[.val (.ref a0), .val (.int p1)] [(.ref b20)]))
 exact w_done X40 hlk (v := some (.ref b20)) rfl (fun h => by rw [hret] at h; cases h) (fun fs hr => retOut X40 hx hret rfl (Or.inr (Or.inr (Or.inr (Or.inr ⟨rfl, rfl, rfl⟩)))) (d10_26 hby) hr) (by decide) (by decide) (⟨b20, rfl, N41, K42, sz22, g40_0, g40_1, g40_2, g40_3, g40_4⟩)
theorem ef_m14_8 (m : MethodId) (a0 : Addr)  : entryFrame m #[(.ref a0)] 1 = mkF m 0 #[.val (.ref a0)] [] := by first | (simp [entryFrame, mkF, argsToLocals, Value.category]; done) | rfl
def Q_m14_8 (Z : State) (a0 : Addr) (jj0 : Addr) (h0 : Heap) (n0 : Nat) (v : Option Value) (h : Heap) (L : List Loc) : Prop := v = some (.ref jj0) ∧ Fr n0 L ∧ h = h0
theorem rm_m14_8 (l : Launch) (Z : State) (aZ : Array Value) (hw : ∀ d ∈ tables_1, d.before aZ Z = true) (ws : List Jvm.Cond) (a0 : Addr) (jj0 : Addr) (h0 : Heap) (n0 : Nat) (Z0 : n0 ≤ h0.size) (zz1 : Fld Z h0 a0 kc2 "name" "Ljava/lang/String;" (.ref jj0)) :
    MetN l Z yn_14 prog_3_method_6_code 1 (some (.object kc1)) ws ({ frames := 0, cells := 0, slots := 0, locals := 0 } : Room) #[(.ref a0)] h0 (Q_m14_8 Z a0 jj0 h0 n0) := by
 refine MetN.of (plainFor_of_name pn_3) ?_
 intro p e s m below meth c s₁ hret hx hby hml hown hnm hlk hZ X0 e0
 have N0 := Fr.nil n0
 rw [ef_m14_8 m a0]
 refine w_aloadN X0 hx (d14_0 hby) rfl rfl (pc' := 1) rfl ?_
 refine w_getF X0 hx "" hZ hown (Or.inl (wd_93 hw)) Via.refl e0 zz1 (d14_1 hby) (pc' := 4) rfl ?_
 intro T20 X20 e20
 exact w_done X20 hlk (v := some (.ref jj0)) e20 (fun h => by rw [hret] at h; cases h) (fun fs hr => retOut X20 hx hret rfl (Or.inr (Or.inr (Or.inr (Or.inr ⟨rfl, rfl, rfl⟩)))) (d14_4 hby) hr) (by decide) (by decide) (⟨rfl, N0, rfl⟩)
theorem ef_m15_9 (m : MethodId) (a0 : Addr)  : entryFrame m #[(.ref a0), (.ref a0)] 3 = mkF m 0 #[.val (.ref a0), .val (.ref a0), .unset] [] := by first | (simp [entryFrame, mkF, argsToLocals, Value.category]; done) | rfl
def Q_m15_9 (Z : State) (a0 : Addr) (h0 : Heap) (n0 : Nat) (v : Option Value) (h : Heap) (L : List Loc) : Prop := v = some (.int (1 : Int32)) ∧ Fr n0 L ∧ h = h0
theorem rm_m15_9 (l : Launch) (Z : State) (aZ : Array Value) (hw : ∀ d ∈ tables_1, d.before aZ Z = true) (ws : List Jvm.Cond) (a0 : Addr) (h0 : Heap) (n0 : Nat) (Z0 : n0 ≤ h0.size) :
    MetN l Z yn_15 jdk_42_method_66_code 3 (some .boolean) ws ({ frames := 0, cells := 0, slots := 0, locals := 0 } : Room) #[(.ref a0), (.ref a0)] h0 (Q_m15_9 Z a0 h0 n0) := by
 refine MetN.of (plainFor_of_name pn_4) ?_
 intro p e s m below meth c s₁ hret hx hby hml hown hnm hlk hZ X0 e0
 have N0 := Fr.nil n0
 rw [ef_m15_9 m a0]
 refine w_aloadN X0 hx (d15_0 hby) rfl rfl (pc' := 1) rfl ?_
 refine w_aloadN X0 hx (d15_1 hby) rfl rfl (pc' := 2) rfl ?_
 refine w_acmp X0 hx (d15_2 hby) (same := true) rfl rfl (decide_eq_true rfl) (pc' := 5) (by decide) (by decide) ?_
 refine w_iconst X0 hx (d15_5 hby) (v := (1 : Int32)) rfl (pc' := 6) rfl ?_
 exact w_done X0 hlk (v := some (.int (1 : Int32))) e0 (fun h => by rw [hret] at h; cases h) (fun fs hr => retN X0 hx (t := .boolean) hret (by simp) (d15_6 hby) hr) (by decide) (by decide) (⟨rfl, N0, rfl⟩)
theorem ef_m16_10 (m : MethodId) (a0 : Addr)  : entryFrame m #[(.ref a0)] 1 = mkF m 0 #[.val (.ref a0)] [] := by first | (simp [entryFrame, mkF, argsToLocals, Value.category]; done) | rfl
def Q_m16_10 (Z : State) (a0 : Addr) (jj0 : Addr) (h0 : Heap) (n0 : Nat) (v : Option Value) (h : Heap) (L : List Loc) : Prop := v = some (.ref jj0) ∧ Fr n0 L ∧ h = h0
theorem rm_m16_10 (l : Launch) (Z : State) (aZ : Array Value) (hw : ∀ d ∈ tables_1, d.before aZ Z = true) (ws : List Jvm.Cond) (a0 : Addr) (jj0 : Addr) (h0 : Heap) (n0 : Nat) (Z0 : n0 ≤ h0.size) (zz1 : Fld Z h0 a0 kc2 "side" "Ljava/lang/String;" (.ref jj0)) :
    MetN l Z yn_16 prog_3_method_7_code 1 (some (.object kc1)) ws ({ frames := 0, cells := 0, slots := 0, locals := 0 } : Room) #[(.ref a0)] h0 (Q_m16_10 Z a0 jj0 h0 n0) := by
 refine MetN.of (plainFor_of_name pn_3) ?_
 intro p e s m below meth c s₁ hret hx hby hml hown hnm hlk hZ X0 e0
 have N0 := Fr.nil n0
 rw [ef_m16_10 m a0]
 refine w_aloadN X0 hx (d16_0 hby) rfl rfl (pc' := 1) rfl ?_
 refine w_getF X0 hx "" hZ hown (Or.inl (wd_95 hw)) Via.refl e0 zz1 (d16_1 hby) (pc' := 4) rfl ?_
 intro T20 X20 e20
 exact w_done X20 hlk (v := some (.ref jj0)) e20 (fun h => by rw [hret] at h; cases h) (fun fs hr => retOut X20 hx hret rfl (Or.inr (Or.inr (Or.inr (Or.inr ⟨rfl, rfl, rfl⟩)))) (d16_4 hby) hr) (by decide) (by decide) (⟨rfl, N0, rfl⟩)
theorem ef_m17_11 (m : MethodId) (a0 : Addr)  : entryFrame m #[(.ref a0)] 1 = mkF m 0 #[.val (.ref a0)] [] := by first | (simp [entryFrame, mkF, argsToLocals, Value.category]; done) | rfl
def Q_m17_11 (Z : State) (a0 : Addr) (jj0 : Int32) (h0 : Heap) (n0 : Nat) (v : Option Value) (h : Heap) (L : List Loc) : Prop := v = some (.int jj0) ∧ Fr n0 L ∧ h = h0
theorem rm_m17_11 (l : Launch) (Z : State) (aZ : Array Value) (hw : ∀ d ∈ tables_1, d.before aZ Z = true) (ws : List Jvm.Cond) (a0 : Addr) (jj0 : Int32) (h0 : Heap) (n0 : Nat) (Z0 : n0 ≤ h0.size) (zz1 : Fld Z h0 a0 kc2 "initiative" "I" (.int jj0)) :
    MetN l Z yn_17 prog_3_method_8_code 1 (some .int) ws ({ frames := 0, cells := 0, slots := 0, locals := 0 } : Room) #[(.ref a0)] h0 (Q_m17_11 Z a0 jj0 h0 n0) := by
 refine MetN.of (plainFor_of_name pn_3) ?_
 intro p e s m below meth c s₁ hret hx hby hml hown hnm hlk hZ X0 e0
 have N0 := Fr.nil n0
 rw [ef_m17_11 m a0]
 refine w_aloadN X0 hx (d17_0 hby) rfl rfl (pc' := 1) rfl ?_
 refine w_getF X0 hx "" hZ hown (Or.inl (wd_97 hw)) Via.refl e0 zz1 (d17_1 hby) (pc' := 4) rfl ?_
 intro T20 X20 e20
 exact w_done X20 hlk (v := some (.int jj0)) e20 (fun h => by rw [hret] at h; cases h) (fun fs hr => retI X20 hx hret (d17_4 hby) hr) (by decide) (by decide) (⟨rfl, N0, rfl⟩)
theorem ef_m18_12 (m : MethodId) (a0 : Addr)  : entryFrame m #[(.ref a0)] 1 = mkF m 0 #[.val (.ref a0)] [] := by first | (simp [entryFrame, mkF, argsToLocals, Value.category]; done) | rfl
def Q_m18_12 (Z : State) (a0 : Addr) (jj0 : Int32) (h0 : Heap) (n0 : Nat) (v : Option Value) (h : Heap) (L : List Loc) : Prop := v = some (.int jj0) ∧ Fr n0 L ∧ h = h0
theorem rm_m18_12 (l : Launch) (Z : State) (aZ : Array Value) (hw : ∀ d ∈ tables_1, d.before aZ Z = true) (ws : List Jvm.Cond) (a0 : Addr) (jj0 : Int32) (h0 : Heap) (n0 : Nat) (Z0 : n0 ≤ h0.size) (zz1 : Fld Z h0 a0 kc2 "simultaneous" "Z" (.int jj0)) (zz2 : nar .boolean jj0 = jj0) :
    MetN l Z yn_18 prog_3_method_9_code 1 (some .boolean) ws ({ frames := 0, cells := 0, slots := 0, locals := 0 } : Room) #[(.ref a0)] h0 (Q_m18_12 Z a0 jj0 h0 n0) := by
 refine MetN.of (plainFor_of_name pn_3) ?_
 intro p e s m below meth c s₁ hret hx hby hml hown hnm hlk hZ X0 e0
 have N0 := Fr.nil n0
 rw [ef_m18_12 m a0]
 refine w_aloadN X0 hx (d18_0 hby) rfl rfl (pc' := 1) rfl ?_
 refine w_getF X0 hx "" hZ hown (Or.inl (wd_99 hw)) Via.refl e0 zz1 (d18_1 hby) (pc' := 4) rfl ?_
 intro T20 X20 e20
 exact w_done X20 hlk (v := some (.int jj0)) e20 (fun h => by rw [hret] at h; cases h) (fun fs hr => retOut X20 hx hret (t := .boolean) (narrow_nar (t := .boolean) (by simp) zz2) (Or.inl ⟨rfl, by simp, _, rfl⟩) (d18_4 hby) hr) (by decide) (by decide) (⟨rfl, N0, rfl⟩)
theorem ef_law (m : MethodId) (p0 : Int32) (p1 : Int32) (p2 : Int32) (p3 : Int32) (p4 : Int32) (p5 : Int32)  : entryFrame m #[(.int p0), (.int p1), (.int p2), (.int p3), (.int p4), (.int p5)] maxLocals = mkF m 0 #[.val (.int p0), .val (.int p1), .val (.int p2), .val (.int p3), .val (.int p4), .val (.int p5), .unset, .unset, .unset, .unset, .unset, .unset, .unset, .unset] [] := by first | (simp [entryFrame, mkF, argsToLocals, Value.category, maxLocals]; done) | rfl
def Q_law (Z : State) (p0 : Int32) (p1 : Int32) (p2 : Int32) (p3 : Int32) (p4 : Int32) (p5 : Int32) (G_COMPACT_STRINGS : Int32) (h0 : Heap) (n0 : Nat) (v : Option Value) (h : Heap) (L : List Loc) : Prop := v = some (.int (1 : Int32)) ∧ Fr n0 L
theorem rm_law (l : Launch) (Z : State) (aZ : Array Value) (hw : ∀ d ∈ tables_1, d.before aZ Z = true) (ws : List Jvm.Cond) (p0 : Int32) (p1 : Int32) (p2 : Int32) (p3 : Int32) (p4 : Int32) (p5 : Int32) (G_COMPACT_STRINGS : Int32) (h0 : Heap) (n0 : Nat) (Z0 : n0 ≤ h0.size) (S_COMPACT_STRINGS : Sta Z Z.heap kc1 "COMPACT_STRINGS" "Z" (.int G_COMPACT_STRINGS)) (O0 : Old Z n0 h0) (hP_2 : ¬ (G_COMPACT_STRINGS = (0 : Int32))) :
    MetN l Z x code maxLocals ret ws room_1 #[(.int p0), (.int p1), (.int p2), (.int p3), (.int p4), (.int p5)] h0 (Q_law Z p0 p1 p2 p3 p4 p5 G_COMPACT_STRINGS h0 n0) := by
 refine MetN.of (plainFor_of_name pn_5) ?_
 intro p e s m below meth c s₁ hret hx hby hml hown hnm hlk hZ X0 e0
 have N0 := Fr.nil n0
 rw [ef_law m p0 p1 p2 p3 p4 p5]
 refine w_iconst X0 hx (hb hby at_0) (v := (2 : Int32)) rfl (pc' := 1) rfl ?_
 refine w_newP X0 hx .char .char 2 rfl hZ (wd_0 hw) e0 (hb hby at_1) (by decide) (by decide) (by decide) (by decide) (by decide) (pc' := 3) rfl ?_
 intro T20 h20 k20 b20 X20 e20 E20 g20 A20
 have ge21 : n0 ≤ b20 := Nat.le_trans Z0 (Nat.le_of_eq g20.symm)
 have sz22 : h0.size ≤ b20 := Nat.le_trans (Nat.le_refl _) (Nat.le_of_eq g20.symm)
 have K23 : Keep h0 h20 [] := (Keep.refl h0 []).ext E20
 have V24 : Arv Z h20 b20 k20 .char (2 : Int32) [(.int (0 : Int32)), (.int (0 : Int32))] (.int (0 : Int32)) := (Arv.new A20 (by decide)).pad (pad_rep [] (.int (0 : Int32)) 2)
 refine w_astore X20 hx (hb hby at_3) rfl (L' := #[.val (.int p0), .val (.int p1), .val (.int p2), .val (.int p3), .val (.int p4), .val (.int p5), .val (.ref b20), .unset, .unset, .unset, .unset, .unset, .unset, .unset]) rfl (pc' := 5) rfl ?_
 refine w_aload X20 hx (hb hby at_5) rfl rfl (pc' := 7) rfl ?_
 refine w_iconst X20 hx (hb hby at_7) (v := (0 : Int32)) rfl (pc' := 8) rfl ?_
 refine w_iloadN X20 hx (hb hby at_8) rfl (pc' := 9) rfl ?_
 refine w_sipush X20 hx (hb hby at_9) (v := (255 : Int32)) rfl (pc' := 12) rfl ?_
 refine w_iand X20 hx (hb hby at_12) (pc' := 13) rfl ?_
 refine w_i2c X20 hx (hb hby at_13) (pc' := 14) rfl ?_
 obtain ⟨clu25, Aru25, qu25, Su25, Nu25, Hu25, Gu25⟩ := id V24
 have hinu25 := inb_of (j := (0 : Int32)) Su25 ⟨by decide, by decide⟩
 refine w_stC X20 hx hZ e20 Aru25 hinu25 (hb hby at_14) (pc' := 15) rfl ?_
 intro T26 h26 X26 e26 W26
 have V27 : Arv Z h26 b20 k20 .char (2 : Int32) [(.int (nar .char ((p0 &&& (255 : Int32)).toUInt32.toUInt16.toUInt32.toInt32))), (.int (0 : Int32))] (.int (0 : Int32)) := Arv.set Aru25 qu25 Su25 Nu25 Hu25 Gu25 (fits_nar_char _) W26 0 rfl (Nat.le_of_ble_eq_true rfl)
 have V28 : Arv Z h26 b20 k20 .char (2 : Int32) [(.int ((p0 &&& (255 : Int32)).toUInt32.toUInt16.toUInt32.toInt32)), (.int (0 : Int32))] (.int (0 : Int32)) := by rw [nar_c] at V27; exact V27
 have K29 : Keep h0 h26 [] := K23.wr W26 (Or.inr sz22)
 have N30 := Fr.snoc X26 N0 ge21
 refine w_aload X26 hx (hb hby at_15) rfl rfl (pc' := 17) rfl ?_
 refine w_iconst X26 hx (hb hby at_17) (v := (1 : Int32)) rfl (pc' := 18) rfl ?_
 refine w_iloadN X26 hx (hb hby at_18) rfl (pc' := 19) rfl ?_
 refine w_bipush X26 hx (hb hby at_19) (v := (8 : Int32)) rfl (pc' := 21) rfl ?_
 refine w_iushr X26 hx (hb hby at_21) (pc' := 22) rfl ?_
 refine w_sipush X26 hx (hb hby at_22) (v := (255 : Int32)) rfl (pc' := 25) rfl ?_
 refine w_iand X26 hx (hb hby at_25) (pc' := 26) rfl ?_
 refine w_i2c X26 hx (hb hby at_26) (pc' := 27) rfl ?_
 obtain ⟨clu31, Aru31, qu31, Su31, Nu31, Hu31, Gu31⟩ := id V28
 have hinu31 := inb_of (j := (1 : Int32)) Su31 ⟨by decide, by decide⟩
 refine w_stC X26 hx hZ e26 Aru31 hinu31 (hb hby at_27) (pc' := 28) rfl ?_
 intro T32 h32 X32 e32 W32
 have V33 : Arv Z h32 b20 k20 .char (2 : Int32) [(.int ((p0 &&& (255 : Int32)).toUInt32.toUInt16.toUInt32.toInt32)), (.int (nar .char ((((p0.toUInt32 >>> ((8 : Int32) &&& 31).toUInt32).toInt32) &&& (255 : Int32)).toUInt32.toUInt16.toUInt32.toInt32)))] (.int (0 : Int32)) := Arv.set Aru31 qu31 Su31 Nu31 Hu31 Gu31 (fits_nar_char _) W32 1 rfl (Nat.le_of_ble_eq_true rfl)
 have V34 : Arv Z h32 b20 k20 .char (2 : Int32) [(.int ((p0 &&& (255 : Int32)).toUInt32.toUInt16.toUInt32.toInt32)), (.int ((((p0.toUInt32 >>> ((8 : Int32) &&& 31).toUInt32).toInt32) &&& (255 : Int32)).toUInt32.toUInt16.toUInt32.toInt32))] (.int (0 : Int32)) := by rw [nar_c] at V33; exact V33
 have K35 : Keep h0 h32 [] := K29.wr W32 (Or.inr sz22)
 have N36 := Fr.snoc X32 N30 ge21
 refine w_iconst X32 hx (hb hby at_28) (v := (2 : Int32)) rfl (pc' := 29) rfl ?_
 refine w_newP X32 hx .char .char 2 rfl hZ (wd_0 hw) e32 (hb hby at_29) (by decide) (by decide) (by decide) (by decide) (by decide) (pc' := 31) rfl ?_
 intro T37 h37 k37 b37 X37 e37 E37 g37 A37
 have le39 : h0.size ≤ h26.size := (Nat.le_trans E20.1 (Keep.of_wr W26).1)
 have le40 : h0.size ≤ h32.size := (Nat.le_trans le39 (Keep.of_wr W32).1)
 have ge38 : n0 ≤ b37 := Nat.le_trans (Nat.le_trans Z0 le40) (Nat.le_of_eq g37.symm)
 have sz41 : h0.size ≤ b37 := Nat.le_trans le40 (Nat.le_of_eq g37.symm)
 have K42 : Keep h0 h37 [] := K35.ext E37
 have V43 : Arv Z h37 b37 k37 .char (2 : Int32) [(.int (0 : Int32)), (.int (0 : Int32))] (.int (0 : Int32)) := (Arv.new A37 (by decide)).pad (pad_rep [] (.int (0 : Int32)) 2)
 refine w_astore X37 hx (hb hby at_31) rfl (L' := #[.val (.int p0), .val (.int p1), .val (.int p2), .val (.int p3), .val (.int p4), .val (.int p5), .val (.ref b20), .val (.ref b37), .unset, .unset, .unset, .unset, .unset, .unset]) rfl (pc' := 33) rfl ?_
 refine w_aload X37 hx (hb hby at_33) rfl rfl (pc' := 35) rfl ?_
 refine w_iconst X37 hx (hb hby at_35) (v := (0 : Int32)) rfl (pc' := 36) rfl ?_
 refine w_iloadN X37 hx (hb hby at_36) rfl (pc' := 37) rfl ?_
 refine w_sipush X37 hx (hb hby at_37) (v := (255 : Int32)) rfl (pc' := 40) rfl ?_
 refine w_iand X37 hx (hb hby at_40) (pc' := 41) rfl ?_
 refine w_i2c X37 hx (hb hby at_41) (pc' := 42) rfl ?_
 obtain ⟨clu44, Aru44, qu44, Su44, Nu44, Hu44, Gu44⟩ := id V43
 have hinu44 := inb_of (j := (0 : Int32)) Su44 ⟨by decide, by decide⟩
 refine w_stC X37 hx hZ e37 Aru44 hinu44 (hb hby at_42) (pc' := 43) rfl ?_
 intro T45 h45 X45 e45 W45
 have V46 : Arv Z h45 b37 k37 .char (2 : Int32) [(.int (nar .char ((p1 &&& (255 : Int32)).toUInt32.toUInt16.toUInt32.toInt32))), (.int (0 : Int32))] (.int (0 : Int32)) := Arv.set Aru44 qu44 Su44 Nu44 Hu44 Gu44 (fits_nar_char _) W45 0 rfl (Nat.le_of_ble_eq_true rfl)
 have V47 : Arv Z h45 b37 k37 .char (2 : Int32) [(.int ((p1 &&& (255 : Int32)).toUInt32.toUInt16.toUInt32.toInt32)), (.int (0 : Int32))] (.int (0 : Int32)) := by rw [nar_c] at V46; exact V46
 have K48 : Keep h0 h45 [] := K42.wr W45 (Or.inr sz41)
 have N49 := Fr.snoc X45 N36 ge38
 refine w_aload X45 hx (hb hby at_43) rfl rfl (pc' := 45) rfl ?_
 refine w_iconst X45 hx (hb hby at_45) (v := (1 : Int32)) rfl (pc' := 46) rfl ?_
 refine w_iloadN X45 hx (hb hby at_46) rfl (pc' := 47) rfl ?_
 refine w_bipush X45 hx (hb hby at_47) (v := (8 : Int32)) rfl (pc' := 49) rfl ?_
 refine w_iushr X45 hx (hb hby at_49) (pc' := 50) rfl ?_
 refine w_sipush X45 hx (hb hby at_50) (v := (255 : Int32)) rfl (pc' := 53) rfl ?_
 refine w_iand X45 hx (hb hby at_53) (pc' := 54) rfl ?_
 refine w_i2c X45 hx (hb hby at_54) (pc' := 55) rfl ?_
 obtain ⟨clu50, Aru50, qu50, Su50, Nu50, Hu50, Gu50⟩ := id V47
 have hinu50 := inb_of (j := (1 : Int32)) Su50 ⟨by decide, by decide⟩
 refine w_stC X45 hx hZ e45 Aru50 hinu50 (hb hby at_55) (pc' := 56) rfl ?_
 intro T51 h51 X51 e51 W51
 have V52 : Arv Z h51 b37 k37 .char (2 : Int32) [(.int ((p1 &&& (255 : Int32)).toUInt32.toUInt16.toUInt32.toInt32)), (.int (nar .char ((((p1.toUInt32 >>> ((8 : Int32) &&& 31).toUInt32).toInt32) &&& (255 : Int32)).toUInt32.toUInt16.toUInt32.toInt32)))] (.int (0 : Int32)) := Arv.set Aru50 qu50 Su50 Nu50 Hu50 Gu50 (fits_nar_char _) W51 1 rfl (Nat.le_of_ble_eq_true rfl)
 have V53 : Arv Z h51 b37 k37 .char (2 : Int32) [(.int ((p1 &&& (255 : Int32)).toUInt32.toUInt16.toUInt32.toInt32)), (.int ((((p1.toUInt32 >>> ((8 : Int32) &&& 31).toUInt32).toInt32) &&& (255 : Int32)).toUInt32.toUInt16.toUInt32.toInt32))] (.int (0 : Int32)) := by rw [nar_c] at V52; exact V52
 have K54 : Keep h0 h51 [] := K48.wr W51 (Or.inr sz41)
 have N55 := Fr.snoc X51 N49 ge38
 refine w_new X51 hx hZ hown (wd_1 hw) (wd_2 hw) (wd_3 hw) e51 (hb hby at_56) (by decide) (by decide) (pc' := 59) rfl ?_
 intro T56 h56 b56 X56 e56 E56 g56 A56 D56
 have le58 : h0.size ≤ h37.size := (Nat.le_trans le40 E37.1)
 have le59 : h0.size ≤ h45.size := (Nat.le_trans le58 (Keep.of_wr W45).1)
 have le60 : h0.size ≤ h51.size := (Nat.le_trans le59 (Keep.of_wr W51).1)
 have ge57 : n0 ≤ b56 := Nat.le_trans (Nat.le_trans Z0 le60) (Nat.le_of_eq g56.symm)
 have sz61 : h0.size ≤ b56 := Nat.le_trans le60 (Nat.le_of_eq g56.symm)
 have K62 : Keep h0 h56 [] := K54.ext E56
 have f63 : Fld Z h56 b56 kc1 "coder" "B" (.int (0 : Int32)) := D56 (Or.inr (wd_27 hw)) (ty := .byte) (by decide)
 have f64 : Fld Z h56 b56 kc1 "value" "[B" .null := D56 (Or.inr (wd_29 hw)) (ty := (.array .byte)) (by decide)
 refine w_dup X56 hx (hb hby at_59) rfl (pc' := 60) rfl ?_
 refine w_aload X56 hx (hb hby at_60) rfl rfl (pc' := 62) rfl ?_
 have le65 : h0.size ≤ h56.size := (Nat.le_trans le60 E56.1)
 have le67 : h20.size ≤ h32.size := (Nat.le_trans (Keep.of_wr W26).1 (Keep.of_wr W32).1)
 have ne68 : b20 ≠ b37 := (Nat.ne_of_lt (Nat.lt_of_lt_of_le A20.lt (Nat.le_trans le67 (Nat.le_of_eq g37.symm))))
 have f69 : Arv Z h56 b20 k20 .char (2 : Int32) [(.int ((p0 &&& (255 : Int32)).toUInt32.toUInt16.toUInt32.toInt32)), (.int ((((p0.toUInt32 >>> ((8 : Int32) &&& 31).toUInt32).toInt32) &&& (255 : Int32)).toUInt32.toUInt16.toUInt32.toInt32))] (.int (0 : Int32)) := ((((V34.ext E37).other W45 ne68).other W51 ne68).ext E56)
 have f70 : Old Z n0 h56 := (((((((O0.ext E20).wr W26 ge21).wr W32 ge21).ext E37).wr W45 ge38).wr W51 ge38).ext E56)
 refine w_special X56 hx (y := yn_1) rfl hown (mvT hZ (wd_4 hw)) (mvT hZ (wd_5 hw)) (mvT hZ (wd_6 hw)) (by decide) (StrChars.Road.backV (W := 1) hZ (own_hws hw) (kI := 4) (wd_2 hw) (cs := ([((p0 &&& (255 : Int32)).toUInt32.toUInt16.toUInt32.toInt32), ((((p0.toUInt32 >>> ((8 : Int32) &&& 31).toUInt32).toInt32) &&& (255 : Int32)).toUInt32.toUInt16.toUInt32.toInt32)] : List Int32)) (bs := ([((p0 &&& (255 : Int32)).toUInt32.toUInt16.toUInt32.toInt32), ((((p0.toUInt32 >>> ((8 : Int32) &&& 31).toUInt32).toInt32) &&& (255 : Int32)).toUInt32.toUInt16.toUInt32.toInt32)] : List Int32).map (fun c => c.toInt8.toInt32)) (n := 2) ge57 (Nat.le_trans Z0 le65) A56 f64 f63 f69 (S_COMPACT_STRINGS.ext f70.2) hP_2 rfl rfl (by decide) (by decide) (List.forall_mem_cons.2 ⟨(own_and255 p0), (List.forall_mem_cons.2 ⟨(own_and255 ((p0.toUInt32 >>> ((8 : Int32) &&& 31).toUInt32).toInt32)), (fun _ h => nomatch h)⟩)⟩) rfl (by decide) (by decide)) (by rw [hml]; rfl) [(.ref b20)] (lenOf pd_0 rfl) rfl (Nat.le_of_eq rfl) (hb hby at_62) (fun _ _ => ⟨rfl, e56, (by decide : 3 + 1 ≤ _), (by decide : 8 + 2 ≤ _)⟩) (pc' := 65) rfl ?_
 rintro _ _ ⟨T66, L66, k66, n66⟩ X66 ⟨Lc66, hQ66, l66, y66, z66⟩
 dsimp only [Pt.U, Pt.locs, Pt.cells, Pt.slots] at X66 l66 y66 z66 hQ66 ⊢
 subst l66 y66 z66
 obtain ⟨rfl, N66q, K66, g66_0, g66_1, t_66, kb_66, g66_2, g66_3, g66_4, g66_5, g66_6⟩ := hQ66
 have N71 := Fr.app N55 N66q
 have K72 : Keep h0 T66.heap [] := K62.trans K66 (allS (Or.inr sz61) (all0 (P := fun x => x ∈ [] ∨ h0.size ≤ x)))
 have ge73 : n0 ≤ t_66 := Nat.le_trans (Nat.le_trans Z0 le65) g66_3
 have sz74 : h0.size ≤ t_66 := Nat.le_trans le65 g66_3
 show Runs _ _ _ _ (T66.setTop (mkF m 65 #[.val (.int p0), .val (.int p1), .val (.int p2), .val (.int p3), .val (.int p4), .val (.int p5), .val (.ref b20), .val (.ref b37), .unset, .unset, .unset, .unset, .unset, .unset] [(.ref b56)]))
 refine w_astore X66 hx (hb hby at_65) rfl (L' := #[.val (.int p0), .val (.int p1), .val (.int p2), .val (.int p3), .val (.int p4), .val (.int p5), .val (.ref b20), .val (.ref b37), .val (.ref b56), .unset, .unset, .unset, .unset, .unset]) rfl (pc' := 67) rfl ?_
 refine w_new X66 hx hZ hown (wd_1 hw) (wd_2 hw) (wd_3 hw) rfl (hb hby at_67) (by decide) (by decide) (pc' := 70) rfl ?_
 intro T75 h75 b75 X75 e75 E75 g75 A75 D75
 have le77 : h0.size ≤ T66.heap.size := (Nat.le_trans le65 K66.1)
 have ge76 : n0 ≤ b75 := Nat.le_trans (Nat.le_trans Z0 le77) (Nat.le_of_eq g75.symm)
 have sz78 : h0.size ≤ b75 := Nat.le_trans le77 (Nat.le_of_eq g75.symm)
 have K79 : Keep h0 h75 [] := K72.ext E75
 have f80 : Fld Z h75 b75 kc1 "coder" "B" (.int (0 : Int32)) := D75 (Or.inr (wd_27 hw)) (ty := .byte) (by decide)
 have f81 : Fld Z h75 b75 kc1 "value" "[B" .null := D75 (Or.inr (wd_29 hw)) (ty := (.array .byte)) (by decide)
 refine w_dup X75 hx (hb hby at_70) rfl (pc' := 71) rfl ?_
 refine w_aload X75 hx (hb hby at_71) rfl rfl (pc' := 73) rfl ?_
 have le82 : h0.size ≤ h75.size := (Nat.le_trans le77 E75.1)
 have le84 : h37.size ≤ h51.size := (Nat.le_trans (Keep.of_wr W45).1 (Keep.of_wr W51).1)
 have ne85 : b37 ≠ b56 := (Nat.ne_of_lt (Nat.lt_of_lt_of_le A37.lt (Nat.le_trans le84 (Nat.le_of_eq g56.symm))))
 have f86 : Arv Z h75 b37 k37 .char (2 : Int32) [(.int ((p1 &&& (255 : Int32)).toUInt32.toUInt16.toUInt32.toInt32)), (.int ((((p1.toUInt32 >>> ((8 : Int32) &&& 31).toUInt32).toInt32) &&& (255 : Int32)).toUInt32.toUInt16.toUInt32.toInt32))] (.int (0 : Int32)) := (((V53.ext E56).keep K66 (ninS ne85 nin0)).ext E75)
 have f87 : Old Z n0 h75 := ((f70.keep K66 (allS ge57 all0)).ext E75)
 refine w_special X75 hx (y := yn_1) rfl hown (mvT hZ (wd_4 hw)) (mvT hZ (wd_5 hw)) (mvT hZ (wd_6 hw)) (by decide) (StrChars.Road.backV (W := 1) hZ (own_hws hw) (kI := 4) (wd_2 hw) (cs := ([((p1 &&& (255 : Int32)).toUInt32.toUInt16.toUInt32.toInt32), ((((p1.toUInt32 >>> ((8 : Int32) &&& 31).toUInt32).toInt32) &&& (255 : Int32)).toUInt32.toUInt16.toUInt32.toInt32)] : List Int32)) (bs := ([((p1 &&& (255 : Int32)).toUInt32.toUInt16.toUInt32.toInt32), ((((p1.toUInt32 >>> ((8 : Int32) &&& 31).toUInt32).toInt32) &&& (255 : Int32)).toUInt32.toUInt16.toUInt32.toInt32)] : List Int32).map (fun c => c.toInt8.toInt32)) (n := 2) ge76 (Nat.le_trans Z0 le82) A75 f81 f80 f86 (S_COMPACT_STRINGS.ext f87.2) hP_2 rfl rfl (by decide) (by decide) (List.forall_mem_cons.2 ⟨(own_and255 p1), (List.forall_mem_cons.2 ⟨(own_and255 ((p1.toUInt32 >>> ((8 : Int32) &&& 31).toUInt32).toInt32)), (fun _ h => nomatch h)⟩)⟩) rfl (by decide) (by decide)) (by rw [hml]; rfl) [(.ref b37)] (lenOf pd_0 rfl) rfl (Nat.le_of_eq rfl) (hb hby at_73) (fun _ _ => ⟨rfl, e75, (by decide : 5 + 1 ≤ _), (by decide : 14 + 2 ≤ _)⟩) (pc' := 76) rfl ?_
 rintro _ _ ⟨T83, L83, k83, n83⟩ X83 ⟨Lc83, hQ83, l83, y83, z83⟩
 dsimp only [Pt.U, Pt.locs, Pt.cells, Pt.slots] at X83 l83 y83 z83 hQ83 ⊢
 subst l83 y83 z83
 obtain ⟨rfl, N83q, K83, g83_0, g83_1, t_83, kb_83, g83_2, g83_3, g83_4, g83_5, g83_6⟩ := hQ83
 have N88 := Fr.app N71 N83q
 have K89 : Keep h0 T83.heap [] := K79.trans K83 (allS (Or.inr sz78) (all0 (P := fun x => x ∈ [] ∨ h0.size ≤ x)))
 have ge90 : n0 ≤ t_83 := Nat.le_trans (Nat.le_trans Z0 le82) g83_3
 have sz91 : h0.size ≤ t_83 := Nat.le_trans le82 g83_3
 show Runs _ _ _ _ (T83.setTop (mkF m 76 #[.val (.int p0), .val (.int p1), .val (.int p2), .val (.int p3), .val (.int p4), .val (.int p5), .val (.ref b20), .val (.ref b37), .val (.ref b56), .unset, .unset, .unset, .unset, .unset] [(.ref b75)]))
 refine w_astore X83 hx (hb hby at_76) rfl (L' := #[.val (.int p0), .val (.int p1), .val (.int p2), .val (.int p3), .val (.int p4), .val (.int p5), .val (.ref b20), .val (.ref b37), .val (.ref b56), .val (.ref b75), .unset, .unset, .unset, .unset]) rfl (pc' := 78) rfl ?_
 refine w_iload X83 hx (hb hby at_78) rfl (pc' := 80) rfl ?_
 refine w_iconst X83 hx (hb hby at_80) (v := (1 : Int32)) rfl (pc' := 81) rfl ?_
 refine w_iand X83 hx (hb hby at_81) (pc' := 82) rfl ?_
 suffices key93 : Runs p e below (EndN s (Q_law Z p0 p1 p2 p3 p4 p5 G_COMPACT_STRINGS h0 n0) room_1.cells room_1.slots) (T83.setTop (mkF m 90 #[.val (.int p0), .val (.int p1), .val (.int p2), .val (.int p3), .val (.int p4), .val (.int p5), .val (.ref b20), .val (.ref b37), .val (.ref b56), .val (.ref b75), .unset, .unset, .unset, .unset] [(.int (if (p4 &&& (1 : Int32)) = (0 : Int32) then (0 : Int32) else (1 : Int32)))])) by
  by_cases hc92 : (p4 &&& (1 : Int32)) = (0 : Int32)
  · rw [if_pos hc92] at key93
    refine w_ifY X83 hx (hb hby at_82) (teq hc92).1 (pc' := 89) (by decide) (by decide) ?_
    refine w_iconst X83 hx (hb hby at_89) (v := (0 : Int32)) rfl (pc' := 90) rfl ?_
    exact key93
  · rw [if_neg hc92] at key93
    refine w_ifN X83 hx (hb hby at_82) (feq hc92).1 (pc' := 85) rfl ?_
    refine w_iconst X83 hx (hb hby at_85) (v := (1 : Int32)) rfl (pc' := 86) rfl ?_
    refine w_goto X83 hx (hb hby at_86) (pc' := 90) (by decide) (by decide) ?_
    exact key93
 refine w_istore X83 hx (hb hby at_90) (L' := #[.val (.int p0), .val (.int p1), .val (.int p2), .val (.int p3), .val (.int p4), .val (.int p5), .val (.ref b20), .val (.ref b37), .val (.ref b56), .val (.ref b75), .val (.int (if (p4 &&& (1 : Int32)) = (0 : Int32) then (0 : Int32) else (1 : Int32))), .unset, .unset, .unset]) rfl (pc' := 92) rfl ?_
 refine w_new X83 hx hZ hown (wd_30 hw) (wd_31 hw) (wd_32 hw) rfl (hb hby at_92) (by decide) (by decide) (pc' := 95) rfl ?_
 intro T94 h94 b94 X94 e94 E94 g94 A94 D94
 have le96 : h0.size ≤ T83.heap.size := (Nat.le_trans le82 K83.1)
 have ge95 : n0 ≤ b94 := Nat.le_trans (Nat.le_trans Z0 le96) (Nat.le_of_eq g94.symm)
 have sz97 : h0.size ≤ b94 := Nat.le_trans le96 (Nat.le_of_eq g94.symm)
 have K98 : Keep h0 h94 [] := K89.ext E94
 have f99 : Fld Z h94 b94 kc0 "name" "Ljava/lang/String;" .null := D94 (Or.inr (wd_43 hw)) (ty := (.object kc1)) (by decide)
 have f100 : Fld Z h94 b94 kc0 "side" "Ljava/lang/String;" .null := D94 (Or.inr (wd_45 hw)) (ty := (.object kc1)) (by decide)
 have f101 : Fld Z h94 b94 kc0 "index" "I" (.int (0 : Int32)) := D94 (Or.inr (wd_47 hw)) (ty := .int) (by decide)
 have f102 : Fld Z h94 b94 kc0 "rank" "I" (.int (0 : Int32)) := D94 (Or.inr (wd_49 hw)) (ty := .int) (by decide)
 have f103 : Fld Z h94 b94 kc0 "reach" "Lcom/example/roundkeeper/roundkeeper/ruleset/ranked/Reach;" .null := D94 (Or.inr (wd_51 hw)) (ty := (.object kc3)) (by decide)
 have f104 : Fld Z h94 b94 kc0 "skill" "I" (.int (0 : Int32)) := D94 (Or.inr (wd_53 hw)) (ty := .int) (by decide)
 have f105 : Fld Z h94 b94 kc0 "actions" "I" (.int (0 : Int32)) := D94 (Or.inr (wd_55 hw)) (ty := .int) (by decide)
 have f106 : Fld Z h94 b94 kc0 "hp" "I" (.int (0 : Int32)) := D94 (Or.inr (wd_57 hw)) (ty := .int) (by decide)
 have f107 : Fld Z h94 b94 kc0 "armour" "I" (.int (0 : Int32)) := D94 (Or.inr (wd_59 hw)) (ty := .int) (by decide)
 refine w_dup X94 hx (hb hby at_95) rfl (pc' := 96) rfl ?_
 refine w_aload X94 hx (hb hby at_96) rfl rfl (pc' := 98) rfl ?_
 refine w_aload X94 hx (hb hby at_98) rfl rfl (pc' := 100) rfl ?_
 refine w_iload X94 hx (hb hby at_100) rfl (pc' := 102) rfl ?_
 refine w_iloadN X94 hx (hb hby at_102) rfl (pc' := 103) rfl ?_
 refine w_null X94 hx (hb hby at_103) (pc' := 104) rfl ?_
 refine w_iload X94 hx (hb hby at_104) rfl (pc' := 106) rfl ?_
 refine w_iload X94 hx (hb hby at_106) rfl (pc' := 108) rfl ?_
 refine w_iload X94 hx (hb hby at_108) rfl (pc' := 110) rfl ?_
 refine w_iload X94 hx (hb hby at_110) rfl (pc' := 112) rfl ?_
 have le108 : h0.size ≤ h94.size := (Nat.le_trans le96 E94.1)
 refine w_special X94 hx (y := yn_7) rfl hown (mvT hZ (wd_33 hw)) (mvT hZ (wd_34 hw)) (mvT hZ (wd_35 hw)) (by decide) (backOf (W := 1) (rm_m7_1 l Z aZ hw [] b94 b56 b75 p5 p3 p5 p5 p5 p5 h94 n0 (Nat.le_trans Z0 le108) A94 f99 ge95 f100 f101 f102 f103 f104 f105 f106 f107) hZ (wd_35 hw) (wd_32 hw) (by decide) (by decide)) (by rw [hml]; rfl) [(.ref b56), (.ref b75), (.int p5), (.int p3), .null, (.int p5), (.int p5), (.int p5), (.int p5)] (lenOf pd_2 rfl) rfl (Nat.le_of_eq rfl) (hb hby at_112) (fun _ _ => ⟨rfl, e94, (by decide : 7 + 0 ≤ _), (by decide : 25 + 0 ≤ _)⟩) (pc' := 115) rfl ?_
 rintro _ _ ⟨T109, L109, k109, n109⟩ X109 ⟨Lc109, hQ109, l109, y109, z109⟩
 dsimp only [Pt.U, Pt.locs, Pt.cells, Pt.slots] at X109 l109 y109 z109 hQ109 ⊢
 subst l109 y109 z109
 obtain ⟨rfl, N109q, K109, g109_0, g109_1, g109_2, g109_3, g109_4, g109_5, g109_6, g109_7, g109_8, g109_9⟩ := hQ109
 have N110 := Fr.app N88 N109q
 have K111 : Keep h0 T109.heap [] := K98.trans K109 (allS (Or.inr sz97) (all0 (P := fun x => x ∈ [] ∨ h0.size ≤ x)))
 show Runs _ _ _ _ (T109.setTop (mkF m 115 #[.val (.int p0), .val (.int p1), .val (.int p2), .val (.int p3), .val (.int p4), .val (.int p5), .val (.ref b20), .val (.ref b37), .val (.ref b56), .val (.ref b75), .val (.int (if (p4 &&& (1 : Int32)) = (0 : Int32) then (0 : Int32) else (1 : Int32))), .unset, .unset, .unset] [(.ref b94)]))
 refine w_astore X109 hx (hb hby at_115) rfl (L' := #[.val (.int p0), .val (.int p1), .val (.int p2), .val (.int p3), .val (.int p4), .val (.int p5), .val (.ref b20), .val (.ref b37), .val (.ref b56), .val (.ref b75), .val (.int (if (p4 &&& (1 : Int32)) = (0 : Int32) then (0 : Int32) else (1 : Int32))), .val (.ref b94), .unset, .unset]) rfl (pc' := 117) rfl ?_
 refine w_new X109 hx hZ hown (wd_60 hw) (wd_61 hw) (wd_62 hw) rfl (hb hby at_117) (by decide) (by decide) (pc' := 120) rfl ?_
 intro T112 h112 b112 X112 e112 E112 g112 A112 D112
 have le114 : h0.size ≤ T109.heap.size := (Nat.le_trans le108 K109.1)
 have ge113 : n0 ≤ b112 := Nat.le_trans (Nat.le_trans Z0 le114) (Nat.le_of_eq g112.symm)
 have sz115 : h0.size ≤ b112 := Nat.le_trans le114 (Nat.le_of_eq g112.symm)
 have K116 : Keep h0 h112 [] := K111.ext E112
 have f117 : Fld Z h112 b112 kc4 "fighter" "Lcom/example/roundkeeper/roundkeeper/ruleset/ranked/Fighter;" .null := D112 (Or.inr (wd_68 hw)) (ty := (.object kc0)) (by decide)
 have f118 : Fld Z h112 b112 kc4 "rank" "I" (.int (0 : Int32)) := D112 (Or.inr (wd_70 hw)) (ty := .int) (by decide)
 refine w_dup X112 hx (hb hby at_120) rfl (pc' := 121) rfl ?_
 refine w_aload X112 hx (hb hby at_121) rfl rfl (pc' := 123) rfl ?_
 refine w_iloadN X112 hx (hb hby at_123) rfl (pc' := 124) rfl ?_
 have le119 : h0.size ≤ h112.size := (Nat.le_trans le114 E112.1)
 refine w_special X112 hx (y := yn_9) rfl hown (mvT hZ (wd_63 hw)) (mvT hZ (wd_64 hw)) (mvT hZ (wd_65 hw)) (by decide) (backOf (W := 1) (rm_m9_3 l Z aZ hw [] b112 b94 p2 h112 n0 (Nat.le_trans Z0 le119) A112 f117 ge113 f118) hZ (wd_65 hw) (wd_62 hw) (by decide) (by decide)) (by rw [hml]; rfl) [(.ref b94), (.int p2)] (lenOf pd_3 rfl) rfl (Nat.le_of_eq rfl) (hb hby at_124) (fun _ _ => ⟨rfl, e112, (by decide : 8 + 0 ≤ _), (by decide : 27 + 0 ≤ _)⟩) (pc' := 127) rfl ?_
 rintro _ _ ⟨T120, L120, k120, n120⟩ X120 ⟨Lc120, hQ120, l120, y120, z120⟩
 dsimp only [Pt.U, Pt.locs, Pt.cells, Pt.slots] at X120 l120 y120 z120 hQ120 ⊢
 subst l120 y120 z120
 obtain ⟨rfl, N120q, K120, g120_0, g120_1, g120_2⟩ := hQ120
 have N121 := Fr.app N110 N120q
 have K122 : Keep h0 T120.heap [] := K116.trans K120 (allS (Or.inr sz115) (all0 (P := fun x => x ∈ [] ∨ h0.size ≤ x)))
 show Runs _ _ _ _ (T120.setTop (mkF m 127 #[.val (.int p0), .val (.int p1), .val (.int p2), .val (.int p3), .val (.int p4), .val (.int p5), .val (.ref b20), .val (.ref b37), .val (.ref b56), .val (.ref b75), .val (.int (if (p4 &&& (1 : Int32)) = (0 : Int32) then (0 : Int32) else (1 : Int32))), .val (.ref b94), .unset, .unset] [(.ref b112)]))
 refine w_astore X120 hx (hb hby at_127) rfl (L' := #[.val (.int p0), .val (.int p1), .val (.int p2), .val (.int p3), .val (.int p4), .val (.int p5), .val (.ref b20), .val (.ref b37), .val (.ref b56), .val (.ref b75), .val (.int (if (p4 &&& (1 : Int32)) = (0 : Int32) then (0 : Int32) else (1 : Int32))), .val (.ref b94), .val (.ref b112), .unset]) rfl (pc' := 129) rfl ?_
 refine w_aload X120 hx (hb hby at_129) rfl rfl (pc' := 131) rfl ?_
 refine w_iload X120 hx (hb hby at_131) rfl (pc' := 133) rfl ?_
 have f123 : Exa Z T120.heap b94 kc0 := ((g109_0.ext E112).keep K120)
 have ne124 : b94 ≠ b112 := (Nat.ne_of_lt (Nat.lt_of_lt_of_le A94.lt (Nat.le_trans K109.1 (Nat.le_of_eq g112.symm))))
 have f125 : Fld Z T120.heap b94 kc0 "name" "Ljava/lang/String;" (.ref b56) := ((g109_1.ext E112).keep K120 (ninS ne124 nin0))
 have f126 : Fld Z T120.heap b94 kc0 "side" "Ljava/lang/String;" (.ref b75) := ((g109_2.ext E112).keep K120 (ninS ne124 nin0))
 have le127 : h0.size ≤ T120.heap.size := (Nat.le_trans le119 K120.1)
 obtain ⟨cq128, kq128, q128a, q128b, q128c⟩ := isOf hZ rfl g120_0
 refine w_virtual X120 hx (y := yn_10) (z := yn_10) hown (mvT hZ (wd_71 hw)) (mvT hZ (wd_72 hw)) (notFace_of_selects (args := #[]) (mvT hZ (wd_74 hw))) (mvT hZ (wd_74 hw)) (mvT hZ (wd_73 hw)) (by decide) (backOf (W := 0) (rm_m10_4 l Z aZ hw [] b112 (if (p4 &&& (1 : Int32)) = (0 : Int32) then (0 : Int32) else (1 : Int32)) b94 b56 b75 p2 T120.heap n0 (Nat.le_trans Z0 le127) g120_1 f123 f125 f126 g120_2 nar_ite') hZ (wd_75 hw) (wd_62 hw) (by decide) (by decide)) q128a q128c (by rw [hml]; rfl) [(.int (if (p4 &&& (1 : Int32)) = (0 : Int32) then (0 : Int32) else (1 : Int32)))] (lenOf pd_6 rfl) rfl (Nat.le_of_eq rfl) (hb hby at_133) (fun _ _ => ⟨rfl, rfl, (by decide : 8 + 1 ≤ _), (by decide : 27 + 4 ≤ _)⟩) (pc' := 136) rfl ?_
 rintro _ _ ⟨T128, L128, k128, n128⟩ X128 ⟨Lc128, hQ128, l128, y128, z128⟩
 dsimp only [Pt.U, Pt.locs, Pt.cells, Pt.slots] at X128 l128 y128 z128 hQ128 ⊢
 subst l128 y128 z128
 obtain ⟨r0_128, rfl, N128q, K128, g128_0, g128_1, g128_2, g128_3, g128_4, g128_5⟩ := hQ128
 have N129 := Fr.app N121 N128q
 have K130 : Keep h0 T128.heap [] := K122.trans K128 (all0 (P := fun x => x ∈ [] ∨ h0.size ≤ x))
 have ge131 : n0 ≤ r0_128 := Nat.le_trans (Nat.le_trans Z0 le127) g128_0
 have sz132 : h0.size ≤ r0_128 := Nat.le_trans le127 g128_0
 show Runs _ _ _ _ (T128.setTop (mkF m 136 #[.val (.int p0), .val (.int p1), .val (.int p2), .val (.int p3), .val (.int p4), .val (.int p5), .val (.ref b20), .val (.ref b37), .val (.ref b56), .val (.ref b75), .val (.int (if (p4 &&& (1 : Int32)) = (0 : Int32) then (0 : Int32) else (1 : Int32))), .val (.ref b94), .val (.ref b112), .unset] [(.ref r0_128)]))
 refine w_astore X128 hx (hb hby at_136) rfl (L' := #[.val (.int p0), .val (.int p1), .val (.int p2), .val (.int p3), .val (.int p4), .val (.int p5), .val (.ref b20), .val (.ref b37), .val (.ref b56), .val (.ref b75), .val (.int (if (p4 &&& (1 : Int32)) = (0 : Int32) then (0 : Int32) else (1 : Int32))), .val (.ref b94), .val (.ref b112), .val (.ref r0_128)]) rfl (pc' := 138) rfl ?_
 refine w_aload X128 hx (hb hby at_138) rfl rfl (pc' := 140) rfl ?_
 have le133 : h0.size ≤ T128.heap.size := (Nat.le_trans le127 K128.1)
 obtain ⟨cq134, kq134, q134a, q134b, q134c⟩ := isOf hZ rfl g128_1
 refine w_virtual X128 hx (y := yn_14) (z := yn_14) hown (mvT hZ (wd_101 hw)) (mvT hZ (wd_102 hw)) (notFace_of_selects (args := #[]) (mvT hZ (wd_104 hw))) (mvT hZ (wd_104 hw)) (mvT hZ (wd_103 hw)) (by decide) (backOf (W := 0) (rm_m14_8 l Z aZ hw [] r0_128 b56 T128.heap n0 (Nat.le_trans Z0 le133) g128_2) hZ (wd_105 hw) (wd_78 hw) (by decide) (by decide)) q134a q134c (by rw [hml]; rfl) [] (lenOf pd_4 rfl) rfl (Nat.le_of_eq rfl) (hb hby at_140) (fun _ _ => ⟨rfl, rfl, (by decide : 9 + 0 ≤ _), (by decide : 31 + 0 ≤ _)⟩) (pc' := 143) rfl ?_
 rintro _ _ ⟨T134, L134, k134, n134⟩ X134 ⟨Lc134, hQ134, l134, y134, z134⟩
 dsimp only [Pt.U, Pt.locs, Pt.cells, Pt.slots] at X134 l134 y134 z134 hQ134 ⊢
 subst l134 y134 z134
 obtain ⟨rfl, N134q, e134⟩ := hQ134
 have N135 := Fr.app N129 N134q
 show Runs _ _ _ _ (T134.setTop (mkF m 143 #[.val (.int p0), .val (.int p1), .val (.int p2), .val (.int p3), .val (.int p4), .val (.int p5), .val (.ref b20), .val (.ref b37), .val (.ref b56), .val (.ref b75), .val (.int (if (p4 &&& (1 : Int32)) = (0 : Int32) then (0 : Int32) else (1 : Int32))), .val (.ref b94), .val (.ref b112), .val (.ref r0_128)] [(.ref b56)]))
 refine w_aload X134 hx (hb hby at_143) rfl rfl (pc' := 145) rfl ?_
 have f137 : Exa Z T128.heap b56 kc1 := (((((((g66_0.ext E75).keep K83).ext E94).keep K109).ext E112).keep K120).keep K128)
 obtain ⟨cq136, kq136, q136a, q136b, q136c⟩ := isOf hZ e134 f137
 refine w_virtual X134 hx (y := yn_15) (z := yn_15) hown (mvT hZ (wd_106 hw)) (mvT hZ (wd_107 hw)) (notFace_of_selects (args := #[]) (mvT hZ (wd_109 hw))) (mvT hZ (wd_109 hw)) (mvT hZ (wd_108 hw)) (by decide) (backOf (W := 0) (rm_m15_9 l Z aZ hw [] b56 T128.heap n0 (Nat.le_trans Z0 le133) ) hZ (wd_110 hw) (wd_3 hw) (by decide) (by decide)) q136a q136c (by rw [hml]; rfl) [(.ref b56)] (lenOf pd_7 rfl) rfl (Nat.le_of_eq rfl) (hb hby at_145) (fun _ _ => ⟨rfl, e134, (by decide : 9 + 0 ≤ _), (by decide : 31 + 0 ≤ _)⟩) (pc' := 148) rfl ?_
 rintro _ _ ⟨T136, L136, k136, n136⟩ X136 ⟨Lc136, hQ136, l136, y136, z136⟩
 dsimp only [Pt.U, Pt.locs, Pt.cells, Pt.slots] at X136 l136 y136 z136 hQ136 ⊢
 subst l136 y136 z136
 obtain ⟨rfl, N136q, e136⟩ := hQ136
 have N138 := Fr.app N135 N136q
 show Runs _ _ _ _ (T136.setTop (mkF m 148 #[.val (.int p0), .val (.int p1), .val (.int p2), .val (.int p3), .val (.int p4), .val (.int p5), .val (.ref b20), .val (.ref b37), .val (.ref b56), .val (.ref b75), .val (.int (if (p4 &&& (1 : Int32)) = (0 : Int32) then (0 : Int32) else (1 : Int32))), .val (.ref b94), .val (.ref b112), .val (.ref r0_128)] [(.int (1 : Int32))]))
 refine w_ifN X136 hx (hb hby at_148) (feq (by decide : ¬ ((1 : Int32) = (0 : Int32)))).1 (pc' := 151) rfl ?_
 refine w_aload X136 hx (hb hby at_151) rfl rfl (pc' := 153) rfl ?_
 obtain ⟨cq139, kq139, q139a, q139b, q139c⟩ := isOf hZ e136 g128_1
 refine w_virtual X136 hx (y := yn_16) (z := yn_16) hown (mvT hZ (wd_111 hw)) (mvT hZ (wd_112 hw)) (notFace_of_selects (args := #[]) (mvT hZ (wd_114 hw))) (mvT hZ (wd_114 hw)) (mvT hZ (wd_113 hw)) (by decide) (backOf (W := 0) (rm_m16_10 l Z aZ hw [] r0_128 b75 T128.heap n0 (Nat.le_trans Z0 le133) g128_3) hZ (wd_115 hw) (wd_78 hw) (by decide) (by decide)) q139a q139c (by rw [hml]; rfl) [] (lenOf pd_4 rfl) rfl (Nat.le_of_eq rfl) (hb hby at_153) (fun _ _ => ⟨rfl, e136, (by decide : 9 + 0 ≤ _), (by decide : 31 + 0 ≤ _)⟩) (pc' := 156) rfl ?_
 rintro _ _ ⟨T139, L139, k139, n139⟩ X139 ⟨Lc139, hQ139, l139, y139, z139⟩
 dsimp only [Pt.U, Pt.locs, Pt.cells, Pt.slots] at X139 l139 y139 z139 hQ139 ⊢
 subst l139 y139 z139
 obtain ⟨rfl, N139q, e139⟩ := hQ139
 have N140 := Fr.app N138 N139q
 show Runs _ _ _ _ (T139.setTop (mkF m 156 #[.val (.int p0), .val (.int p1), .val (.int p2), .val (.int p3), .val (.int p4), .val (.int p5), .val (.ref b20), .val (.ref b37), .val (.ref b56), .val (.ref b75), .val (.int (if (p4 &&& (1 : Int32)) = (0 : Int32) then (0 : Int32) else (1 : Int32))), .val (.ref b94), .val (.ref b112), .val (.ref r0_128)] [(.ref b75)]))
 refine w_aload X139 hx (hb hby at_156) rfl rfl (pc' := 158) rfl ?_
 have f142 : Exa Z T128.heap b75 kc1 := (((((g83_0.ext E94).keep K109).ext E112).keep K120).keep K128)
 obtain ⟨cq141, kq141, q141a, q141b, q141c⟩ := isOf hZ e139 f142
 refine w_virtual X139 hx (y := yn_15) (z := yn_15) hown (mvT hZ (wd_106 hw)) (mvT hZ (wd_107 hw)) (notFace_of_selects (args := #[]) (mvT hZ (wd_109 hw))) (mvT hZ (wd_109 hw)) (mvT hZ (wd_108 hw)) (by decide) (backOf (W := 0) (rm_m15_9 l Z aZ hw [] b75 T128.heap n0 (Nat.le_trans Z0 le133) ) hZ (wd_110 hw) (wd_3 hw) (by decide) (by decide)) q141a q141c (by rw [hml]; rfl) [(.ref b75)] (lenOf pd_7 rfl) rfl (Nat.le_of_eq rfl) (hb hby at_158) (fun _ _ => ⟨rfl, e139, (by decide : 9 + 0 ≤ _), (by decide : 31 + 0 ≤ _)⟩) (pc' := 161) rfl ?_
 rintro _ _ ⟨T141, L141, k141, n141⟩ X141 ⟨Lc141, hQ141, l141, y141, z141⟩
 dsimp only [Pt.U, Pt.locs, Pt.cells, Pt.slots] at X141 l141 y141 z141 hQ141 ⊢
 subst l141 y141 z141
 obtain ⟨rfl, N141q, e141⟩ := hQ141
 have N143 := Fr.app N140 N141q
 show Runs _ _ _ _ (T141.setTop (mkF m 161 #[.val (.int p0), .val (.int p1), .val (.int p2), .val (.int p3), .val (.int p4), .val (.int p5), .val (.ref b20), .val (.ref b37), .val (.ref b56), .val (.ref b75), .val (.int (if (p4 &&& (1 : Int32)) = (0 : Int32) then (0 : Int32) else (1 : Int32))), .val (.ref b94), .val (.ref b112), .val (.ref r0_128)] [(.int (1 : Int32))]))
 refine w_ifN X141 hx (hb hby at_161) (feq (by decide : ¬ ((1 : Int32) = (0 : Int32)))).1 (pc' := 164) rfl ?_
 refine w_aload X141 hx (hb hby at_164) rfl rfl (pc' := 166) rfl ?_
 obtain ⟨cq144, kq144, q144a, q144b, q144c⟩ := isOf hZ e141 g128_1
 refine w_virtual X141 hx (y := yn_17) (z := yn_17) hown (mvT hZ (wd_116 hw)) (mvT hZ (wd_117 hw)) (notFace_of_selects (args := #[]) (mvT hZ (wd_119 hw))) (mvT hZ (wd_119 hw)) (mvT hZ (wd_118 hw)) (by decide) (backOf (W := 0) (rm_m17_11 l Z aZ hw [] r0_128 p2 T128.heap n0 (Nat.le_trans Z0 le133) g128_4) hZ (wd_120 hw) (wd_78 hw) (by decide) (by decide)) q144a q144c (by rw [hml]; rfl) [] (lenOf pd_8 rfl) rfl (Nat.le_of_eq rfl) (hb hby at_166) (fun _ _ => ⟨rfl, e141, (by decide : 9 + 0 ≤ _), (by decide : 31 + 0 ≤ _)⟩) (pc' := 169) rfl ?_
 rintro _ _ ⟨T144, L144, k144, n144⟩ X144 ⟨Lc144, hQ144, l144, y144, z144⟩
 dsimp only [Pt.U, Pt.locs, Pt.cells, Pt.slots] at X144 l144 y144 z144 hQ144 ⊢
 subst l144 y144 z144
 obtain ⟨rfl, N144q, e144⟩ := hQ144
 have N145 := Fr.app N143 N144q
 show Runs _ _ _ _ (T144.setTop (mkF m 169 #[.val (.int p0), .val (.int p1), .val (.int p2), .val (.int p3), .val (.int p4), .val (.int p5), .val (.ref b20), .val (.ref b37), .val (.ref b56), .val (.ref b75), .val (.int (if (p4 &&& (1 : Int32)) = (0 : Int32) then (0 : Int32) else (1 : Int32))), .val (.ref b94), .val (.ref b112), .val (.ref r0_128)] [(.int p2)]))
 refine w_iloadN X144 hx (hb hby at_169) rfl (pc' := 170) rfl ?_
 refine w_icN X144 hx (hb hby at_170) (teq (rfl : p2 = p2)).2 (pc' := 173) rfl ?_
 refine w_aload X144 hx (hb hby at_173) rfl rfl (pc' := 175) rfl ?_
 obtain ⟨cq146, kq146, q146a, q146b, q146c⟩ := isOf hZ e144 g128_1
 refine w_virtual X144 hx (y := yn_18) (z := yn_18) hown (mvT hZ (wd_121 hw)) (mvT hZ (wd_122 hw)) (notFace_of_selects (args := #[]) (mvT hZ (wd_124 hw))) (mvT hZ (wd_124 hw)) (mvT hZ (wd_123 hw)) (by decide) (backOf (W := 0) (rm_m18_12 l Z aZ hw [] r0_128 (if (p4 &&& (1 : Int32)) = (0 : Int32) then (0 : Int32) else (1 : Int32)) T128.heap n0 (Nat.le_trans Z0 le133) g128_5 nar_ite') hZ (wd_125 hw) (wd_78 hw) (by decide) (by decide)) q146a q146c (by rw [hml]; rfl) [] (lenOf pd_9 rfl) rfl (Nat.le_of_eq rfl) (hb hby at_175) (fun _ _ => ⟨rfl, e144, (by decide : 9 + 0 ≤ _), (by decide : 31 + 0 ≤ _)⟩) (pc' := 178) rfl ?_
 rintro _ _ ⟨T146, L146, k146, n146⟩ X146 ⟨Lc146, hQ146, l146, y146, z146⟩
 dsimp only [Pt.U, Pt.locs, Pt.cells, Pt.slots] at X146 l146 y146 z146 hQ146 ⊢
 subst l146 y146 z146
 obtain ⟨rfl, N146q, e146⟩ := hQ146
 have N147 := Fr.app N145 N146q
 show Runs _ _ _ _ (T146.setTop (mkF m 178 #[.val (.int p0), .val (.int p1), .val (.int p2), .val (.int p3), .val (.int p4), .val (.int p5), .val (.ref b20), .val (.ref b37), .val (.ref b56), .val (.ref b75), .val (.int (if (p4 &&& (1 : Int32)) = (0 : Int32) then (0 : Int32) else (1 : Int32))), .val (.ref b94), .val (.ref b112), .val (.ref r0_128)] [(.int (if (p4 &&& (1 : Int32)) = (0 : Int32) then (0 : Int32) else (1 : Int32)))]))
 refine w_iload X146 hx (hb hby at_178) rfl (pc' := 180) rfl ?_
 refine w_icN X146 hx (hb hby at_180) (teq (rfl : (if (p4 &&& (1 : Int32)) = (0 : Int32) then (0 : Int32) else (1 : Int32)) = (if (p4 &&& (1 : Int32)) = (0 : Int32) then (0 : Int32) else (1 : Int32)))).2 (pc' := 183) rfl ?_
 refine w_iconst X146 hx (hb hby at_183) (v := (1 : Int32)) rfl (pc' := 184) rfl ?_
 refine w_goto X146 hx (hb hby at_184) (pc' := 188) (by decide) (by decide) ?_
 exact w_done X146 hlk (v := some (.int (1 : Int32))) e146 (fun h => by rw [hret] at h; cases h) (fun fs hr => retN X146 hx (t := .boolean) hret (by simp) (hb hby at_188) hr) (by decide) (by decide) (⟨rfl, N147⟩)
set_option maxRecDepth 65536 in
set_option maxHeartbeats 40000000 in
theorem comes_1 {Post : Tables → Env → Array Value → State → Outcome → State → Prop} (hpost : ∀ tb e args s v u, (limb_1_1.after args s (.returned v) u = true ∧ limb_1_2.after args s (.returned v) u = true ∧ True) → FrameEnd s (.returned v) u (Jvm.fieldLocs frame_1_writes args s ++ Jvm.arrayLocs frame_1_arrays args s ++ Jvm.staticLocs frame_1_statics s) 32 128 → Post tb e args s (.returned v) u) :
    ArmFor flags0 classFile x code maxLocals ret World_1 tables_1 room_1 Calls_1 rest_1 Pre_1 Post := by
  intro l hfl _ _ p e ha hc hk s m args below hf hA hF happ hP
  obtain ⟨hcalls, hrest, hpre⟩ := hP
  obtain ⟨-, -, -, hnamed, -, -, -, hat⟩ := (Spec.applies_iff hf).mp happ
  obtain ⟨hg, hn⟩ := and_e (Cond.before_iff.mp (show (Jvm.Cond.and given_1 narrow_1).before args s = true from hpre))
  obtain ⟨gv1, gv2⟩ := and_e hg
  obtain ⟨gv3, gv4⟩ := and_e gv2
  obtain ⟨gv5, gv6⟩ := and_e gv4
  obtain ⟨gv7, gv8⟩ := and_e gv6
  obtain ⟨gv9, gv10⟩ := and_e gv8
  obtain ⟨gv11, gv12⟩ := and_e gv10
  obtain ⟨w0, w1, w2, w3, w4, w5, rfl⟩ : ∃ w0 w1 w2 w3 w4 w5 : Value, args = #[w0, w1, w2, w3, w4, w5] := by
    have hs : args.size = 6 := by simpa [Cond.value, given_1] using gv1
    obtain ⟨L⟩ := args
    match L, hs with
    | [w0, w1, w2, w3, w4, w5], _ => exact ⟨w0, w1, w2, w3, w4, w5, rfl⟩
  have hw := fun d (hd : d ∈ tables_1) => atoms_spec (ws := Jvm.Cond.code x code maxLocals ret :: tables_1) hat d (List.mem_cons_of_mem _ hd)
  have hfit : Fit s := fun {y c} hc i hi => by
    obtain ⟨ha, rfl⟩ := Array.getElem?_eq_some_iff.mp hc
    have q := List.all_eq_true.mp ((Array.all_eq_true_iff_forall_mem.mp hF) _ (Array.getElem_mem ha)) i (List.mem_range.mpr hi)
    simpa [Array.getElem?_eq_getElem hi] using q
  obtain ⟨hsets, hown0⟩ := atoms_of _ (rest_1_c_eq ▸ (show rest_1_c.before _ s = true from hrest))
  have hr0 := Cond.before_iff.mp hown0
  obtain ⟨i0, ei0⟩ := is_v gv3
  obtain rfl : w0 = (.int i0) := Option.some.inj ei0
  obtain ⟨i1, ei1⟩ := is_v gv5
  obtain rfl : w1 = (.int i1) := Option.some.inj ei1
  obtain ⟨i2, ei2⟩ := is_v gv7
  obtain rfl : w2 = (.int i2) := Option.some.inj ei2
  obtain ⟨i3, ei3⟩ := is_v gv9
  obtain rfl : w3 = (.int i3) := Option.some.inj ei3
  obtain ⟨i4, ei4⟩ := is_v gv11
  obtain rfl : w4 = (.int i4) := Option.some.inj ei4
  obtain ⟨i5, ei5⟩ := is_v gv12
  obtain rfl : w5 = (.int i5) := Option.some.inj ei5
  obtain ⟨G_COMPACT_STRINGS, ev_G_COMPACT_STRINGS⟩ := is_v (Cond.before_iff.mp (hsets _ (List.mem_of_getElem? (i := 1) rfl)))
  have S_COMPACT_STRINGS := Sta.start ev_G_COMPACT_STRINGS (Or.inl (hsets _ (List.mem_of_getElem? (i := 0) rfl)))
  have hP_2 : ¬ (G_COMPACT_STRINGS = (0 : Int32)) := fun q => by
    have h9 := not_v (Cond.before_iff.mp (hsets _ (List.mem_of_getElem? (i := 2) rfl)))
    rw [eq_i ev_G_COMPACT_STRINGS (Term.int_eval 0) (by rw [q])] at h9
    cases h9
  obtain ⟨n, o, h1, h2, h3, _, L, rfl, ⟨rfl, N⟩, hq⟩ := rm_law l s _ hw tables_1 i0 i1 i2 i3 i4 i5 G_COMPACT_STRINGS s.heap s.heap.size (Nat.le_refl _) S_COMPACT_STRINGS (Old.start s) hP_2 p e ha hc hk s m _ below hf ((Spec.applies_iff_loose hf).mp happ).1 ⟨rfl, State.Warmed39.refl s, rfl⟩ trivial
  refine ⟨n, _, h1, h2, h3, hpost _ _ _ _ _ _ ⟨Cond.after_iff.mpr rfl, Cond.after_iff.mpr (eq_i res_at (Term.int_eval (1)) rfl), trivial⟩ ⟨hq.1, hq.2.1, (hq.2.2.sift fun y hy => Or.inr (N y hy)).mono (by decide) (by decide)⟩⟩
theorem main_1_1 : Claimed_1_1 := comes_1 fun _ _ _ _ _ _ h hF => ⟨h.1, hF⟩
theorem main_1_2 : Claimed_1_2 := comes_1 fun _ _ _ _ _ _ h hF => ⟨h.2.1, hF⟩
end Jvm.Pilot.@@N@@
namespace Jvm.Pilot.@@N@@
open Jvm Jvm.ClassFile Sem Op Lib Jvm.Free Jvm.Stand Jvm.Pilot.@@N@@.Jvm.D
/-! MADE BY PROGRAM (witnessworld.py) out of the Statement's table words and the real class files: 23 classes; the members and pool entries that the words name. The judged class is class 1, her method 1. -/
namespace start1
open Jvm.ClassFile
def u (s : String) : CpInfo := .utf8 (stringToUtf16 s)
/-- a pool by its gaps: so many unusable entries, then the entry; so many at the end -/
def gap : Nat → List CpInfo → List CpInfo
  | 0, r => r
  | n + 1, r => .unusable :: gap n r
def poolList (es : List (Nat × CpInfo)) (last : Nat) : List CpInfo := es.foldr (fun e r => gap e.1 (e.2 :: r)) (gap last [])
def pool (es : List (Nat × CpInfo)) (last : Nat) : Array CpInfo := ⟨poolList es last⟩
def fileOf (pool : Array CpInfo) (this : Nat) (attrs : Array Attribute := #[]) (ms : Array MethodInfo := #[]) (fl : Nat := 33) (sup : Nat := 0) (ifs : Array Nat := #[]) (fds : Array FieldInfo := #[]) : ClassFile where
  minorVersion := 0
  majorVersion := 65
  constantPool := pool
  accessFlags := fl
  thisClass := this
  superClass := sup
  interfaces := ifs
  fields := fds
  methods := ms
  attributes := attrs
def plain (name : String) (sup : Option ClassId) : Class where
  name := name
  kind := .ordinary
  loader := none
  accessFlags := 33
  super := sup
  interfaces := #[]
  cf := none
  fields := #[]
  methods := #[]
  instanceTypes := #[]
  staticTypes := #[]
  resolved := #[]
  callSites := []
  init := .initialized
  statics := none
  mirror := none

def pool0 : Array CpInfo := pool [(5, u "<init>"), (0, u "()V"), (1, .class_ 10), (1, u "java/lang/Object")] 113

def k0c0 : Code := { maxStack := 0, maxLocals := 1, code := object_method_1_code, exceptionTable := #[], attributes := #[] }
def k0m0 : Method := { name := "<init>", desc := "()V", sig := { parameters := [], returnType := none }, accessFlags := 1, code := some k0c0 }
/-- java/lang/Object -/
def k0 : Class := { plain "java/lang/Object" none with
  accessFlags := 33
  interfaces := #[]
  cf := some (fileOf pool0 8 #[] #[{ accessFlags := 1, nameIndex := 5, descriptorIndex := 6, attributes := #[] }] 33 0 #[] #[])
  fields := #[]
  methods := #[k0m0]
  instanceTypes := #[]
  staticTypes := #[]
  resolved := Array.replicate 124 none
  statics := none }

def pool1 : Array CpInfo := pool [(2, .class_ 4), (1, u "java/lang/Object"), (0, u "<init>"), (0, u "()V"), (0, .class_ 8), (0, u "java/lang/String"), (0, .methodref 7 10), (0, .nameAndType 5 11), (0, u "([C)V"), (0, .class_ 13), (0, u "com/example/roundkeeper/roundkeeper/ruleset/ranked/Fighter"), (0, .methodref 12 15), (0, .nameAndType 5 16), (0, u "(Ljava/lang/String;Ljava/lang/String;IILcom/example/roundkeeper/roundkeeper/ruleset/ranked/Reach;IIII)V"), (0, .class_ 18), (0, u "com/example/roundkeeper/roundkeeper/ruleset/ranked/Slot"), (0, .methodref 17 20), (0, .nameAndType 5 21), (0, u "(Lcom/example/roundkeeper/roundkeeper/ruleset/ranked/Fighter;I)V"), (0, .methodref 17 23), (0, .nameAndType 24 25), (0, u "turn"), (0, u "(Z)Lcom/example/roundkeeper/roundkeeper/Turn;"), (0, .methodref 27 28), (0, .class_ 29), (0, .nameAndType 30 31), (0, u "com/example/roundkeeper/roundkeeper/Turn"), (0, u "name"), (0, u "()Ljava/lang/String;"), (0, .methodref 7 33), (0, .nameAndType 34 35), (0, u "equals"), (0, u "(Ljava/lang/Object;)Z"), (0, .methodref 27 37), (0, .nameAndType 38 31), (0, u "side"), (0, .methodref 27 40), (0, .nameAndType 41 42), (0, u "initiative"), (0, u "()I"), (0, .methodref 27 44), (0, .nameAndType 45 46), (0, u "simultaneous"), (0, u "()Z"), (0, .class_ 48), (0, u "com/example/roundkeeper/roundkeeper/ruleset/ranked/SlotTurnPinLaw"), (2, u "law"), (0, u "(IIIIII)Z")] 5

def k1m0 : Method := { name := "<init>", desc := "()V", sig := { parameters := [], returnType := none }, accessFlags := 1, code := none }
def k1c1 : Code := { maxStack := 11, maxLocals := 14, code := code, exceptionTable := #[], attributes := #[] }
def k1m1 : Method := { name := "law", desc := "(IIIIII)Z", sig := { parameters := [.int, .int, .int, .int, .int, .int], returnType := some .boolean }, accessFlags := 9, code := some k1c1 }
/-- com/example/roundkeeper/roundkeeper/ruleset/ranked/SlotTurnPinLaw -/
def k1 : Class := { plain "com/example/roundkeeper/roundkeeper/ruleset/ranked/SlotTurnPinLaw" (some 0) with
  accessFlags := 49
  interfaces := #[]
  cf := some (fileOf pool1 47 #[] #[{ accessFlags := 1, nameIndex := 5, descriptorIndex := 6, attributes := #[] }, { accessFlags := 9, nameIndex := 51, descriptorIndex := 52, attributes := #[] }] 49 2 #[] #[])
  fields := #[]
  methods := #[k1m0, k1m1]
  instanceTypes := #[]
  staticTypes := #[]
  resolved := Array.replicate 58 none
  statics := none }

def pool2 : Array CpInfo := pool [(1, .class_ 2), (0, u "java/io/Serializable"), (0, .class_ 4), (0, u "java/lang/Object")] 2

/-- java/io/Serializable -/
def k2 : Class := { plain "java/io/Serializable" (some 0) with
  accessFlags := 1537
  interfaces := #[]
  cf := some (fileOf pool2 1 #[] #[] 1537 3 #[] #[])
  fields := #[]
  methods := #[]
  instanceTypes := #[]
  staticTypes := #[]
  resolved := Array.replicate 7 none
  statics := none }

def pool3 : Array CpInfo := pool [(1, .class_ 2), (0, u "java/lang/Comparable"), (0, .class_ 4), (0, u "java/lang/Object")] 7

/-- java/lang/Comparable -/
def k3 : Class := { plain "java/lang/Comparable" (some 0) with
  accessFlags := 1537
  interfaces := #[]
  cf := some (fileOf pool3 1 #[] #[] 1537 3 #[] #[])
  fields := #[]
  methods := #[]
  instanceTypes := #[]
  staticTypes := #[]
  resolved := Array.replicate 12 none
  statics := none }

def pool4 : Array CpInfo := pool [(2, .class_ 4), (1, u "java/lang/CharSequence"), (42, .class_ 48), (0, u "java/lang/CharSequence$1CodePointIterator"), (10, .class_ 60), (0, u "java/lang/CharSequence$1CharIterator"), (5, .class_ 67), (0, u "java/lang/Object")] 63

/-- java/lang/CharSequence -/
def k4 : Class := { plain "java/lang/CharSequence" (some 0) with
  accessFlags := 1537
  interfaces := #[]
  cf := some (fileOf pool4 2 #[.nestMembers #[47, 59]] #[] 1537 66 #[] #[])
  fields := #[]
  methods := #[]
  instanceTypes := #[]
  staticTypes := #[]
  resolved := Array.replicate 131 none
  statics := none }

def pool5 : Array CpInfo := pool [(1, .class_ 2), (0, u "java/lang/constant/Constable"), (0, .class_ 4), (0, u "java/lang/Object")] 6

/-- java/lang/constant/Constable -/
def k5 : Class := { plain "java/lang/constant/Constable" (some 0) with
  accessFlags := 1537
  interfaces := #[]
  cf := some (fileOf pool5 1 #[] #[] 1537 3 #[] #[])
  fields := #[]
  methods := #[]
  instanceTypes := #[]
  staticTypes := #[]
  resolved := Array.replicate 11 none
  statics := none }

def pool6 : Array CpInfo := pool [(1, .class_ 2), (0, u "java/lang/constant/ConstantDesc"), (0, .class_ 4), (0, u "java/lang/Object")] 32

/-- java/lang/constant/ConstantDesc -/
def k6 : Class := { plain "java/lang/constant/ConstantDesc" (some 0) with
  accessFlags := 1537
  interfaces := #[]
  cf := some (fileOf pool6 1 #[] #[] 1537 3 #[] #[])
  fields := #[]
  methods := #[]
  instanceTypes := #[]
  staticTypes := #[]
  resolved := Array.replicate 37 none
  statics := none }

def pool7 : Array CpInfo := pool [(1, .methodref 2 3), (0, .class_ 4), (0, .nameAndType 5 6), (0, u "java/lang/Object"), (0, u "<init>"), (0, u "()V"), (2, .fieldref 10 11), (0, .class_ 12), (0, .nameAndType 13 14), (0, u "java/lang/String"), (0, u "value"), (0, u "[B"), (0, .fieldref 10 16), (0, .nameAndType 17 18), (0, u "coder"), (0, u "B"), (2, u "hash"), (0, u "I"), (2, u "hashIsZero"), (0, u "Z"), (0, .methodref 10 28), (0, .nameAndType 5 29), (0, u "([CIILjava/lang/Void;)V"), (8, .fieldref 10 39), (0, .nameAndType 40 26), (0, u "COMPACT_STRINGS"), (1, .class_ 44), (1, u "java/lang/StringUTF16"), (0, u "compress"), (1, .methodref 42 48), (0, .nameAndType 49 50), (0, u "coderFromArrayLen"), (0, u "([BI)B"), (126, .methodref 42 178), (0, .nameAndType 45 179), (0, u "([CII)[B"), (363, u "equals"), (29, u "(Ljava/lang/Object;)Z"), (1, .class_ 576), (0, u "java/lang/CharSequence"), (22, u "CASE_INSENSITIVE_ORDER"), (0, u "Ljava/util/Comparator;"), (409, u "([C)V"), (90, u "serialPersistentFields"), (0, u "[Ljava/io/ObjectStreamField;"), (0, .class_ 1104), (0, u "java/lang/String$CaseInsensitiveComparator"), (1, .class_ 1107), (0, u "java/io/Serializable"), (0, .class_ 1109), (0, u "java/lang/Comparable"), (0, .class_ 1111), (0, u "java/lang/constant/Constable"), (0, .class_ 1113), (0, u "java/lang/constant/ConstantDesc"), (2, u "serialVersionUID"), (0, u "J"), (3, u "REPL"), (0, u "C"), (2, u "LATIN1"), (1, u "UTF16")] 323

def k7m0 : Method := { name := "<init>", desc := "()V", sig := { parameters := [], returnType := none }, accessFlags := 1, code := none }
def k7c1 : Code := { maxStack := 5, maxLocals := 2, code := jdk_42_method_3_code, exceptionTable := #[], attributes := #[] }
def k7m1 : Method := { name := "<init>", desc := "([C)V", sig := { parameters := [(.array .char)], returnType := none }, accessFlags := 1, code := some k7c1 }
def k7c2 : Code := { maxStack := 2, maxLocals := 3, code := jdk_42_method_66_code, exceptionTable := #[], attributes := #[] }
def k7m2 : Method := { name := "equals", desc := "(Ljava/lang/Object;)Z", sig := { parameters := [(.object "java/lang/Object")], returnType := some .boolean }, accessFlags := 1, code := some k7c2 }
def k7c3 : Code := { maxStack := 4, maxLocals := 6, code := jdk_42_method_149_code, exceptionTable := #[], attributes := #[] }
def k7m3 : Method := { name := "<init>", desc := "([CIILjava/lang/Void;)V", sig := { parameters := [(.array .char), .int, .int, (.object "java/lang/Void")], returnType := none }, accessFlags := 2, code := some k7c3 }
/-- java/lang/String -/
def k7 : Class := { plain "java/lang/String" (some 0) with
  accessFlags := 49
  interfaces := #[2, 3, 4, 5, 6]
  cf := some (fileOf pool7 10 #[.nestMembers #[1103]] #[{ accessFlags := 1, nameIndex := 5, descriptorIndex := 6, attributes := #[] }, { accessFlags := 1, nameIndex := 5, descriptorIndex := 1010, attributes := #[] }, { accessFlags := 1, nameIndex := 543, descriptorIndex := 573, attributes := #[] }, { accessFlags := 2, nameIndex := 5, descriptorIndex := 29, attributes := #[] }] 49 2 #[1106, 1108, 575, 1110, 1112] #[{ accessFlags := 18, nameIndex := 13, descriptorIndex := 14, attributes := #[] }, { accessFlags := 18, nameIndex := 17, descriptorIndex := 18, attributes := #[] }, { accessFlags := 2, nameIndex := 21, descriptorIndex := 22, attributes := #[] }, { accessFlags := 2, nameIndex := 25, descriptorIndex := 26, attributes := #[] }, { accessFlags := 26, nameIndex := 1116, descriptorIndex := 1117, attributes := #[] }, { accessFlags := 24, nameIndex := 40, descriptorIndex := 26, attributes := #[] }, { accessFlags := 26, nameIndex := 1101, descriptorIndex := 1102, attributes := #[] }, { accessFlags := 26, nameIndex := 1121, descriptorIndex := 1122, attributes := #[] }, { accessFlags := 25, nameIndex := 599, descriptorIndex := 600, attributes := #[] }, { accessFlags := 24, nameIndex := 1125, descriptorIndex := 18, attributes := #[] }, { accessFlags := 24, nameIndex := 1127, descriptorIndex := 18, attributes := #[] }])
  fields := #[{ name := "value", type := (.array .byte), accessFlags := 18, slot := 0, constantValue := 0 }, { name := "coder", type := .byte, accessFlags := 18, slot := 1, constantValue := 0 }, { name := "hash", type := .int, accessFlags := 2, slot := 2, constantValue := 0 }, { name := "hashIsZero", type := .boolean, accessFlags := 2, slot := 3, constantValue := 0 }, { name := "serialVersionUID", type := .long, accessFlags := 26, slot := 0, constantValue := 0 }, { name := "COMPACT_STRINGS", type := .boolean, accessFlags := 24, slot := 1, constantValue := 0 }, { name := "serialPersistentFields", type := (.array (.object "java/io/ObjectStreamField")), accessFlags := 26, slot := 2, constantValue := 0 }, { name := "REPL", type := .char, accessFlags := 26, slot := 3, constantValue := 0 }, { name := "CASE_INSENSITIVE_ORDER", type := (.object "java/util/Comparator"), accessFlags := 25, slot := 4, constantValue := 0 }, { name := "LATIN1", type := .byte, accessFlags := 24, slot := 5, constantValue := 0 }, { name := "UTF16", type := .byte, accessFlags := 24, slot := 6, constantValue := 0 }]
  methods := #[k7m0, k7m1, k7m2, k7m3]
  instanceTypes := #[(.array .byte), .byte, .int, .boolean]
  staticTypes := #[.long, .boolean, (.array (.object "java/io/ObjectStreamField")), .char, (.object "java/util/Comparator"), .byte, .byte]
  resolved := Array.replicate 1451 none
  statics := some 0 }

def pool8 : Array CpInfo := pool [(6, .class_ 8), (1, u "java/lang/Object"), (0, u "<init>"), (0, u "()V"), (1, .class_ 14), (1, u "java/lang/StringUTF16"), (31, u "$assertionsDisabled"), (0, u "Z"), (13, u "HI_BYTE_SHIFT"), (0, u "I"), (2, u "LO_BYTE_SHIFT"), (49, .methodref 12 116), (0, .nameAndType 117 118), (0, u "compress"), (0, u "([CI[BII)I"), (3, u "([CII)[B"), (138, u "coderFromArrayLen"), (0, u "([BI)B"), (106, .class_ 371), (1, u "java/lang/StringUTF16$LinesSpliterator"), (58, u "MAX_LENGTH"), (196, .class_ 628), (0, u "java/lang/StringUTF16$CodePointsSpliterator"), (0, .class_ 630), (0, u "java/lang/StringUTF16$CharsSpliterator")] 4

def k8m0 : Method := { name := "<init>", desc := "()V", sig := { parameters := [], returnType := none }, accessFlags := 0, code := none }
def k8c1 : Code := { maxStack := 2, maxLocals := 2, code := jdk_52_method_15_code, exceptionTable := #[], attributes := #[] }
def k8m1 : Method := { name := "coderFromArrayLen", desc := "([BI)B", sig := { parameters := [(.array .byte), .int], returnType := some .byte }, accessFlags := 8, code := some k8c1 }
def k8c2 : Code := { maxStack := 5, maxLocals := 6, code := jdk_52_method_16_code, exceptionTable := #[], attributes := #[] }
def k8m2 : Method := { name := "compress", desc := "([CII)[B", sig := { parameters := [(.array .char), .int, .int], returnType := some (.array .byte) }, accessFlags := 9, code := some k8c2 }
def k8c3 : Code := { maxStack := 3, maxLocals := 7, code := jdk_52_method_21_code, exceptionTable := #[], attributes := #[] }
def k8m3 : Method := { name := "compress", desc := "([CI[BII)I", sig := { parameters := [(.array .char), .int, (.array .byte), .int, .int], returnType := some .int }, accessFlags := 9, code := some k8c3 }
/-- java/lang/StringUTF16 -/
def k8 : Class := { plain "java/lang/StringUTF16" (some 0) with
  accessFlags := 48
  interfaces := #[]
  cf := some (fileOf pool8 12 #[.nestMembers #[627, 629, 369]] #[{ accessFlags := 0, nameIndex := 9, descriptorIndex := 10, attributes := #[] }, { accessFlags := 8, nameIndex := 261, descriptorIndex := 262, attributes := #[] }, { accessFlags := 9, nameIndex := 117, descriptorIndex := 122, attributes := #[] }, { accessFlags := 9, nameIndex := 117, descriptorIndex := 118, attributes := #[] }] 48 6 #[] #[{ accessFlags := 26, nameIndex := 61, descriptorIndex := 62, attributes := #[] }, { accessFlags := 26, nameIndex := 65, descriptorIndex := 62, attributes := #[] }, { accessFlags := 24, nameIndex := 430, descriptorIndex := 62, attributes := #[] }, { accessFlags := 4120, nameIndex := 46, descriptorIndex := 47, attributes := #[] }])
  fields := #[{ name := "HI_BYTE_SHIFT", type := .int, accessFlags := 26, slot := 0, constantValue := 0 }, { name := "LO_BYTE_SHIFT", type := .int, accessFlags := 26, slot := 1, constantValue := 0 }, { name := "MAX_LENGTH", type := .int, accessFlags := 24, slot := 2, constantValue := 0 }, { name := "$assertionsDisabled", type := .boolean, accessFlags := 4120, slot := 3, constantValue := 0 }]
  methods := #[k8m0, k8m1, k8m2, k8m3]
  instanceTypes := #[]
  staticTypes := #[.int, .int, .int, .boolean]
  resolved := Array.replicate 635 none
  statics := none }

def pool9 : Array CpInfo := pool [(1, .methodref 2 3), (0, .class_ 4), (0, .nameAndType 5 6), (0, u "java/lang/Object"), (0, u "<init>"), (0, u "()V"), (0, .class_ 8), (0, u "java/lang/Record")] 13

def k9c0 : Code := { maxStack := 1, maxLocals := 1, code := jdk_30_method_1_code, exceptionTable := #[], attributes := #[] }
def k9m0 : Method := { name := "<init>", desc := "()V", sig := { parameters := [], returnType := none }, accessFlags := 4, code := some k9c0 }
/-- java/lang/Record -/
def k9 : Class := { plain "java/lang/Record" (some 0) with
  accessFlags := 1057
  interfaces := #[]
  cf := some (fileOf pool9 7 #[] #[{ accessFlags := 4, nameIndex := 5, descriptorIndex := 6, attributes := #[] }] 1057 2 #[] #[])
  fields := #[]
  methods := #[k9m0]
  instanceTypes := #[]
  staticTypes := #[]
  resolved := Array.replicate 22 none
  statics := none }

def pool10 : Array CpInfo := pool [(1, .methodref 2 3), (0, .class_ 4), (0, .nameAndType 5 6), (0, u "java/lang/Record"), (0, u "<init>"), (0, u "()V"), (0, .fieldref 8 9), (0, .class_ 10), (0, .nameAndType 11 12), (0, u "com/example/roundkeeper/roundkeeper/ruleset/ranked/Fighter"), (0, u "name"), (0, u "Ljava/lang/String;"), (0, .fieldref 8 14), (0, .nameAndType 15 12), (0, u "side"), (0, .fieldref 8 17), (0, .nameAndType 18 19), (0, u "index"), (0, u "I"), (0, .fieldref 8 21), (0, .nameAndType 22 19), (0, u "rank"), (0, .fieldref 8 24), (0, .nameAndType 25 26), (0, u "reach"), (0, u "Lcom/example/roundkeeper/roundkeeper/ruleset/ranked/Reach;"), (0, .fieldref 8 28), (0, .nameAndType 29 19), (0, u "skill"), (0, .fieldref 8 31), (0, .nameAndType 32 19), (0, u "actions"), (0, .fieldref 8 34), (0, .nameAndType 35 19), (0, u "hp"), (0, .fieldref 8 37), (0, .nameAndType 38 19), (0, u "armour"), (30, u "STEP"), (2, u "(Ljava/lang/String;Ljava/lang/String;IILcom/example/roundkeeper/roundkeeper/ruleset/ranked/Reach;IIII)V"), (8, u "()Ljava/lang/String;")] 29

def k10c0 : Code := { maxStack := 2, maxLocals := 10, code := prog_13_method_1_code, exceptionTable := #[], attributes := #[] }
def k10m0 : Method := { name := "<init>", desc := "(Ljava/lang/String;Ljava/lang/String;IILcom/example/roundkeeper/roundkeeper/ruleset/ranked/Reach;IIII)V", sig := { parameters := [(.object "java/lang/String"), (.object "java/lang/String"), .int, .int, (.object "com/example/roundkeeper/roundkeeper/ruleset/ranked/Reach"), .int, .int, .int, .int], returnType := none }, accessFlags := 0, code := some k10c0 }
def k10c1 : Code := { maxStack := 1, maxLocals := 1, code := prog_13_method_6_code, exceptionTable := #[], attributes := #[] }
def k10m1 : Method := { name := "name", desc := "()Ljava/lang/String;", sig := { parameters := [], returnType := some (.object "java/lang/String") }, accessFlags := 1, code := some k10c1 }
def k10c2 : Code := { maxStack := 1, maxLocals := 1, code := prog_13_method_7_code, exceptionTable := #[], attributes := #[] }
def k10m2 : Method := { name := "side", desc := "()Ljava/lang/String;", sig := { parameters := [], returnType := some (.object "java/lang/String") }, accessFlags := 1, code := some k10c2 }
/-- com/example/roundkeeper/roundkeeper/ruleset/ranked/Fighter -/
def k10 : Class := { plain "com/example/roundkeeper/roundkeeper/ruleset/ranked/Fighter" (some 9) with
  accessFlags := 48
  interfaces := #[]
  cf := some (fileOf pool10 8 #[] #[{ accessFlags := 0, nameIndex := 5, descriptorIndex := 72, attributes := #[] }, { accessFlags := 1, nameIndex := 11, descriptorIndex := 81, attributes := #[] }, { accessFlags := 1, nameIndex := 15, descriptorIndex := 81, attributes := #[] }] 48 2 #[] #[{ accessFlags := 18, nameIndex := 11, descriptorIndex := 12, attributes := #[] }, { accessFlags := 18, nameIndex := 15, descriptorIndex := 12, attributes := #[] }, { accessFlags := 18, nameIndex := 18, descriptorIndex := 19, attributes := #[] }, { accessFlags := 18, nameIndex := 22, descriptorIndex := 19, attributes := #[] }, { accessFlags := 18, nameIndex := 25, descriptorIndex := 26, attributes := #[] }, { accessFlags := 18, nameIndex := 29, descriptorIndex := 19, attributes := #[] }, { accessFlags := 18, nameIndex := 32, descriptorIndex := 19, attributes := #[] }, { accessFlags := 18, nameIndex := 35, descriptorIndex := 19, attributes := #[] }, { accessFlags := 18, nameIndex := 38, descriptorIndex := 19, attributes := #[] }, { accessFlags := 26, nameIndex := 69, descriptorIndex := 19, attributes := #[] }])
  fields := #[{ name := "name", type := (.object "java/lang/String"), accessFlags := 18, slot := 0, constantValue := 0 }, { name := "side", type := (.object "java/lang/String"), accessFlags := 18, slot := 1, constantValue := 0 }, { name := "index", type := .int, accessFlags := 18, slot := 2, constantValue := 0 }, { name := "rank", type := .int, accessFlags := 18, slot := 3, constantValue := 0 }, { name := "reach", type := (.object "com/example/roundkeeper/roundkeeper/ruleset/ranked/Reach"), accessFlags := 18, slot := 4, constantValue := 0 }, { name := "skill", type := .int, accessFlags := 18, slot := 5, constantValue := 0 }, { name := "actions", type := .int, accessFlags := 18, slot := 6, constantValue := 0 }, { name := "hp", type := .int, accessFlags := 18, slot := 7, constantValue := 0 }, { name := "armour", type := .int, accessFlags := 18, slot := 8, constantValue := 0 }, { name := "STEP", type := .int, accessFlags := 26, slot := 0, constantValue := 0 }]
  methods := #[k10m0, k10m1, k10m2]
  instanceTypes := #[(.object "java/lang/String"), (.object "java/lang/String"), .int, .int, (.object "com/example/roundkeeper/roundkeeper/ruleset/ranked/Reach"), .int, .int, .int, .int]
  staticTypes := #[.int]
  resolved := Array.replicate 111 none
  statics := none }

def pool11 : Array CpInfo := pool [(1, .methodref 2 3), (0, .class_ 4), (0, .nameAndType 5 6), (0, u "java/lang/Record"), (0, u "<init>"), (0, u "()V"), (0, .fieldref 8 9), (0, .class_ 10), (0, .nameAndType 11 12), (0, u "com/example/roundkeeper/roundkeeper/ruleset/ranked/Slot"), (0, u "fighter"), (0, u "Lcom/example/roundkeeper/roundkeeper/ruleset/ranked/Fighter;"), (0, .fieldref 8 14), (0, .nameAndType 15 16), (0, u "rank"), (0, u "I"), (0, .class_ 18), (0, u "com/example/roundkeeper/roundkeeper/Turn"), (0, .methodref 20 21), (0, .class_ 22), (0, .nameAndType 23 24), (0, u "com/example/roundkeeper/roundkeeper/ruleset/ranked/Fighter"), (0, u "name"), (0, u "()Ljava/lang/String;"), (0, .methodref 20 26), (0, .nameAndType 27 24), (0, u "side"), (0, .methodref 17 29), (0, .nameAndType 5 30), (0, u "(Ljava/lang/String;Ljava/lang/String;IZ)V"), (54, u "TIES"), (0, u "Ljava/util/Comparator;"), (6, u "ORDER"), (2, u "(Lcom/example/roundkeeper/roundkeeper/ruleset/ranked/Fighter;I)V"), (3, u "turn"), (0, u "(Z)Lcom/example/roundkeeper/roundkeeper/Turn;")] 52

def k11c0 : Code := { maxStack := 2, maxLocals := 3, code := prog_16_method_1_code, exceptionTable := #[], attributes := #[] }
def k11m0 : Method := { name := "<init>", desc := "(Lcom/example/roundkeeper/roundkeeper/ruleset/ranked/Fighter;I)V", sig := { parameters := [(.object "com/example/roundkeeper/roundkeeper/ruleset/ranked/Fighter"), .int], returnType := none }, accessFlags := 0, code := some k11c0 }
def k11c1 : Code := { maxStack := 6, maxLocals := 2, code := prog_16_method_2_code, exceptionTable := #[], attributes := #[] }
def k11m1 : Method := { name := "turn", desc := "(Z)Lcom/example/roundkeeper/roundkeeper/Turn;", sig := { parameters := [.boolean], returnType := some (.object "com/example/roundkeeper/roundkeeper/Turn") }, accessFlags := 0, code := some k11c1 }
/-- com/example/roundkeeper/roundkeeper/ruleset/ranked/Slot -/
def k11 : Class := { plain "com/example/roundkeeper/roundkeeper/ruleset/ranked/Slot" (some 9) with
  accessFlags := 48
  interfaces := #[]
  cf := some (fileOf pool11 8 #[] #[{ accessFlags := 0, nameIndex := 5, descriptorIndex := 96, attributes := #[] }, { accessFlags := 0, nameIndex := 100, descriptorIndex := 101, attributes := #[] }] 48 2 #[] #[{ accessFlags := 18, nameIndex := 11, descriptorIndex := 12, attributes := #[] }, { accessFlags := 18, nameIndex := 15, descriptorIndex := 16, attributes := #[] }, { accessFlags := 24, nameIndex := 85, descriptorIndex := 86, attributes := #[] }, { accessFlags := 24, nameIndex := 93, descriptorIndex := 86, attributes := #[] }])
  fields := #[{ name := "fighter", type := (.object "com/example/roundkeeper/roundkeeper/ruleset/ranked/Fighter"), accessFlags := 18, slot := 0, constantValue := 0 }, { name := "rank", type := .int, accessFlags := 18, slot := 1, constantValue := 0 }, { name := "TIES", type := (.object "java/util/Comparator"), accessFlags := 24, slot := 0, constantValue := 0 }, { name := "ORDER", type := (.object "java/util/Comparator"), accessFlags := 24, slot := 1, constantValue := 0 }]
  methods := #[k11m0, k11m1]
  instanceTypes := #[(.object "com/example/roundkeeper/roundkeeper/ruleset/ranked/Fighter"), .int]
  staticTypes := #[(.object "java/util/Comparator"), (.object "java/util/Comparator")]
  resolved := Array.replicate 154 none
  statics := none }

def pool12 : Array CpInfo := pool [(1, .methodref 2 3), (0, .class_ 4), (0, .nameAndType 5 6), (0, u "java/lang/Record"), (0, u "<init>"), (0, u "()V"), (0, .fieldref 8 9), (0, .class_ 10), (0, .nameAndType 11 12), (0, u "com/example/roundkeeper/roundkeeper/Turn"), (0, u "name"), (0, u "Ljava/lang/String;"), (0, .fieldref 8 14), (0, .nameAndType 15 12), (0, u "side"), (0, .fieldref 8 17), (0, .nameAndType 18 19), (0, u "initiative"), (0, u "I"), (0, .fieldref 8 21), (0, .nameAndType 22 23), (0, u "simultaneous"), (0, u "Z"), (2, u "(Ljava/lang/String;Ljava/lang/String;IZ)V"), (16, u "()Ljava/lang/String;"), (0, u "()I"), (1, u "()Z")] 23

def k12c0 : Code := { maxStack := 2, maxLocals := 5, code := prog_3_method_2_code, exceptionTable := #[], attributes := #[] }
def k12m0 : Method := { name := "<init>", desc := "(Ljava/lang/String;Ljava/lang/String;IZ)V", sig := { parameters := [(.object "java/lang/String"), (.object "java/lang/String"), .int, .boolean], returnType := none }, accessFlags := 1, code := some k12c0 }
def k12c1 : Code := { maxStack := 1, maxLocals := 1, code := prog_3_method_6_code, exceptionTable := #[], attributes := #[] }
def k12m1 : Method := { name := "name", desc := "()Ljava/lang/String;", sig := { parameters := [], returnType := some (.object "java/lang/String") }, accessFlags := 1, code := some k12c1 }
def k12c2 : Code := { maxStack := 1, maxLocals := 1, code := prog_3_method_7_code, exceptionTable := #[], attributes := #[] }
def k12m2 : Method := { name := "side", desc := "()Ljava/lang/String;", sig := { parameters := [], returnType := some (.object "java/lang/String") }, accessFlags := 1, code := some k12c2 }
def k12c3 : Code := { maxStack := 1, maxLocals := 1, code := prog_3_method_8_code, exceptionTable := #[], attributes := #[] }
def k12m3 : Method := { name := "initiative", desc := "()I", sig := { parameters := [], returnType := some .int }, accessFlags := 1, code := some k12c3 }
def k12c4 : Code := { maxStack := 1, maxLocals := 1, code := prog_3_method_9_code, exceptionTable := #[], attributes := #[] }
def k12m4 : Method := { name := "simultaneous", desc := "()Z", sig := { parameters := [], returnType := some .boolean }, accessFlags := 1, code := some k12c4 }
/-- com/example/roundkeeper/roundkeeper/Turn -/
def k12 : Class := { plain "com/example/roundkeeper/roundkeeper/Turn" (some 9) with
  accessFlags := 49
  interfaces := #[]
  cf := some (fileOf pool12 8 #[] #[{ accessFlags := 1, nameIndex := 5, descriptorIndex := 26, attributes := #[] }, { accessFlags := 1, nameIndex := 11, descriptorIndex := 43, attributes := #[] }, { accessFlags := 1, nameIndex := 15, descriptorIndex := 43, attributes := #[] }, { accessFlags := 1, nameIndex := 18, descriptorIndex := 44, attributes := #[] }, { accessFlags := 1, nameIndex := 22, descriptorIndex := 46, attributes := #[] }] 49 2 #[] #[{ accessFlags := 18, nameIndex := 11, descriptorIndex := 12, attributes := #[] }, { accessFlags := 18, nameIndex := 15, descriptorIndex := 12, attributes := #[] }, { accessFlags := 18, nameIndex := 18, descriptorIndex := 19, attributes := #[] }, { accessFlags := 18, nameIndex := 22, descriptorIndex := 23, attributes := #[] }])
  fields := #[{ name := "name", type := (.object "java/lang/String"), accessFlags := 18, slot := 0, constantValue := 0 }, { name := "side", type := (.object "java/lang/String"), accessFlags := 18, slot := 1, constantValue := 0 }, { name := "initiative", type := .int, accessFlags := 18, slot := 2, constantValue := 0 }, { name := "simultaneous", type := .boolean, accessFlags := 18, slot := 3, constantValue := 0 }]
  methods := #[k12m0, k12m1, k12m2, k12m3, k12m4]
  instanceTypes := #[(.object "java/lang/String"), (.object "java/lang/String"), .int, .boolean]
  staticTypes := #[]
  resolved := Array.replicate 70 none
  statics := none }

def pool13 : Array CpInfo := pool [(4, .class_ 6), (1, u "java/lang/Object"), (0, u "<init>"), (0, u "()V"), (5, .class_ 16), (1, u "java/lang/StringLatin1"), (104, u "$assertionsDisabled"), (0, u "Z"), (98, .class_ 223), (1, u "java/lang/StringLatin1$LinesSpliterator"), (166, .class_ 391), (0, u "java/lang/StringLatin1$CharsSpliterator")] 3

def k13m0 : Method := { name := "<init>", desc := "()V", sig := { parameters := [], returnType := none }, accessFlags := 0, code := none }
/-- java/lang/StringLatin1 -/
def k13 : Class := { plain "java/lang/StringLatin1" (some 0) with
  accessFlags := 48
  interfaces := #[]
  cf := some (fileOf pool13 14 #[.nestMembers #[390, 221]] #[{ accessFlags := 0, nameIndex := 7, descriptorIndex := 8, attributes := #[] }] 48 4 #[] #[{ accessFlags := 4120, nameIndex := 121, descriptorIndex := 122, attributes := #[] }])
  fields := #[{ name := "$assertionsDisabled", type := .boolean, accessFlags := 4120, slot := 0, constantValue := 0 }]
  methods := #[k13m0]
  instanceTypes := #[]
  staticTypes := #[.boolean]
  resolved := Array.replicate 395 none
  statics := none }

def pool14 : Array CpInfo := pool [(2, .class_ 4), (1, u "java/lang/Object"), (0, u "<init>"), (0, u "()V"), (17, .class_ 26), (1, u "jdk/internal/util/Preconditions"), (28, .class_ 56), (0, u "jdk/internal/util/Preconditions$4"), (57, .class_ 115), (0, u "jdk/internal/util/Preconditions$1"), (7, u "SIOOBE_FORMATTER"), (0, u "Ljava/util/function/BiFunction;"), (0, .class_ 126), (0, u "jdk/internal/util/Preconditions$2"), (3, u "AIOOBE_FORMATTER"), (0, .class_ 132), (0, u "jdk/internal/util/Preconditions$3"), (3, u "IOOBE_FORMATTER")] 57

def k14m0 : Method := { name := "<init>", desc := "()V", sig := { parameters := [], returnType := none }, accessFlags := 1, code := none }
/-- jdk/internal/util/Preconditions -/
def k14 : Class := { plain "jdk/internal/util/Preconditions" (some 0) with
  accessFlags := 33
  interfaces := #[]
  cf := some (fileOf pool14 24 #[.nestMembers #[55, 131, 125, 114]] #[{ accessFlags := 1, nameIndex := 5, descriptorIndex := 6, attributes := #[] }] 33 2 #[] #[{ accessFlags := 25, nameIndex := 123, descriptorIndex := 124, attributes := #[] }, { accessFlags := 25, nameIndex := 130, descriptorIndex := 124, attributes := #[] }, { accessFlags := 25, nameIndex := 136, descriptorIndex := 124, attributes := #[] }])
  fields := #[{ name := "SIOOBE_FORMATTER", type := (.object "java/util/function/BiFunction"), accessFlags := 25, slot := 0, constantValue := 0 }, { name := "AIOOBE_FORMATTER", type := (.object "java/util/function/BiFunction"), accessFlags := 25, slot := 1, constantValue := 0 }, { name := "IOOBE_FORMATTER", type := (.object "java/util/function/BiFunction"), accessFlags := 25, slot := 2, constantValue := 0 }]
  methods := #[k14m0]
  instanceTypes := #[]
  staticTypes := #[(.object "java/util/function/BiFunction"), (.object "java/util/function/BiFunction"), (.object "java/util/function/BiFunction")]
  resolved := Array.replicate 194 none
  statics := some 1 }

def pool15 : Array CpInfo := pool [(9, u "<init>"), (6, .class_ 18), (1, u "java/lang/Object"), (0, u "()V"), (1, .class_ 23), (1, u "jdk/internal/util/ArraysSupport"), (0, u "LOG2_ARRAY_LONG_INDEX_SCALE"), (0, u "I"), (2, u "U"), (0, u "Ljdk/internal/misc/Unsafe;"), (8, u "BIG_ENDIAN"), (0, u "Z"), (8, u "LOG2_BYTE_BIT_SIZE"), (4, u "LOG2_ARRAY_INT_INDEX_SCALE"), (54, u "JLA"), (0, u "Ljdk/internal/access/JavaLangAccess;"), (11, u "LOG2_ARRAY_BOOLEAN_INDEX_SCALE"), (9, u "LOG2_ARRAY_BYTE_INDEX_SCALE"), (5, u "LOG2_ARRAY_CHAR_INDEX_SCALE"), (5, u "LOG2_ARRAY_SHORT_INDEX_SCALE"), (18, u "LOG2_ARRAY_FLOAT_INDEX_SCALE"), (24, u "LOG2_ARRAY_DOUBLE_INDEX_SCALE"), (89, u "T_BOOLEAN"), (2, u "T_CHAR"), (1, u "T_FLOAT"), (1, u "T_DOUBLE"), (1, u "T_BYTE"), (1, u "T_SHORT"), (1, u "T_INT"), (1, u "T_LONG"), (1, u "SOFT_MAX_ARRAY_LENGTH")] 83

def k15m0 : Method := { name := "<init>", desc := "()V", sig := { parameters := [], returnType := none }, accessFlags := 2, code := none }
/-- jdk/internal/util/ArraysSupport -/
def k15 : Class := { plain "jdk/internal/util/ArraysSupport" (some 0) with
  accessFlags := 33
  interfaces := #[]
  cf := some (fileOf pool15 21 #[] #[{ accessFlags := 2, nameIndex := 9, descriptorIndex := 19, attributes := #[] }] 33 16 #[] #[{ accessFlags := 24, nameIndex := 28, descriptorIndex := 29, attributes := #[] }, { accessFlags := 26, nameIndex := 38, descriptorIndex := 39, attributes := #[] }, { accessFlags := 25, nameIndex := 121, descriptorIndex := 25, attributes := #[] }, { accessFlags := 25, nameIndex := 131, descriptorIndex := 25, attributes := #[] }, { accessFlags := 25, nameIndex := 137, descriptorIndex := 25, attributes := #[] }, { accessFlags := 25, nameIndex := 143, descriptorIndex := 25, attributes := #[] }, { accessFlags := 25, nameIndex := 53, descriptorIndex := 25, attributes := #[] }, { accessFlags := 25, nameIndex := 24, descriptorIndex := 25, attributes := #[] }, { accessFlags := 25, nameIndex := 162, descriptorIndex := 25, attributes := #[] }, { accessFlags := 25, nameIndex := 187, descriptorIndex := 25, attributes := #[] }, { accessFlags := 26, nameIndex := 48, descriptorIndex := 25, attributes := #[] }, { accessFlags := 25, nameIndex := 277, descriptorIndex := 25, attributes := #[] }, { accessFlags := 25, nameIndex := 280, descriptorIndex := 25, attributes := #[] }, { accessFlags := 25, nameIndex := 282, descriptorIndex := 25, attributes := #[] }, { accessFlags := 25, nameIndex := 284, descriptorIndex := 25, attributes := #[] }, { accessFlags := 25, nameIndex := 286, descriptorIndex := 25, attributes := #[] }, { accessFlags := 25, nameIndex := 288, descriptorIndex := 25, attributes := #[] }, { accessFlags := 25, nameIndex := 290, descriptorIndex := 25, attributes := #[] }, { accessFlags := 25, nameIndex := 292, descriptorIndex := 25, attributes := #[] }, { accessFlags := 26, nameIndex := 108, descriptorIndex := 109, attributes := #[] }, { accessFlags := 25, nameIndex := 294, descriptorIndex := 25, attributes := #[] }])
  fields := #[{ name := "U", type := (.object "jdk/internal/misc/Unsafe"), accessFlags := 24, slot := 0, constantValue := 0 }, { name := "BIG_ENDIAN", type := .boolean, accessFlags := 26, slot := 1, constantValue := 0 }, { name := "LOG2_ARRAY_BOOLEAN_INDEX_SCALE", type := .int, accessFlags := 25, slot := 2, constantValue := 0 }, { name := "LOG2_ARRAY_BYTE_INDEX_SCALE", type := .int, accessFlags := 25, slot := 3, constantValue := 0 }, { name := "LOG2_ARRAY_CHAR_INDEX_SCALE", type := .int, accessFlags := 25, slot := 4, constantValue := 0 }, { name := "LOG2_ARRAY_SHORT_INDEX_SCALE", type := .int, accessFlags := 25, slot := 5, constantValue := 0 }, { name := "LOG2_ARRAY_INT_INDEX_SCALE", type := .int, accessFlags := 25, slot := 6, constantValue := 0 }, { name := "LOG2_ARRAY_LONG_INDEX_SCALE", type := .int, accessFlags := 25, slot := 7, constantValue := 0 }, { name := "LOG2_ARRAY_FLOAT_INDEX_SCALE", type := .int, accessFlags := 25, slot := 8, constantValue := 0 }, { name := "LOG2_ARRAY_DOUBLE_INDEX_SCALE", type := .int, accessFlags := 25, slot := 9, constantValue := 0 }, { name := "LOG2_BYTE_BIT_SIZE", type := .int, accessFlags := 26, slot := 10, constantValue := 0 }, { name := "T_BOOLEAN", type := .int, accessFlags := 25, slot := 11, constantValue := 0 }, { name := "T_CHAR", type := .int, accessFlags := 25, slot := 12, constantValue := 0 }, { name := "T_FLOAT", type := .int, accessFlags := 25, slot := 13, constantValue := 0 }, { name := "T_DOUBLE", type := .int, accessFlags := 25, slot := 14, constantValue := 0 }, { name := "T_BYTE", type := .int, accessFlags := 25, slot := 15, constantValue := 0 }, { name := "T_SHORT", type := .int, accessFlags := 25, slot := 16, constantValue := 0 }, { name := "T_INT", type := .int, accessFlags := 25, slot := 17, constantValue := 0 }, { name := "T_LONG", type := .int, accessFlags := 25, slot := 18, constantValue := 0 }, { name := "JLA", type := (.object "jdk/internal/access/JavaLangAccess"), accessFlags := 26, slot := 19, constantValue := 0 }, { name := "SOFT_MAX_ARRAY_LENGTH", type := .int, accessFlags := 25, slot := 20, constantValue := 0 }]
  methods := #[k15m0]
  instanceTypes := #[]
  staticTypes := #[(.object "jdk/internal/misc/Unsafe"), .boolean, .int, .int, .int, .int, .int, .int, .int, .int, .int, .int, .int, .int, .int, .int, .int, .int, .int, (.object "jdk/internal/access/JavaLangAccess"), .int]
  resolved := Array.replicate 378 none
  statics := none }

def pool16 : Array CpInfo := pool [(1, u "java/lang/Cloneable"), (0, .class_ 1), (0, u "java/lang/Object"), (0, .class_ 3)] 3

/-- java/lang/Cloneable -/
def k16 : Class := { plain "java/lang/Cloneable" (some 0) with
  accessFlags := 1537
  interfaces := #[]
  cf := some (fileOf pool16 2 #[] #[] 1537 4 #[] #[])
  fields := #[]
  methods := #[]
  instanceTypes := #[]
  staticTypes := #[]
  resolved := Array.replicate 8 none
  statics := none }

/-- the primitive byte -/
def k17 : Class := { plain "byte" none with kind := .primitive 'B', accessFlags := 0x411 }
/-- [B -/
def k18 : Class := { plain "[B" (some 0) with kind := .array 17 .byte, interfaces := #[16, 2], accessFlags := 1041 }

/-- the primitive char -/
def k19 : Class := { plain "char" none with kind := .primitive 'C', accessFlags := 0x411 }
/-- [C -/
def k20 : Class := { plain "[C" (some 0) with kind := .array 19 .char, interfaces := #[16, 2], accessFlags := 1041 }

/-- the primitive int -/
def k21 : Class := { plain "int" none with kind := .primitive 'I', accessFlags := 0x411 }
/-- [I -/
def k22 : Class := { plain "[I" (some 0) with kind := .array 21 .int, interfaces := #[16, 2], accessFlags := 1041 }

def heap : Heap := #[{ cls := 7, slots := #[.long 0, .int 1, .null, .int 0, .null, .int 0, .int 0], vm := .statics 7 },
  { cls := 14, slots := #[.null, .null, .null], vm := .statics 14 }]
def classes : Array Class := #[k0, k1, k2, k3, k4, k5, k6, k7, k8, k9, k10, k11, k12, k13, k14, k15, k16, k17, k18, k19, k20, k21, k22]
def interned : List (Array UInt16 × Addr) := []
def slotsUsed : Nat := 10
def theMethod : MethodId := ⟨1, 1⟩
def args0 : Array Value := #[.int 5, .int 5, .int 5, .int 5, .int 5, .int 5]
def aboutOver (below : List Frame) : State where
  vm := { classes := classes, interned := interned.toArray }
  heap := heap
  slotsUsed := slotsUsed
  threads := #[{ frames := .invoking theMethod args0 :: below }]
def below0 : List Frame := [.native { method := ⟨0, 0⟩, args := #[] }]
def about1 : State := aboutOver below0
def p0 : Program := .bare "" "" ""
def e0 : Env := launch0.env 0 0 0
theorem w_frames : about1.frames = Frame.invoking theMethod args0 :: below0 := rfl
set_option maxRecDepth 65536 in
theorem w_args : argsFit about1.vm theMethod args0 = true := by decide +kernel
set_option maxRecDepth 65536 in
theorem w_heap : heapFits about1 = true := by decide +kernel
set_option maxRecDepth 65536 in
theorem w_runnable : about1.curStatus? = some .runnable := by decide +kernel
set_option maxRecDepth 65536 in
theorem w_alone : about1.alone = true := by decide +kernel
set_option maxRecDepth 65536 in
theorem w_named : about1.methodNamed? x = some theMethod := by decide +kernel
set_option maxRecDepth 65536 in
theorem w_hears : about1.hears theMethod below0 = true := by decide +kernel
set_option maxRecDepth 65536 in
theorem w_ripe : about1.ripe theMethod args0 below0 = true := by decide +kernel
theorem w_running : about1.status = .running := rfl
set_option maxRecDepth 65536 in
theorem w_room : about1.hasRoom e0.platform room_1 = true :=
  launch0.hasRoom_least _ room_1 (by decide +kernel) (by decide +kernel) (by decide +kernel) (by decide +kernel) (by decide +kernel) (by decide +kernel)
theorem allAtoms_all (ts : List Jvm.Cond) (a : Array Jvm.Value) (st : Jvm.State) : (allAtoms ts).before a st = ts.all (fun c => c.before a st) := by
  induction ts with
  | nil => rfl
  | cons c t ih =>
    show (Jvm.Cond.and c (allAtoms t)).before a st = _
    rw [Jvm.Cond.before_and, ih, List.all_cons]
def words1 : List Jvm.Cond := Jvm.Cond.code x code maxLocals ret :: tables_1
/-- a 'code' word, met by the world's own term for the bytes: nothing is compared byte by byte -/
theorem code_word {y : MethodName} {bytes : ByteArray} {mx : Nat} {rt : Option FieldType} {a : Array Value} {s : State} {m : MethodId} {meth : Method} {c : Code} (h1 : s.methodNamed? y = some m) (h2 : s.vm.method? m = some meth) (h3 : meth.code = some c) (h4 : c.code = bytes)
    (h5 : (c.maxLocals == mx && c.exceptionTable.isEmpty && decide (c.maxStack ≤ mostOperands) && decide (meth.sig.returnType = rt) && !meth.locks && decide (parseMethodDescriptor y.desc = some meth.sig)) = true) : (Jvm.Cond.code y bytes mx rt).before a s = true := by
  simp only [Bool.and_eq_true, beq_iff_eq, Bool.not_eq_true', decide_eq_true_eq] at h5
  obtain ⟨⟨⟨⟨⟨g1, g2⟩, g3⟩, g4⟩, g5⟩, g6⟩ := h5
  simp [Cond.before, Cond.holds, Cond.value, h1, h2, h3, h4, g1, g2, g3, g4, g5, g6]
def isCode : Jvm.Cond → Bool
  | .code _ _ _ _ => true
  | _ => false
theorem all_split {L : List Jvm.Cond} {P : Jvm.Cond → Bool} (h1 : L.all (fun c => isCode c || P c) = true) (h2 : ∀ c ∈ L.filter isCode, P c = true) : L.all P = true := by
  refine List.all_eq_true.mpr fun c hc => ?_
  have h := List.all_eq_true.mp h1 c hc
  rcases Bool.eq_false_or_eq_true (isCode c) with hi | hi
  · exact h2 c (List.mem_filter.mpr ⟨hc, hi⟩)
  · simpa [hi] using h
set_option maxRecDepth 65536 in
theorem w_c0 : (Jvm.Cond.code x code maxLocals ret).before args0 about1 = true := code_word (m := ⟨1, 1⟩) (meth := k1m1) (c := k1c1) (by decide +kernel) rfl rfl rfl (by decide +kernel)
set_option maxRecDepth 65536 in
theorem w_c1 : (Jvm.Cond.code ({ cls := "java/lang/String", name := "<init>", desc := "([C)V" } : Jvm.MethodName) jdk_42_method_3_code (2 : Nat) (Option.none : Option Jvm.ClassFile.FieldType)).before args0 about1 = true := code_word (m := ⟨7, 1⟩) (meth := k7m1) (c := k7c1) (by decide +kernel) rfl rfl rfl (by decide +kernel)
set_option maxRecDepth 65536 in
theorem w_c2 : (Jvm.Cond.code ({ cls := "java/lang/String", name := "<init>", desc := "([CIILjava/lang/Void;)V" } : Jvm.MethodName) jdk_42_method_149_code (6 : Nat) (Option.none : Option Jvm.ClassFile.FieldType)).before args0 about1 = true := code_word (m := ⟨7, 3⟩) (meth := k7m3) (c := k7c3) (by decide +kernel) rfl rfl rfl (by decide +kernel)
set_option maxRecDepth 65536 in
theorem w_c3 : (Jvm.Cond.code ({ cls := "java/lang/Object", name := "<init>", desc := "()V" } : Jvm.MethodName) object_method_1_code (1 : Nat) (Option.none : Option Jvm.ClassFile.FieldType)).before args0 about1 = true := code_word (m := ⟨0, 0⟩) (meth := k0m0) (c := k0c0) (by decide +kernel) rfl rfl rfl (by decide +kernel)
set_option maxRecDepth 65536 in
theorem w_c4 : (Jvm.Cond.code ({ cls := "java/lang/StringUTF16", name := "compress", desc := "([CII)[B" } : Jvm.MethodName) jdk_52_method_16_code (6 : Nat) (Option.some (Jvm.ClassFile.FieldType.array Jvm.ClassFile.FieldType.byte))).before args0 about1 = true := code_word (m := ⟨8, 2⟩) (meth := k8m2) (c := k8c2) (by decide +kernel) rfl rfl rfl (by decide +kernel)
set_option maxRecDepth 65536 in
theorem w_c5 : (Jvm.Cond.code ({ cls := "java/lang/StringUTF16", name := "compress", desc := "([CI[BII)I" } : Jvm.MethodName) jdk_52_method_21_code (7 : Nat) (Option.some Jvm.ClassFile.FieldType.int)).before args0 about1 = true := code_word (m := ⟨8, 3⟩) (meth := k8m3) (c := k8c3) (by decide +kernel) rfl rfl rfl (by decide +kernel)
set_option maxRecDepth 65536 in
theorem w_c6 : (Jvm.Cond.code ({ cls := "java/lang/StringUTF16", name := "coderFromArrayLen", desc := "([BI)B" } : Jvm.MethodName) jdk_52_method_15_code (2 : Nat) (Option.some Jvm.ClassFile.FieldType.byte)).before args0 about1 = true := code_word (m := ⟨8, 1⟩) (meth := k8m1) (c := k8c1) (by decide +kernel) rfl rfl rfl (by decide +kernel)
set_option maxRecDepth 65536 in
theorem w_c7 : (Jvm.Cond.code ({ cls := "com/example/roundkeeper/roundkeeper/ruleset/ranked/Fighter", name := "<init>", desc := "(Ljava/lang/String;Ljava/lang/String;IILcom/example/roundkeeper/roundkeeper/ruleset/ranked/Reach;IIII)V" } : Jvm.MethodName) prog_13_method_1_code (10 : Nat) (Option.none : Option Jvm.ClassFile.FieldType)).before args0 about1 = true := code_word (m := ⟨10, 0⟩) (meth := k10m0) (c := k10c0) (by decide +kernel) rfl rfl rfl (by decide +kernel)
set_option maxRecDepth 65536 in
theorem w_c8 : (Jvm.Cond.code ({ cls := "java/lang/Record", name := "<init>", desc := "()V" } : Jvm.MethodName) jdk_30_method_1_code (1 : Nat) (Option.none : Option Jvm.ClassFile.FieldType)).before args0 about1 = true := code_word (m := ⟨9, 0⟩) (meth := k9m0) (c := k9c0) (by decide +kernel) rfl rfl rfl (by decide +kernel)
set_option maxRecDepth 65536 in
theorem w_c9 : (Jvm.Cond.code ({ cls := "com/example/roundkeeper/roundkeeper/ruleset/ranked/Slot", name := "<init>", desc := "(Lcom/example/roundkeeper/roundkeeper/ruleset/ranked/Fighter;I)V" } : Jvm.MethodName) prog_16_method_1_code (3 : Nat) (Option.none : Option Jvm.ClassFile.FieldType)).before args0 about1 = true := code_word (m := ⟨11, 0⟩) (meth := k11m0) (c := k11c0) (by decide +kernel) rfl rfl rfl (by decide +kernel)
set_option maxRecDepth 65536 in
theorem w_c10 : (Jvm.Cond.code ({ cls := "com/example/roundkeeper/roundkeeper/ruleset/ranked/Slot", name := "turn", desc := "(Z)Lcom/example/roundkeeper/roundkeeper/Turn;" } : Jvm.MethodName) prog_16_method_2_code (2 : Nat) (Option.some (Jvm.ClassFile.FieldType.object "com/example/roundkeeper/roundkeeper/Turn"))).before args0 about1 = true := code_word (m := ⟨11, 1⟩) (meth := k11m1) (c := k11c1) (by decide +kernel) rfl rfl rfl (by decide +kernel)
set_option maxRecDepth 65536 in
theorem w_c11 : (Jvm.Cond.code ({ cls := "com/example/roundkeeper/roundkeeper/ruleset/ranked/Fighter", name := "name", desc := "()Ljava/lang/String;" } : Jvm.MethodName) prog_13_method_6_code (1 : Nat) (Option.some (Jvm.ClassFile.FieldType.object "java/lang/String"))).before args0 about1 = true := code_word (m := ⟨10, 1⟩) (meth := k10m1) (c := k10c1) (by decide +kernel) rfl rfl rfl (by decide +kernel)
set_option maxRecDepth 65536 in
theorem w_c12 : (Jvm.Cond.code ({ cls := "com/example/roundkeeper/roundkeeper/ruleset/ranked/Fighter", name := "side", desc := "()Ljava/lang/String;" } : Jvm.MethodName) prog_13_method_7_code (1 : Nat) (Option.some (Jvm.ClassFile.FieldType.object "java/lang/String"))).before args0 about1 = true := code_word (m := ⟨10, 2⟩) (meth := k10m2) (c := k10c2) (by decide +kernel) rfl rfl rfl (by decide +kernel)
set_option maxRecDepth 65536 in
theorem w_c13 : (Jvm.Cond.code ({ cls := "com/example/roundkeeper/roundkeeper/Turn", name := "<init>", desc := "(Ljava/lang/String;Ljava/lang/String;IZ)V" } : Jvm.MethodName) prog_3_method_2_code (5 : Nat) (Option.none : Option Jvm.ClassFile.FieldType)).before args0 about1 = true := code_word (m := ⟨12, 0⟩) (meth := k12m0) (c := k12c0) (by decide +kernel) rfl rfl rfl (by decide +kernel)
set_option maxRecDepth 65536 in
theorem w_c14 : (Jvm.Cond.code ({ cls := "com/example/roundkeeper/roundkeeper/Turn", name := "name", desc := "()Ljava/lang/String;" } : Jvm.MethodName) prog_3_method_6_code (1 : Nat) (Option.some (Jvm.ClassFile.FieldType.object "java/lang/String"))).before args0 about1 = true := code_word (m := ⟨12, 1⟩) (meth := k12m1) (c := k12c1) (by decide +kernel) rfl rfl rfl (by decide +kernel)
set_option maxRecDepth 65536 in
theorem w_c15 : (Jvm.Cond.code ({ cls := "java/lang/String", name := "equals", desc := "(Ljava/lang/Object;)Z" } : Jvm.MethodName) jdk_42_method_66_code (3 : Nat) (Option.some Jvm.ClassFile.FieldType.boolean)).before args0 about1 = true := code_word (m := ⟨7, 2⟩) (meth := k7m2) (c := k7c2) (by decide +kernel) rfl rfl rfl (by decide +kernel)
set_option maxRecDepth 65536 in
theorem w_c16 : (Jvm.Cond.code ({ cls := "com/example/roundkeeper/roundkeeper/Turn", name := "side", desc := "()Ljava/lang/String;" } : Jvm.MethodName) prog_3_method_7_code (1 : Nat) (Option.some (Jvm.ClassFile.FieldType.object "java/lang/String"))).before args0 about1 = true := code_word (m := ⟨12, 2⟩) (meth := k12m2) (c := k12c2) (by decide +kernel) rfl rfl rfl (by decide +kernel)
set_option maxRecDepth 65536 in
theorem w_c17 : (Jvm.Cond.code ({ cls := "com/example/roundkeeper/roundkeeper/Turn", name := "initiative", desc := "()I" } : Jvm.MethodName) prog_3_method_8_code (1 : Nat) (Option.some Jvm.ClassFile.FieldType.int)).before args0 about1 = true := code_word (m := ⟨12, 3⟩) (meth := k12m3) (c := k12c3) (by decide +kernel) rfl rfl rfl (by decide +kernel)
set_option maxRecDepth 65536 in
theorem w_c18 : (Jvm.Cond.code ({ cls := "com/example/roundkeeper/roundkeeper/Turn", name := "simultaneous", desc := "()Z" } : Jvm.MethodName) prog_3_method_9_code (1 : Nat) (Option.some Jvm.ClassFile.FieldType.boolean)).before args0 about1 = true := code_word (m := ⟨12, 4⟩) (meth := k12m4) (c := k12c4) (by decide +kernel) rfl rfl rfl (by decide +kernel)
def codes1 : List Jvm.Cond := [Jvm.Cond.code x code maxLocals ret, Jvm.Cond.code ({ cls := "java/lang/String", name := "<init>", desc := "([C)V" } : Jvm.MethodName) jdk_42_method_3_code (2 : Nat) (Option.none : Option Jvm.ClassFile.FieldType), Jvm.Cond.code ({ cls := "java/lang/String", name := "<init>", desc := "([CIILjava/lang/Void;)V" } : Jvm.MethodName) jdk_42_method_149_code (6 : Nat) (Option.none : Option Jvm.ClassFile.FieldType), Jvm.Cond.code ({ cls := "java/lang/Object", name := "<init>", desc := "()V" } : Jvm.MethodName) object_method_1_code (1 : Nat) (Option.none : Option Jvm.ClassFile.FieldType), Jvm.Cond.code ({ cls := "java/lang/StringUTF16", name := "compress", desc := "([CII)[B" } : Jvm.MethodName) jdk_52_method_16_code (6 : Nat) (Option.some (Jvm.ClassFile.FieldType.array Jvm.ClassFile.FieldType.byte)), Jvm.Cond.code ({ cls := "java/lang/StringUTF16", name := "compress", desc := "([CI[BII)I" } : Jvm.MethodName) jdk_52_method_21_code (7 : Nat) (Option.some Jvm.ClassFile.FieldType.int), Jvm.Cond.code ({ cls := "java/lang/StringUTF16", name := "coderFromArrayLen", desc := "([BI)B" } : Jvm.MethodName) jdk_52_method_15_code (2 : Nat) (Option.some Jvm.ClassFile.FieldType.byte), Jvm.Cond.code ({ cls := "com/example/roundkeeper/roundkeeper/ruleset/ranked/Fighter", name := "<init>", desc := "(Ljava/lang/String;Ljava/lang/String;IILcom/example/roundkeeper/roundkeeper/ruleset/ranked/Reach;IIII)V" } : Jvm.MethodName) prog_13_method_1_code (10 : Nat) (Option.none : Option Jvm.ClassFile.FieldType), Jvm.Cond.code ({ cls := "java/lang/Record", name := "<init>", desc := "()V" } : Jvm.MethodName) jdk_30_method_1_code (1 : Nat) (Option.none : Option Jvm.ClassFile.FieldType), Jvm.Cond.code ({ cls := "com/example/roundkeeper/roundkeeper/ruleset/ranked/Slot", name := "<init>", desc := "(Lcom/example/roundkeeper/roundkeeper/ruleset/ranked/Fighter;I)V" } : Jvm.MethodName) prog_16_method_1_code (3 : Nat) (Option.none : Option Jvm.ClassFile.FieldType), Jvm.Cond.code ({ cls := "com/example/roundkeeper/roundkeeper/ruleset/ranked/Slot", name := "turn", desc := "(Z)Lcom/example/roundkeeper/roundkeeper/Turn;" } : Jvm.MethodName) prog_16_method_2_code (2 : Nat) (Option.some (Jvm.ClassFile.FieldType.object "com/example/roundkeeper/roundkeeper/Turn")), Jvm.Cond.code ({ cls := "com/example/roundkeeper/roundkeeper/ruleset/ranked/Fighter", name := "name", desc := "()Ljava/lang/String;" } : Jvm.MethodName) prog_13_method_6_code (1 : Nat) (Option.some (Jvm.ClassFile.FieldType.object "java/lang/String")), Jvm.Cond.code ({ cls := "com/example/roundkeeper/roundkeeper/ruleset/ranked/Fighter", name := "side", desc := "()Ljava/lang/String;" } : Jvm.MethodName) prog_13_method_7_code (1 : Nat) (Option.some (Jvm.ClassFile.FieldType.object "java/lang/String")), Jvm.Cond.code ({ cls := "com/example/roundkeeper/roundkeeper/Turn", name := "<init>", desc := "(Ljava/lang/String;Ljava/lang/String;IZ)V" } : Jvm.MethodName) prog_3_method_2_code (5 : Nat) (Option.none : Option Jvm.ClassFile.FieldType), Jvm.Cond.code ({ cls := "com/example/roundkeeper/roundkeeper/Turn", name := "name", desc := "()Ljava/lang/String;" } : Jvm.MethodName) prog_3_method_6_code (1 : Nat) (Option.some (Jvm.ClassFile.FieldType.object "java/lang/String")), Jvm.Cond.code ({ cls := "java/lang/String", name := "equals", desc := "(Ljava/lang/Object;)Z" } : Jvm.MethodName) jdk_42_method_66_code (3 : Nat) (Option.some Jvm.ClassFile.FieldType.boolean), Jvm.Cond.code ({ cls := "com/example/roundkeeper/roundkeeper/Turn", name := "side", desc := "()Ljava/lang/String;" } : Jvm.MethodName) prog_3_method_7_code (1 : Nat) (Option.some (Jvm.ClassFile.FieldType.object "java/lang/String")), Jvm.Cond.code ({ cls := "com/example/roundkeeper/roundkeeper/Turn", name := "initiative", desc := "()I" } : Jvm.MethodName) prog_3_method_8_code (1 : Nat) (Option.some Jvm.ClassFile.FieldType.int), Jvm.Cond.code ({ cls := "com/example/roundkeeper/roundkeeper/Turn", name := "simultaneous", desc := "()Z" } : Jvm.MethodName) prog_3_method_9_code (1 : Nat) (Option.some Jvm.ClassFile.FieldType.boolean)]
set_option maxRecDepth 65536 in
theorem codes_eq : words1.filter isCode = codes1 := rfl
theorem w_codes : ∀ c ∈ words1.filter isCode, c.before args0 about1 = true := by
  rw [codes_eq]
  intro c hc
  simp only [codes1, List.mem_cons, List.not_mem_nil, or_false] at hc
  rcases hc with rfl | rfl | rfl | rfl | rfl | rfl | rfl | rfl | rfl | rfl | rfl | rfl | rfl | rfl | rfl | rfl | rfl | rfl | rfl
  · exact w_c0
  · exact w_c1
  · exact w_c2
  · exact w_c3
  · exact w_c4
  · exact w_c5
  · exact w_c6
  · exact w_c7
  · exact w_c8
  · exact w_c9
  · exact w_c10
  · exact w_c11
  · exact w_c12
  · exact w_c13
  · exact w_c14
  · exact w_c15
  · exact w_c16
  · exact w_c17
  · exact w_c18
set_option maxRecDepth 65536 in
theorem w_t1 : (words1.take 24).all (fun c => isCode c || c.before args0 about1) = true := by decide +kernel
set_option maxRecDepth 65536 in
theorem w_t2 : ((words1.drop 24).take 24).all (fun c => isCode c || c.before args0 about1) = true := by decide +kernel
set_option maxRecDepth 65536 in
theorem w_t3 : (((words1.drop 24).drop 24).take 24).all (fun c => isCode c || c.before args0 about1) = true := by decide +kernel
set_option maxRecDepth 65536 in
theorem w_t4 : ((((words1.drop 24).drop 24).drop 24).take 24).all (fun c => isCode c || c.before args0 about1) = true := by decide +kernel
set_option maxRecDepth 65536 in
theorem w_t5 : (((((words1.drop 24).drop 24).drop 24).drop 24).take 24).all (fun c => isCode c || c.before args0 about1) = true := by decide +kernel
set_option maxRecDepth 65536 in
theorem w_t6 : (((((words1.drop 24).drop 24).drop 24).drop 24).drop 24).all (fun c => isCode c || c.before args0 about1) = true := by decide +kernel
theorem w_tables : (allAtoms (Jvm.Cond.code x code maxLocals ret :: tables_1)).before args0 about1 = true := by
  rw [allAtoms_all]
  show words1.all (fun c => c.before args0 about1) = true
  refine all_split ?_ w_codes
  rw [← List.take_append_drop 24 words1, List.all_append, w_t1, ← List.take_append_drop 24 (words1.drop 24), List.all_append, w_t2, ← List.take_append_drop 24 ((words1.drop 24).drop 24), List.all_append, w_t3, ← List.take_append_drop 24 (((words1.drop 24).drop 24).drop 24), List.all_append, w_t4, ← List.take_append_drop 24 ((((words1.drop 24).drop 24).drop 24).drop 24), List.all_append, w_t5, w_t6]
  rfl
set_option maxRecDepth 65536 in
theorem w_rest : rest_1_c.before args0 about1 = true := by decide +kernel
set_option maxRecDepth 65536 in
theorem w_case : (Jvm.Cond.and given_1 narrow_1).before args0 about1 = true := by decide +kernel
theorem w_applies : (headSpec (Jvm.Cond.code x code maxLocals ret :: tables_1) room_1).applies x e0.platform about1 = true :=
  (Spec.applies_iff w_frames).mpr ⟨w_running, w_runnable, w_alone, w_named, w_hears, w_ripe, w_room, w_tables⟩
theorem atStart : AtStart classFile x code maxLocals ret World_1 tables_1 room_1 Calls_1 rest_1 Pre_1 launch0 p0 e0 about1 theMethod args0 below0 :=
  ⟨lists_1, trivial, launch0.admits_env _ _ _, launch0.least_env, fairChoices_fair.cas, fairChoices_fair.clock, w_frames, w_args, w_heap, w_applies, trivial, w_rest, w_case⟩
end start1
theorem witness_1 : WitnessClaimed_1 := ⟨start1.p0, start1.e0, start1.about1, start1.theMethod, start1.args0, start1.below0, start1.atStart⟩
end Jvm.Pilot.@@N@@
