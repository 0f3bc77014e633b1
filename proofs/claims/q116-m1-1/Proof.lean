import JvmDerived
import JvmDerived.Pilot.@@N@@Statement
import JvmDerived.Pilot.@@N@@Code
set_option linter.unusedVariables false
set_option linter.unusedSimpArgs false
namespace Jvm.RoadKit
open Sem ClassFile Op Lib Jvm.Stand Jvm.Free Jvm.LawKit
section Own
variable {p : Program} {l : Launch} {e : Env} {R : Room} {s : State} {m : MethodId} {args : Array Value} {below : List Frame} {meth : Method} {c : Code} {T : State} {locs : List Loc} {cells slots : Nat} {Z : State} {h h' : Heap}
/-- from U the run comes to an end that G allows -/
def Go (p : Program) (e : Env) (below : List Frame) (G : Outcome → State → Prop) (U : State) : Prop := ∃ s₂ o, Steps p.tables e below U s₂ ∧ s₂.status = .running ∧ Ended s₂ below o ∧ G o s₂
theorem Go.st {G : Outcome → State → Prop} {U V : State} (h : ∀ t, Steps p.tables e below V t → Steps p.tables e below U t) (k : Go p e below G V) : Go p e below G U := by
  obtain ⟨s₂, o, a, r⟩ := k; exact ⟨s₂, o, h _ a, r⟩
theorem Go.tr {G : Outcome → State → Prop} {U V : State} (h : Steps p.tables e below U V) (k : Go p e below G V) : Go p e below G U := by
  obtain ⟨s₂, o, a, r⟩ := k; exact ⟨s₂, o, h.trans a, r⟩
theorem Go.en {G : Outcome → State → Prop} {g g' : JFrame} (q : g = g') (k : Go p e below G (T.setTop g')) : Go p e below G (T.setTop g) := q ▸ k
theorem Go.ret {Q : Option Value → Heap → List Loc → Prop} {K N : Nat} {U : State} (X : Stand p l e R s m args below meth c T locs cells slots) {v : Option Value} (hv : meth.sig.returnType = none → v = none) (hlk : meth.locks = false)
    (st : ∀ fs, (∀ (f : JFrame) (acts : List Action), f.method = m → f.locked = none → f.entered = [] → (doReturn e (T.setTop f) acts v).1 = T.setFrames fs) → Steps p.tables e below U (T.setFrames fs)) (eT : T.heap = h) (hQ : Q v h locs) (hk : cells ≤ K) (hn : slots ≤ N) :
    Go p e below (fun o s₂ => ∃ v L, o = .returned v ∧ Q v s₂.heap L ∧ FrameEnd s o s₂ L K N) U := by
  subst eT
  obtain ⟨fs, hr, hrun, hended, hW, hsame⟩ := X.leave hv hlk
  exact ⟨_, _, st fs hr, hrun, hended, _, _, rfl, hQ, ⟨_, rfl⟩, hW, hsame.mono hk hn⟩
theorem Go.retW {Q : Option Value → Heap → List Loc → Prop} {K N k0 : Nat} {U : State} {vm0 : Vm} (hS : s.Since vm0 k0) (hk0 : k0 ≤ h.size) (X : Stand p l e R (s.setVm vm0) m args below meth c T locs cells slots) {v : Option Value} (hv : meth.sig.returnType = none → v = none) (hlk : meth.locks = false)
    (st : ∀ fs, (∀ (f : JFrame) (acts : List Action), f.method = m → f.locked = none → f.entered = [] → (doReturn e (T.setTop f) acts v).1 = T.setFrames fs) → Steps p.tables e below U (T.setFrames fs)) (eT : T.heap = h) (hQ : Q v h locs) (hk : cells ≤ K) (hn : slots ≤ N) :
    Go p e below (fun o s₂ => ∃ v L, o = .returned v ∧ Q v s₂.heap L ∧ ReturnedEndW s o s₂ L K N) U := by
  subst eT
  obtain ⟨fs, hr, hrun, hended, hR⟩ := X.leaveW hS hk0 hv hlk
  exact ⟨_, _, st fs hr, hrun, hended, _, _, rfl, hQ, hR.1, hR.2.1, hR.2.2.1, hR.2.2.2.mono hk hn⟩
/-- RoadKit's backOfS for a callee that is told what the constants hold -/
theorem backOfSC {y : MethodName} {bytes : ByteArray} {maxL : Nat} {ret : Option FieldType} {rm : Room} {len W : Nat} {as' : Array Value} {Q : Option Value → Heap → List Loc → Prop} {EL : List (String × Nat)} {vm0 : Vm} {a0 : Array Value}
    (hM : MetFree l y (head1 [Cond.code y bytes maxL ret] rm) (fun a U => a = as' ∧ Z.Warmed39 U.vm ∧ U.heap = h ∧ CHv Z EL U.vm h) (fun _ _ _ _ _ => True) (fun _ U o U' => ∃ v L, o = .returned v ∧ Q v U'.heap L ∧ ReturnedEndW U o U' L rm.cells rm.slots))
    (hZ : Z.Warmed39 vm0) (wc : (Cond.code y bytes maxL ret).before a0 Z = true) (wz : (Cond.initialized y.cls).before a0 Z = true) (hf : rm.frames + 1 ≤ R.frames) (hl : W + (maxL + 11) + rm.locals ≤ R.locals) (hEL : EW Z a0 EL) (H : CHv Z EL vm0 h) :
    BackS l R p e below (s.setVm vm0) args y len W (fun A a => a = as' ∧ A.U.heap = h ∧ A.cells + rm.cells ≤ R.cells ∧ A.slots + rm.slots ≤ R.slots)
      (fun A _ v B => ∃ L, Q v B.U.heap L ∧ B.locs = A.locs ++ L ∧ B.cells = A.cells + rm.cells ∧ B.slots = A.slots + rm.slots) :=
  BackS.of_freeW (bytes := bytes) (maxL := maxL) (ret := ret) (E := fun _ _ o t L k n => k = rm.cells ∧ n = rm.slots ∧ ∃ v, o = .returned v ∧ Q v t.heap L) hM hf hl
    (fun m meth c A a Y hp => by
      have hU : Z.Warmed39 A.U.vm := wtrans (s := s.setVm vm0) hZ Y.warmed
      exact ⟨by show (Cond.and _ .tt).before a A.U = true; rw [Cond.before_and, mv hU wc]; rfl, mv hU wc, mv hU wz, hp.2.2.1, hp.2.2.2⟩)
    (fun m meth c A a g mk Y hp => ⟨hp.1, wtrans (s := s.setVm vm0) hZ Y.warmed, hp.2.1, (CHv.at Y hZ hEL H).1⟩) (fun _ _ _ _ _ _ _ _ _ => trivial)
    (fun _ _ _ _ ⟨v, L, h1, h2, h3⟩ => ⟨L, _, _, h3, rfl, rfl, v, h1, h2⟩)
    (fun m meth c A a g mk v t L k n Y hp _ _ ⟨e1, e2, v', e3, e4⟩ => by cases e3; subst e1 e2; exact ⟨L, e4, rfl, rfl, rfl⟩)
theorem staKeep0 {C n d : String} {v : Value} (F : Sta Z h C n d v) (K : Keep h h' []) : Sta Z h' C n d v := by
  obtain ⟨cf, i, k, f, st, cell, h1, h2, h3, h4, h5, r⟩ := F
  exact ⟨cf, i, k, f, st, cell, h1, h2, h3, h4, K.2.1 _ _ h5 nin0, r⟩
theorem staKeepE {C n d O : String} {v : Value} {a : Addr} (F : Sta Z h C n d v) (K : Keep h h' [a]) (E : Exa Z h a O) : Sta Z h' C n d v := by
  obtain ⟨cf, i, k, f, st, cell, h1, h2, h3, h4, h5, h6, r⟩ := F
  obtain ⟨c', k', e1, -, -, e4, -⟩ := E
  have ne : st ≠ a := fun q => by subst q; cases h5.symm.trans e1; rw [h6] at e4; cases e4
  exact ⟨cf, i, k, f, st, cell, h1, h2, h3, h4, K.2.1 _ _ h5 (ninS ne nin0), h6, r⟩
/-- getfield where the sheet says the reference resolved -/
theorem getFR (X : Stand p l e R s m args below meth c T locs cells slots) (hx : p.tables.exec = Jvm.exec) (hZ : Z.Warmed39 s.vm) {a0 : Array Value} {own O n d : String} {index : Nat} (hown : s.vm.findClass own = some m.cls) (w : (Cond.fieldRef own index O n d).before a0 Z = true)
    (eT : T.heap = h) {a : Addr} {v : Value} (F : Fld Z h a O n d v) {g : JFrame} (hg : g.method = m) {rest : List Value} (hs : g.stack = .ref a :: rest) (hd : decode c.code g.pc = .ok (.getfield index, 3)) :
    ∀ target, Steps p.tables e below (T.setTop { g with pc := g.pc + 3, stack := v :: rest }) target → Steps p.tables e below (T.setTop g) target := by
  intro target hrest
  obtain ⟨cell, cf, k, i, f, h1, h2, h3, h4, -, -, h7⟩ := F
  have hW : Z.Warmed39 T.vm := wtrans hZ X.warmed
  have q := Cond.fieldRef_warmed39 hW w
  have hcur : (Z.setVm T.vm).vm.findClass own = some m.cls := by
    show T.vm.findClass own = some m.cls
    rw [X.warmed.alike.findClass]; exact hown
  obtain ⟨c', k', i', f', hi, hready⟩ := Cond.fieldRef_spec hcur q
  obtain ⟨k2, hi2, -⟩ := State.fieldFound?_setVm (s := Z) hW.alike h2
  have q3 : (Z.setVm T.vm).fieldFound? O n d = some (cf, k2, i, f) := hi2
  cases hi.symm.trans q3
  subst hg
  jvm_step X.here [hx, hd, getfield.wp_ready (e := e) (s := T) (f := g) X.here.top hready h3 hs (by rw [eT]; exact h1) h4 h7]
  exact hrest
/-- an array of that kind and length, whatever it holds -/
def Arn (Z : State) (h : Heap) (a : Addr) (ty : FieldType) (z : Int32) : Prop := ∃ c : Cell, Arr Z h a c ty ∧ c.slots.size = z.toNatClampNeg ∧ ¬ z < 0
section Arn
variable {a b : Addr} {ty : FieldType} {z : Int32} {sl : Nat} {v : Value} {ws : List Addr}
theorem Arn.lt (F : Arn Z h a ty z) : a < h.size := by obtain ⟨c, A, -⟩ := F; exact A.lt
theorem Arn.ext (F : Arn Z h a ty z) (E : Ext h h') : Arn Z h' a ty z := by obtain ⟨c, A, r⟩ := F; exact ⟨c, A.ext E, r⟩
theorem Arn.other (F : Arn Z h b ty z) (W : Wr h h' a sl v) (q : b ≠ a) : Arn Z h' b ty z := by obtain ⟨c, A, r⟩ := F; exact ⟨c, A.other W q, r⟩
theorem Arn.keep (F : Arn Z h a ty z) (K : Keep h h' ws) (q : a ∉ ws) : Arn Z h' a ty z := by obtain ⟨c, A, r⟩ := F; exact ⟨c, ⟨K.2.1 a c A.1 q, A.2⟩, r⟩
theorem Arn.set {c : Cell} (A : Arr Z h a c ty) (S : c.slots.size = z.toNatClampNeg) (q : ¬ z < 0) (W : Wr h h' a sl v) : Arn Z h' a ty z := ⟨_, A.same W, by rw [sz_set]; exact S, q⟩
theorem Arv.arn {k : ClassId} {vs : List Value} {dv : Value} (F : Arv Z h a k ty z vs dv) : Arn Z h a ty z := by obtain ⟨c, A, -, S, q, -⟩ := F; exact ⟨c, A, S, q⟩
end Arn
theorem staKeepA {C n d : String} {v : Value} {a : Addr} {ty : FieldType} {z : Int32} (F : Sta Z h C n d v) (K : Keep h h' [a]) (E : Arn Z h a ty z) : Sta Z h' C n d v := by
  obtain ⟨cf, i, k, f, st, cell, h1, h2, h3, h4, h5, h6, r⟩ := F
  obtain ⟨c', A, -⟩ := E
  have e4 := A.plain
  have ne : st ≠ a := fun q => by subst q; cases h5.symm.trans A.1; rw [h6] at e4; cases e4
  exact ⟨cf, i, k, f, st, cell, h1, h2, h3, h4, K.2.1 _ _ h5 (ninS ne nin0), h6, r⟩
theorem own_nn {n : Int32} (h : 0 ≤ n.toInt) : ¬ n < 0 := by rw [Int32.lt_iff_toInt_lt]; show ¬ n.toInt < 0; omega
theorem own_cap {n : Int32} {k : Nat} (h : n.toInt ≤ k) : n.toNatClampNeg ≤ k := by simp only [Int32.toNatClampNeg]; omega
theorem own_inc {i z : Int32} (h0 : ¬ i < 0) (h : i < z) : ¬ (i + 1) < 0 ∧ (i + 1).toInt = i.toInt + 1 := by
  have h1 := c_iadd i 1; have h2 := rng32 z; have h3 := rng32 i; have h4 := rng32 (i + 1)
  rw [Int32.lt_iff_toInt_lt] at h0 h ⊢
  have e0 : (0 : Int32).toInt = 0 := rfl
  have e1 : (1 : Int32).toInt = 1 := rfl
  rw [e0] at h0 ⊢; rw [e1] at h1
  omega
theorem own_ge {i z : Int32} (h : z.toInt ≤ i.toInt) : ¬ i < z := by rw [Int32.lt_iff_toInt_lt]; omega
theorem staInt {args : Array Value} {C n d : String} {k : Int32} (h : (Cond.eq (.static C n d) (.int k)).value args Z none Z [] = some true) (hi : (Cond.initializedFor C n d).before args Z = true ∨ ((Cond.initialized C).before args Z = true ∧ (Cond.laysStatic C n d).before args Z = true)) : Sta Z Z.heap C n d (.int k) := by
  obtain ⟨x, y, e1, e2, k1, -⟩ := cmp_v (Or.inl h)
  have e3 : (Term.int k).eval args Z none [] Z = some (.int k) := Term.int_eval k
  cases e2.symm.trans e3
  cases x with
  | int z =>
    have q : (Cond.eq (.static C n d) (.int k)).value args Z none Z [] = some (decide (z = k)) := by simp [Cond.value, e1, e3]
    exact (gotT q h) ▸ Sta.start e1 hi
  | _ => simp [Kin, Value.isRef] at k1
theorem fldNull {args : Array Value} {t : Term} {C n d : String} {a : Addr} (ev : t.eval args Z none [] Z = some (.ref a)) (h : (Cond.eq (.field t C n d) .null).value args Z none Z [] = some true) : Fld Z Z.heap a C n d .null := by
  have e1 := null_v h
  rw [fld_at ev] at e1
  exact Fld.start e1
theorem fldStart {args : Array Value} {t : Term} {C n d : String} {a : Addr} {k : Int32} (ev : t.eval args Z none [] Z = some (.ref a)) (h : (Cond.eq (.field t C n d) (.int k)).value args Z none Z [] = some true) : Fld Z Z.heap a C n d (.int k) := by
  obtain ⟨x, y, e1, e2, k1, -⟩ := cmp_v (Or.inl h)
  rw [fld_at ev] at e1
  have e3 : (Term.int k).eval args Z none [] Z = some (.int k) := Term.int_eval k
  cases e2.symm.trans e3
  cases x with
  | int z =>
    have q : (Cond.eq (.field t C n d) (.int k)).value args Z none Z [] = some (decide (z = k)) := by simp [Cond.value, (fld_at ev).trans e1, e3]
    exact (gotT q h) ▸ Fld.start e1
  | _ => simp [Kin, Value.isRef] at k1
end Own
end Jvm.RoadKit
namespace Jvm.Pilot.@@N@@
open Jvm Jvm.ClassFile Sem Op Lib Jvm.Free Jvm.Stand Jvm.LawKit Jvm.RoadKit Bundle Jvm.Pilot.@@N@@.Jvm.D

theorem pn_0 : plainName "com/example/postie/postie/amqp/performatives/RoleOfPinLaw" = true := by first | (simp [plainName, overriddenIn]; done) | decide +kernel
theorem ef_0 (m : MethodId) (x0 : Int32) : entryFrame m #[(.int x0)] maxLocals = mkF m 0 #[.val (.int x0), .unset, .unset] [] := by first | (simp [entryFrame, mkF, argsToLocals, Value.category, maxLocals]; done) | rfl
theorem d1_0 : decode prog_49_method_4_code 0 = .ok (.iload_n 0, 1) := by decide +kernel
theorem d1_1 : decode prog_49_method_4_code 1 = .ok (.ifCond .eq 9, 3) := by decide +kernel
theorem d1_4 : decode prog_49_method_4_code 4 = .ok (.getstatic 7, 3) := by decide +kernel
theorem d1_7 : decode prog_49_method_4_code 7 = .ok (.goto 6, 3) := by decide +kernel
theorem d1_10 : decode prog_49_method_4_code 10 = .ok (.getstatic 3, 3) := by decide +kernel
theorem d1_13 : decode prog_49_method_4_code 13 = .ok (.areturn, 1) := by decide +kernel
theorem pn_1 : plainName "com/example/postie/postie/amqp/performatives/Role" = true := by first | (simp [plainName, overriddenIn]; done) | decide +kernel
theorem ef_1 (m : MethodId) (x0 : Int32) : entryFrame m #[(.int x0)] 1 = mkF m 0 #[.val (.int x0)] [] := by first | (simp [entryFrame, mkF, argsToLocals, Value.category]; done) | rfl
theorem d2_0 : decode prog_49_method_5_code 0 = .ok (.aload_n 0, 1) := by decide +kernel
theorem d2_1 : decode prog_49_method_5_code 1 = .ok (.getstatic 7, 3) := by decide +kernel
theorem d2_4 : decode prog_49_method_5_code 4 = .ok (.if_acmp .ne 7, 3) := by decide +kernel
theorem d2_7 : decode prog_49_method_5_code 7 = .ok (.iconst 1, 1) := by decide +kernel
theorem d2_8 : decode prog_49_method_5_code 8 = .ok (.goto 4, 3) := by decide +kernel
theorem d2_11 : decode prog_49_method_5_code 11 = .ok (.iconst 0, 1) := by decide +kernel
theorem d2_12 : decode prog_49_method_5_code 12 = .ok (.ireturn, 1) := by decide +kernel
theorem pn_2 : plainName "com/example/postie/postie/amqp/performatives/Role" = true := by first | (simp [plainName, overriddenIn]; done) | decide +kernel
theorem ef_2 (m : MethodId) (x0 : Addr) : entryFrame m #[(.ref x0)] 1 = mkF m 0 #[.val (.ref x0)] [] := by first | (simp [entryFrame, mkF, argsToLocals, Value.category]; done) | rfl
theorem pd_0 : parseMethodDescriptor "(Z)Lcom/example/postie/postie/amqp/performatives/Role;" = some ⟨[.boolean], some (.object "com/example/postie/postie/amqp/performatives/Role")⟩ := by decide +kernel
theorem pd_1 : parseMethodDescriptor "()Z" = some ⟨[], some .boolean⟩ := by decide +kernel
def Qm1_t (Z : State) (p1 : Int32) (w2 : Addr) (h0 : Heap) (n0 : Nat) (v : Option Value) (h : Heap) (L : List Loc) : Prop := v = some (.ref w2) ∧ Fr n0 L ∧ h = h0
set_option maxRecDepth 65536 in
set_option maxHeartbeats 40000000 in
theorem rm1_t (l : Launch) (Z : State) (a0 : Array Value) (hw : ∀ d ∈ tables_1, d.before a0 Z = true) (ws : List Jvm.Cond) (p1 : Int32) (w2 : Addr) (h0 : Heap) (n0 : Nat) (Z0 : n0 ≤ h0.size) (hd0 : p1 = (0 : Int32)) (S_SENDER : Sta Z h0 "com/example/postie/postie/amqp/performatives/Role" "SENDER" "Lcom/example/postie/postie/amqp/performatives/Role;" (.ref w2)) :
    MetFree l (⟨"com/example/postie/postie/amqp/performatives/Role", "of", "(Z)Lcom/example/postie/postie/amqp/performatives/Role;"⟩ : MethodName) (head1 (Jvm.Cond.code (⟨"com/example/postie/postie/amqp/performatives/Role", "of", "(Z)Lcom/example/postie/postie/amqp/performatives/Role;"⟩ : MethodName) prog_49_method_4_code 1 (some (.object "com/example/postie/postie/amqp/performatives/Role")) :: ws) ({ frames := 0, cells := 0, slots := 0, locals := 0 } : Room)) (fun a U => a = #[(.int p1)] ∧ Z.Warmed39 U.vm ∧ U.heap = h0) (fun _ _ _ _ _ => True) (fun _ U o U' => ∃ v L, o = .returned v ∧ Qm1_t Z p1 w2 h0 n0 v U'.heap L ∧ FrameEnd U o U' L ({ frames := 0, cells := 0, slots := 0, locals := 0 } : Room).cells ({ frames := 0, cells := 0, slots := 0, locals := 0 } : Room).slots) := by
  refine MetFree.of_bodySF (plainFor_of_name pn_1) hisR ?_
  intro p e s m args below meth c s₁ Bd hml0 hP hK
  obtain ⟨rfl, hZ, hh⟩ := hP
  have hx := Bd.exec
  have hby := Bd.bytes
  have hml : c.maxLocals = 1 := hml0
  have hown : s.vm.findClass "com/example/postie/postie/amqp/performatives/Role" = some m.cls := findClass_of_methodNamed Bd.named
  have hnm := (name_of_methodNamed Bd.named Bd.method).1
  have X0 : Stand p l e ({ frames := 0, cells := 0, slots := 0, locals := 0 } : Room) s m #[(.int p1)] below meth c s₁ [] 0 0 := Stand.of_body Bd
  have e0 : s₁.heap = h0 := by rw [← hh, Bd.state]; rfl
  have N0 := Fr.nil n0
  refine Go.en (ef_1 m p1) ?_
  show Go p e below _ (s₁.setTop (mkF m 0 #[.val (.int p1)] []))
  refine Go.st (fun _ kk => XS.iloadN X0.here hx rfl (hb hby d1_0) rfl  kk) ?_
  show Go p e below _ (s₁.setTop (mkF m 1 #[.val (.int p1)] [(.int p1)]))
  refine Go.st (fun _ kk => XS.ifYes X0.here hx rfl (pc0 := 1) (pc' := 10) rfl (hb hby d1_1) rfl ((if0 _ _).trans (teq hd0).1) (by decide) (by decide) kk) ?_
  show Go p e below _ (s₁.setTop (mkF m 10 #[.val (.int p1)] []))
  obtain ⟨T3, X3, e3, st3⟩ := getS2 X0 hx hZ hown (host := "") (Or.inl (hw _ (List.mem_of_getElem? (i := 4) rfl))) Via.refl e0 S_SENDER (g := (mkF m 10 #[.val (.int p1)] [])) rfl (hb hby d1_10)
  refine Go.st st3 ?_
  show Go p e below _ (T3.setTop (mkF m 13 #[.val (.int p1)] [(.ref w2)]))
  exact Go.ret (Q := Qm1_t Z p1 w2 h0 n0) X3 (v := some (.ref w2)) (fun h => by rw [Bd.returns] at h; cases h) Bd.notSynchronized (fun fs hr => retOut X3 hx Bd.returns rfl (Or.inr (Or.inr (Or.inr (Or.inr ⟨rfl, rfl, rfl⟩)))) (hb hby d1_13) hr) e3 ⟨rfl, N0, rfl⟩ (by decide) (by decide)
def Qm1_f (Z : State) (p1 : Int32) (w2 : Addr) (h0 : Heap) (n0 : Nat) (v : Option Value) (h : Heap) (L : List Loc) : Prop := v = some (.ref w2) ∧ Fr n0 L ∧ h = h0
set_option maxRecDepth 65536 in
set_option maxHeartbeats 40000000 in
theorem rm1_f (l : Launch) (Z : State) (a0 : Array Value) (hw : ∀ d ∈ tables_1, d.before a0 Z = true) (ws : List Jvm.Cond) (p1 : Int32) (w2 : Addr) (h0 : Heap) (n0 : Nat) (Z0 : n0 ≤ h0.size) (hd0 : ¬ (p1 = (0 : Int32))) (S_RECEIVER : Sta Z h0 "com/example/postie/postie/amqp/performatives/Role" "RECEIVER" "Lcom/example/postie/postie/amqp/performatives/Role;" (.ref w2)) :
    MetFree l (⟨"com/example/postie/postie/amqp/performatives/Role", "of", "(Z)Lcom/example/postie/postie/amqp/performatives/Role;"⟩ : MethodName) (head1 (Jvm.Cond.code (⟨"com/example/postie/postie/amqp/performatives/Role", "of", "(Z)Lcom/example/postie/postie/amqp/performatives/Role;"⟩ : MethodName) prog_49_method_4_code 1 (some (.object "com/example/postie/postie/amqp/performatives/Role")) :: ws) ({ frames := 0, cells := 0, slots := 0, locals := 0 } : Room)) (fun a U => a = #[(.int p1)] ∧ Z.Warmed39 U.vm ∧ U.heap = h0) (fun _ _ _ _ _ => True) (fun _ U o U' => ∃ v L, o = .returned v ∧ Qm1_f Z p1 w2 h0 n0 v U'.heap L ∧ FrameEnd U o U' L ({ frames := 0, cells := 0, slots := 0, locals := 0 } : Room).cells ({ frames := 0, cells := 0, slots := 0, locals := 0 } : Room).slots) := by
  refine MetFree.of_bodySF (plainFor_of_name pn_1) hisR ?_
  intro p e s m args below meth c s₁ Bd hml0 hP hK
  obtain ⟨rfl, hZ, hh⟩ := hP
  have hx := Bd.exec
  have hby := Bd.bytes
  have hml : c.maxLocals = 1 := hml0
  have hown : s.vm.findClass "com/example/postie/postie/amqp/performatives/Role" = some m.cls := findClass_of_methodNamed Bd.named
  have hnm := (name_of_methodNamed Bd.named Bd.method).1
  have X0 : Stand p l e ({ frames := 0, cells := 0, slots := 0, locals := 0 } : Room) s m #[(.int p1)] below meth c s₁ [] 0 0 := Stand.of_body Bd
  have e0 : s₁.heap = h0 := by rw [← hh, Bd.state]; rfl
  have N0 := Fr.nil n0
  refine Go.en (ef_1 m p1) ?_
  show Go p e below _ (s₁.setTop (mkF m 0 #[.val (.int p1)] []))
  refine Go.st (fun _ kk => XS.iloadN X0.here hx rfl (hb hby d1_0) rfl  kk) ?_
  show Go p e below _ (s₁.setTop (mkF m 1 #[.val (.int p1)] [(.int p1)]))
  refine Go.st (fun _ kk => XS.ifNo X0.here hx rfl (hb hby d1_1) rfl ((if0 _ _).trans (feq hd0).1) kk) ?_
  show Go p e below _ (s₁.setTop (mkF m 4 #[.val (.int p1)] []))
  obtain ⟨T3, X3, e3, st3⟩ := getS2 X0 hx hZ hown (host := "") (Or.inl (hw _ (List.mem_of_getElem? (i := 11) rfl))) Via.refl e0 S_RECEIVER (g := (mkF m 4 #[.val (.int p1)] [])) rfl (hb hby d1_4)
  refine Go.st st3 ?_
  show Go p e below _ (T3.setTop (mkF m 7 #[.val (.int p1)] [(.ref w2)]))
  refine Go.st (fun _ kk => XS.goto X3.here hx rfl (pc0 := 7) (pc' := 13) rfl (hb hby d1_7) (by decide) (by decide) kk) ?_
  show Go p e below _ (T3.setTop (mkF m 13 #[.val (.int p1)] [(.ref w2)]))
  exact Go.ret (Q := Qm1_f Z p1 w2 h0 n0) X3 (v := some (.ref w2)) (fun h => by rw [Bd.returns] at h; cases h) Bd.notSynchronized (fun fs hr => retOut X3 hx Bd.returns rfl (Or.inr (Or.inr (Or.inr (Or.inr ⟨rfl, rfl, rfl⟩)))) (hb hby d1_13) hr) e3 ⟨rfl, N0, rfl⟩ (by decide) (by decide)
def Qm2_t (Z : State) (a1 : Addr) (w2 : Addr) (h0 : Heap) (n0 : Nat) (v : Option Value) (h : Heap) (L : List Loc) : Prop := v = some (.int (1 : Int32)) ∧ Fr n0 L ∧ h = h0
set_option maxRecDepth 65536 in
set_option maxHeartbeats 40000000 in
theorem rm2_t (l : Launch) (Z : State) (a0 : Array Value) (hw : ∀ d ∈ tables_1, d.before a0 Z = true) (ws : List Jvm.Cond) (a1 : Addr) (w2 : Addr) (h0 : Heap) (n0 : Nat) (Z0 : n0 ≤ h0.size) (S_RECEIVER : Sta Z h0 "com/example/postie/postie/amqp/performatives/Role" "RECEIVER" "Lcom/example/postie/postie/amqp/performatives/Role;" (.ref w2)) (hd0 : a1 = w2) :
    MetFree l (⟨"com/example/postie/postie/amqp/performatives/Role", "value", "()Z"⟩ : MethodName) (head1 (Jvm.Cond.code (⟨"com/example/postie/postie/amqp/performatives/Role", "value", "()Z"⟩ : MethodName) prog_49_method_5_code 1 (some .boolean) :: ws) ({ frames := 0, cells := 0, slots := 0, locals := 0 } : Room)) (fun a U => a = #[(.ref a1)] ∧ Z.Warmed39 U.vm ∧ U.heap = h0) (fun _ _ _ _ _ => True) (fun _ U o U' => ∃ v L, o = .returned v ∧ Qm2_t Z a1 w2 h0 n0 v U'.heap L ∧ FrameEnd U o U' L ({ frames := 0, cells := 0, slots := 0, locals := 0 } : Room).cells ({ frames := 0, cells := 0, slots := 0, locals := 0 } : Room).slots) := by
  refine MetFree.of_bodySF (plainFor_of_name pn_2) hisR ?_
  intro p e s m args below meth c s₁ Bd hml0 hP hK
  obtain ⟨rfl, hZ, hh⟩ := hP
  have hx := Bd.exec
  have hby := Bd.bytes
  have hml : c.maxLocals = 1 := hml0
  have hown : s.vm.findClass "com/example/postie/postie/amqp/performatives/Role" = some m.cls := findClass_of_methodNamed Bd.named
  have hnm := (name_of_methodNamed Bd.named Bd.method).1
  have X0 : Stand p l e ({ frames := 0, cells := 0, slots := 0, locals := 0 } : Room) s m #[(.ref a1)] below meth c s₁ [] 0 0 := Stand.of_body Bd
  have e0 : s₁.heap = h0 := by rw [← hh, Bd.state]; rfl
  have N0 := Fr.nil n0
  refine Go.en (ef_2 m a1) ?_
  show Go p e below _ (s₁.setTop (mkF m 0 #[.val (.ref a1)] []))
  refine Go.st (fun _ kk => XS.aloadN X0.here hx rfl (hb hby d2_0) rfl rfl  kk) ?_
  show Go p e below _ (s₁.setTop (mkF m 1 #[.val (.ref a1)] [(.ref a1)]))
  obtain ⟨T3, X3, e3, st3⟩ := getS2 X0 hx hZ hown (host := "") (Or.inl (hw _ (List.mem_of_getElem? (i := 11) rfl))) Via.refl e0 S_RECEIVER (g := (mkF m 1 #[.val (.ref a1)] [(.ref a1)])) rfl (hb hby d2_1)
  refine Go.st st3 ?_
  show Go p e below _ (T3.setTop (mkF m 4 #[.val (.ref a1)] [(.ref w2), (.ref a1)]))
  refine Go.st (fun _ kk => Jvm.RoadKit.acmp (g := (mkF m 4 #[.val (.ref a1)] [(.ref w2), (.ref a1)])) X3 hx rfl rfl rfl (pc0 := 4) (pc' := 7) (same := true) rfl (hb hby d2_4) rfl (decide_eq_true (congrArg Value.ref hd0)) (by decide) (by decide) kk) ?_
  show Go p e below _ (T3.setTop (mkF m 7 #[.val (.ref a1)] []))
  refine Go.st (fun _ kk => XS.iconst X3.here hx rfl (hb hby d2_7) kk) ?_
  show Go p e below _ (T3.setTop (mkF m 8 #[.val (.ref a1)] [(.int (1 : Int32))]))
  refine Go.st (fun _ kk => XS.goto X3.here hx rfl (pc0 := 8) (pc' := 12) rfl (hb hby d2_8) (by decide) (by decide) kk) ?_
  show Go p e below _ (T3.setTop (mkF m 12 #[.val (.ref a1)] [(.int (1 : Int32))]))
  exact Go.ret (Q := Qm2_t Z a1 w2 h0 n0) X3 (v := some (.int (1 : Int32))) (fun h => by rw [Bd.returns] at h; cases h) Bd.notSynchronized (fun fs hr => retN X3 hx (t := .boolean) Bd.returns (by simp) (hb hby d2_12) hr) e3 ⟨rfl, N0, rfl⟩ (by decide) (by decide)
def Qm2_f (Z : State) (a1 : Addr) (w2 : Addr) (h0 : Heap) (n0 : Nat) (v : Option Value) (h : Heap) (L : List Loc) : Prop := v = some (.int (0 : Int32)) ∧ Fr n0 L ∧ h = h0
set_option maxRecDepth 65536 in
set_option maxHeartbeats 40000000 in
theorem rm2_f (l : Launch) (Z : State) (a0 : Array Value) (hw : ∀ d ∈ tables_1, d.before a0 Z = true) (ws : List Jvm.Cond) (a1 : Addr) (w2 : Addr) (h0 : Heap) (n0 : Nat) (Z0 : n0 ≤ h0.size) (S_RECEIVER : Sta Z h0 "com/example/postie/postie/amqp/performatives/Role" "RECEIVER" "Lcom/example/postie/postie/amqp/performatives/Role;" (.ref w2)) (hd0 : ¬ (a1 = w2)) :
    MetFree l (⟨"com/example/postie/postie/amqp/performatives/Role", "value", "()Z"⟩ : MethodName) (head1 (Jvm.Cond.code (⟨"com/example/postie/postie/amqp/performatives/Role", "value", "()Z"⟩ : MethodName) prog_49_method_5_code 1 (some .boolean) :: ws) ({ frames := 0, cells := 0, slots := 0, locals := 0 } : Room)) (fun a U => a = #[(.ref a1)] ∧ Z.Warmed39 U.vm ∧ U.heap = h0) (fun _ _ _ _ _ => True) (fun _ U o U' => ∃ v L, o = .returned v ∧ Qm2_f Z a1 w2 h0 n0 v U'.heap L ∧ FrameEnd U o U' L ({ frames := 0, cells := 0, slots := 0, locals := 0 } : Room).cells ({ frames := 0, cells := 0, slots := 0, locals := 0 } : Room).slots) := by
  refine MetFree.of_bodySF (plainFor_of_name pn_2) hisR ?_
  intro p e s m args below meth c s₁ Bd hml0 hP hK
  obtain ⟨rfl, hZ, hh⟩ := hP
  have hx := Bd.exec
  have hby := Bd.bytes
  have hml : c.maxLocals = 1 := hml0
  have hown : s.vm.findClass "com/example/postie/postie/amqp/performatives/Role" = some m.cls := findClass_of_methodNamed Bd.named
  have hnm := (name_of_methodNamed Bd.named Bd.method).1
  have X0 : Stand p l e ({ frames := 0, cells := 0, slots := 0, locals := 0 } : Room) s m #[(.ref a1)] below meth c s₁ [] 0 0 := Stand.of_body Bd
  have e0 : s₁.heap = h0 := by rw [← hh, Bd.state]; rfl
  have N0 := Fr.nil n0
  refine Go.en (ef_2 m a1) ?_
  show Go p e below _ (s₁.setTop (mkF m 0 #[.val (.ref a1)] []))
  refine Go.st (fun _ kk => XS.aloadN X0.here hx rfl (hb hby d2_0) rfl rfl  kk) ?_
  show Go p e below _ (s₁.setTop (mkF m 1 #[.val (.ref a1)] [(.ref a1)]))
  obtain ⟨T3, X3, e3, st3⟩ := getS2 X0 hx hZ hown (host := "") (Or.inl (hw _ (List.mem_of_getElem? (i := 11) rfl))) Via.refl e0 S_RECEIVER (g := (mkF m 1 #[.val (.ref a1)] [(.ref a1)])) rfl (hb hby d2_1)
  refine Go.st st3 ?_
  show Go p e below _ (T3.setTop (mkF m 4 #[.val (.ref a1)] [(.ref w2), (.ref a1)]))
  refine Go.st (fun _ kk => Jvm.RoadKit.acmp (g := (mkF m 4 #[.val (.ref a1)] [(.ref w2), (.ref a1)])) X3 hx rfl rfl rfl (pc0 := 4) (pc' := 11) (same := false) rfl (hb hby d2_4) rfl (decide_eq_false fun q => hd0 (Value.ref.inj q)) (by decide) (by decide) kk) ?_
  show Go p e below _ (T3.setTop (mkF m 11 #[.val (.ref a1)] []))
  refine Go.st (fun _ kk => XS.iconst X3.here hx rfl (hb hby d2_11) kk) ?_
  show Go p e below _ (T3.setTop (mkF m 12 #[.val (.ref a1)] [(.int (0 : Int32))]))
  exact Go.ret (Q := Qm2_f Z a1 w2 h0 n0) X3 (v := some (.int (0 : Int32))) (fun h => by rw [Bd.returns] at h; cases h) Bd.notSynchronized (fun fs hr => retN X3 hx (t := .boolean) Bd.returns (by simp) (hb hby d2_12) hr) e3 ⟨rfl, N0, rfl⟩ (by decide) (by decide)
def Q0 (n0 : Nat) (v : Option Value) (h : Heap) (L : List Loc) : Prop := v = some (.int (1 : Int32)) ∧ Fr n0 L
set_option maxRecDepth 65536 in
set_option maxHeartbeats 40000000 in
theorem rm0 (l : Launch) (Z : State) (a0 : Array Value) (hw : ∀ d ∈ tables_1, d.before a0 Z = true) (ws : List Jvm.Cond) (p1 : Int32) (w_SENDER : Addr) (w_RECEIVER : Addr) (h0 : Heap) (n0 : Nat) (Z0 : n0 ≤ h0.size) (S_SENDER : Sta Z h0 "com/example/postie/postie/amqp/performatives/Role" "SENDER" "Lcom/example/postie/postie/amqp/performatives/Role;" (.ref w_SENDER)) (E_w_SENDER : Exa Z h0 w_SENDER "com/example/postie/postie/amqp/performatives/Role") (S_RECEIVER : Sta Z h0 "com/example/postie/postie/amqp/performatives/Role" "RECEIVER" "Lcom/example/postie/postie/amqp/performatives/Role;" (.ref w_RECEIVER)) (E_w_RECEIVER : Exa Z h0 w_RECEIVER "com/example/postie/postie/amqp/performatives/Role") (F_ordinal_w_SENDER : Fld Z h0 w_SENDER "java/lang/Enum" "ordinal" "I" (.int (0 : Int32))) (F_ordinal_w_RECEIVER : Fld Z h0 w_RECEIVER "java/lang/Enum" "ordinal" "I" (.int (1 : Int32))) :
    MetFree l x (head1 (Jvm.Cond.code x code maxLocals ret :: ws) room_1) (fun a U => a = #[(.int p1)] ∧ Z.Warmed39 U.vm ∧ U.heap = h0) (fun _ _ _ _ _ => True) (fun _ U o U' => ∃ v L, o = .returned v ∧ Q0 n0 v U'.heap L ∧ FrameEnd U o U' L room_1.cells room_1.slots) := by
  refine MetFree.of_bodySF (plainFor_of_name pn_0) hisR ?_
  intro p e s m args below meth c s₁ Bd hml0 hP hK
  obtain ⟨rfl, hZ, hh⟩ := hP
  have hx := Bd.exec
  have hby := Bd.bytes
  have hml : c.maxLocals = 3 := hml0
  have hown : s.vm.findClass "com/example/postie/postie/amqp/performatives/RoleOfPinLaw" = some m.cls := findClass_of_methodNamed Bd.named
  have hnm := (name_of_methodNamed Bd.named Bd.method).1
  have X0 : Stand p l e room_1 s m #[(.int p1)] below meth c s₁ [] 0 0 := Stand.of_body Bd
  have e0 : s₁.heap = h0 := by rw [← hh, Bd.state]; rfl
  have N0 := Fr.nil n0
  refine Go.en (ef_0 m p1) ?_
  show Go p e below _ (s₁.setTop (mkF m 0 #[.val (.int p1), .unset, .unset] []))
  refine Go.st (fun _ kk => XS.iloadN X0.here hx rfl (hb hby at_0) rfl  kk) ?_
  show Go p e below _ (s₁.setTop (mkF m 1 #[.val (.int p1), .unset, .unset] [(.int p1)]))
  refine Go.st (fun _ kk => XS.iconst X0.here hx rfl (hb hby at_1) kk) ?_
  show Go p e below _ (s₁.setTop (mkF m 2 #[.val (.int p1), .unset, .unset] [(.int (1 : Int32)), (.int p1)]))
  refine Go.st (fun _ kk => XS.iand X0.here hx rfl (hb hby at_2) rfl kk) ?_
  show Go p e below _ (s₁.setTop (mkF m 3 #[.val (.int p1), .unset, .unset] [(.int (p1 &&& (1 : Int32)))]))
  by_cases hc_1 : (p1 &&& (1 : Int32)) = (0 : Int32)
  · skip
    refine Go.st (fun _ kk => XS.ifYes X0.here hx rfl (pc0 := 3) (pc' := 10) rfl (hb hby at_3) rfl ((if0 _ _).trans (teq hc_1).1) (by decide) (by decide) kk) ?_
    show Go p e below _ (s₁.setTop (mkF m 10 #[.val (.int p1), .unset, .unset] []))
    refine Go.st (fun _ kk => XS.iconst X0.here hx rfl (hb hby at_10) kk) ?_
    show Go p e below _ (s₁.setTop (mkF m 11 #[.val (.int p1), .unset, .unset] [(.int (0 : Int32))]))
    refine Go.st (fun _ kk => XS.istoreN X0.here hx rfl (hb hby at_11) rfl (l' := #[.val (.int p1), .val (.int (0 : Int32)), .unset]) rfl kk) ?_
    show Go p e below _ (s₁.setTop (mkF m 12 #[.val (.int p1), .val (.int (0 : Int32)), .unset] []))
    refine Go.st (fun _ kk => XS.iloadN X0.here hx rfl (hb hby at_12) rfl  kk) ?_
    show Go p e below _ (s₁.setTop (mkF m 13 #[.val (.int p1), .val (.int (0 : Int32)), .unset] [(.int (0 : Int32))]))
    obtain ⟨_, _, ⟨T2, L2, k2, n2⟩, -, X2, ⟨Lc2, hQ2, l2, y2, z2⟩, st2⟩ := Jvm.LawKit.callS X0 hx (y := (⟨"com/example/postie/postie/amqp/performatives/Role", "of", "(Z)Lcom/example/postie/postie/amqp/performatives/Role;"⟩ : MethodName)) hown (mvT hZ (hw _ (List.mem_of_getElem? (i := 0) rfl))) (mvT hZ (hw _ (List.mem_of_getElem? (i := 1) rfl))) (mvT hZ (hw _ (List.mem_of_getElem? (i := 2) rfl))) (mvT hZ (hw _ (List.mem_of_getElem? (i := 3) rfl))) (by decide) (backOf (W := 0) (rm1_t l Z a0 hw [] (0 : Int32) w_SENDER h0 n0 Z0 (by decide : ((0 : Int32) = (0 : Int32))) S_SENDER) hZ (hw _ (List.mem_of_getElem? (i := 3) rfl)) (hw _ (List.mem_of_getElem? (i := 2) rfl)) (by decide) (by decide)) (g := (mkF m 13 #[.val (.int p1), .val (.int (0 : Int32)), .unset] [(.int (0 : Int32))])) rfl (by rw [hml]; rfl) (argsL := [(.int (0 : Int32))]) (rest := []) (lenOf pd_0 rfl) rfl (by show 2 * 0 + _ ≤ _; exact Nat.le_of_eq rfl) (hb hby at_13) (fun _ _ => ⟨rfl, e0, (by decide : 0 + 0 ≤ _), (by decide : 0 + 0 ≤ _)⟩)
    dsimp only [Pt.U, Pt.locs, Pt.cells, Pt.slots] at X2 l2 y2 z2 st2 hQ2
    subst l2 y2 z2
    obtain ⟨rfl, N2q, eq2⟩ := hQ2
    have N2 := Fr.app N0 N2q
    refine Go.st st2 ?_
    show Go p e below _ (T2.setTop (mkF m 16 #[.val (.int p1), .val (.int (0 : Int32)), .unset] [(.ref w_SENDER)]))
    refine Go.st (fun _ kk => XS.astoreN X2.here hx rfl (hb hby at_16) rfl rfl (l' := #[.val (.int p1), .val (.int (0 : Int32)), .val (.ref w_SENDER)]) rfl kk) ?_
    show Go p e below _ (T2.setTop (mkF m 17 #[.val (.int p1), .val (.int (0 : Int32)), .val (.ref w_SENDER)] []))
    refine Go.st (fun _ kk => XS.aloadN X2.here hx rfl (hb hby at_17) rfl rfl  kk) ?_
    show Go p e below _ (T2.setTop (mkF m 18 #[.val (.int p1), .val (.int (0 : Int32)), .val (.ref w_SENDER)] [(.ref w_SENDER)]))
    refine Go.st (fun _ kk => XS.ifnonnullYes X2.here hx rfl (pc0 := 18) (pc' := 23) rfl (hb hby at_18) rfl (by decide) (by decide) kk) ?_
    show Go p e below _ (T2.setTop (mkF m 23 #[.val (.int p1), .val (.int (0 : Int32)), .val (.ref w_SENDER)] []))
    refine Go.st (fun _ kk => XS.aloadN X2.here hx rfl (hb hby at_23) rfl rfl  kk) ?_
    show Go p e below _ (T2.setTop (mkF m 24 #[.val (.int p1), .val (.int (0 : Int32)), .val (.ref w_SENDER)] [(.ref w_SENDER)]))
    obtain ⟨cq3, kq3, q3a, q3b, q3c⟩ := isOf hZ eq2 E_w_SENDER
    obtain ⟨_, _, ⟨T3, L3, k3, n3⟩, -, X3, ⟨Lc3, hQ3, l3, y3, z3⟩, st3⟩ := X2.virtualBack hx (y := (⟨"com/example/postie/postie/amqp/performatives/Role", "value", "()Z"⟩ : MethodName)) (z := (⟨"com/example/postie/postie/amqp/performatives/Role", "value", "()Z"⟩ : MethodName)) hown (mvT hZ (hw _ (List.mem_of_getElem? (i := 6) rfl))) (mvT hZ (hw _ (List.mem_of_getElem? (i := 7) rfl))) (notFace_of_selects (args := #[]) (mvT hZ (hw _ (List.mem_of_getElem? (i := 9) rfl)))) (mvT hZ (hw _ (List.mem_of_getElem? (i := 9) rfl))) (mvT hZ (hw _ (List.mem_of_getElem? (i := 8) rfl))) (by decide) (backOf (W := 0) (rm2_f l Z a0 hw [] w_SENDER w_RECEIVER h0 n0 Z0 S_RECEIVER (Fld.ne F_ordinal_w_SENDER F_ordinal_w_RECEIVER (by decide))) hZ (hw _ (List.mem_of_getElem? (i := 10) rfl)) (hw _ (List.mem_of_getElem? (i := 2) rfl)) (by decide) (by decide)) q3a q3c (g := (mkF m 24 #[.val (.int p1), .val (.int (0 : Int32)), .val (.ref w_SENDER)] [(.ref w_SENDER)])) rfl (by rw [hml]; rfl) (Steps.refl _) (argsL := []) (rest := []) (lenOf pd_1 rfl) rfl (by show 2 * 0 + _ ≤ _; exact Nat.le_of_eq rfl) (hb hby at_24) (fun _ _ => ⟨rfl, eq2, (by decide : 0 + 0 ≤ _), (by decide : 0 + 0 ≤ _)⟩)
    dsimp only [Pt.U, Pt.locs, Pt.cells, Pt.slots] at X3 l3 y3 z3 st3 hQ3
    subst l3 y3 z3
    obtain ⟨rfl, N3q, eq3⟩ := hQ3
    have N3 := Fr.app N2 N3q
    refine Go.tr st3 ?_
    show Go p e below _ (T3.setTop (mkF m 27 #[.val (.int p1), .val (.int (0 : Int32)), .val (.ref w_SENDER)] [(.int (0 : Int32))]))
    refine Go.st (fun _ kk => XS.iloadN X3.here hx rfl (hb hby at_27) rfl  kk) ?_
    show Go p e below _ (T3.setTop (mkF m 28 #[.val (.int p1), .val (.int (0 : Int32)), .val (.ref w_SENDER)] [(.int (0 : Int32)), (.int (0 : Int32))]))
    refine Go.st (fun _ kk => XS.icmpYes X3.here hx rfl (pc0 := 28) (pc' := 33) rfl (hb hby at_28) rfl (teq (by decide : ((0 : Int32) = (0 : Int32)))).1 (by decide) (by decide) kk) ?_
    show Go p e below _ (T3.setTop (mkF m 33 #[.val (.int p1), .val (.int (0 : Int32)), .val (.ref w_SENDER)] []))
    refine Go.st (fun _ kk => XS.iloadN X3.here hx rfl (hb hby at_33) rfl  kk) ?_
    show Go p e below _ (T3.setTop (mkF m 34 #[.val (.int p1), .val (.int (0 : Int32)), .val (.ref w_SENDER)] [(.int (0 : Int32))]))
    refine Go.st (fun _ kk => XS.ifYes X3.here hx rfl (pc0 := 34) (pc' := 50) rfl (hb hby at_34) rfl ((if0 _ _).trans (teq (by decide : ((0 : Int32) = (0 : Int32)))).1) (by decide) (by decide) kk) ?_
    show Go p e below _ (T3.setTop (mkF m 50 #[.val (.int p1), .val (.int (0 : Int32)), .val (.ref w_SENDER)] []))
    refine Go.st (fun _ kk => XS.aloadN X3.here hx rfl (hb hby at_50) rfl rfl  kk) ?_
    show Go p e below _ (T3.setTop (mkF m 51 #[.val (.int p1), .val (.int (0 : Int32)), .val (.ref w_SENDER)] [(.ref w_SENDER)]))
    obtain ⟨T4, X4, e4, st4⟩ := getS2 X3 hx hZ hown (host := "") (Or.inl (hw _ (List.mem_of_getElem? (i := 13) rfl))) Via.refl eq3 S_SENDER (g := (mkF m 51 #[.val (.int p1), .val (.int (0 : Int32)), .val (.ref w_SENDER)] [(.ref w_SENDER)])) rfl (hb hby at_51)
    refine Go.st st4 ?_
    show Go p e below _ (T4.setTop (mkF m 54 #[.val (.int p1), .val (.int (0 : Int32)), .val (.ref w_SENDER)] [(.ref w_SENDER), (.ref w_SENDER)]))
    refine Go.st (fun _ kk => Jvm.RoadKit.acmp (g := (mkF m 54 #[.val (.int p1), .val (.int (0 : Int32)), .val (.ref w_SENDER)] [(.ref w_SENDER), (.ref w_SENDER)])) X4 hx rfl rfl rfl (pc0 := 54) (pc' := 57) (same := true) rfl (hb hby at_54) rfl (decide_eq_true (congrArg Value.ref (rfl : w_SENDER = w_SENDER))) (by decide) (by decide) kk) ?_
    show Go p e below _ (T4.setTop (mkF m 57 #[.val (.int p1), .val (.int (0 : Int32)), .val (.ref w_SENDER)] []))
    refine Go.st (fun _ kk => XS.iconst X4.here hx rfl (hb hby at_57) kk) ?_
    show Go p e below _ (T4.setTop (mkF m 58 #[.val (.int p1), .val (.int (0 : Int32)), .val (.ref w_SENDER)] [(.int (1 : Int32))]))
    refine Go.st (fun _ kk => XS.goto X4.here hx rfl (pc0 := 58) (pc' := 62) rfl (hb hby at_58) (by decide) (by decide) kk) ?_
    show Go p e below _ (T4.setTop (mkF m 62 #[.val (.int p1), .val (.int (0 : Int32)), .val (.ref w_SENDER)] [(.int (1 : Int32))]))
    exact Go.ret (Q := Q0 n0) X4 (v := some (.int (1 : Int32))) (fun h => by rw [Bd.returns] at h; cases h) Bd.notSynchronized (fun fs hr => retN X4 hx (t := .boolean) Bd.returns (by simp) (hb hby at_62) hr) e4 ⟨rfl, N3⟩ (by decide) (by decide)
  · skip
    refine Go.st (fun _ kk => XS.ifNo X0.here hx rfl (hb hby at_3) rfl ((if0 _ _).trans (feq hc_1).1) kk) ?_
    show Go p e below _ (s₁.setTop (mkF m 6 #[.val (.int p1), .unset, .unset] []))
    refine Go.st (fun _ kk => XS.iconst X0.here hx rfl (hb hby at_6) kk) ?_
    show Go p e below _ (s₁.setTop (mkF m 7 #[.val (.int p1), .unset, .unset] [(.int (1 : Int32))]))
    refine Go.st (fun _ kk => XS.goto X0.here hx rfl (pc0 := 7) (pc' := 11) rfl (hb hby at_7) (by decide) (by decide) kk) ?_
    show Go p e below _ (s₁.setTop (mkF m 11 #[.val (.int p1), .unset, .unset] [(.int (1 : Int32))]))
    refine Go.st (fun _ kk => XS.istoreN X0.here hx rfl (hb hby at_11) rfl (l' := #[.val (.int p1), .val (.int (1 : Int32)), .unset]) rfl kk) ?_
    show Go p e below _ (s₁.setTop (mkF m 12 #[.val (.int p1), .val (.int (1 : Int32)), .unset] []))
    refine Go.st (fun _ kk => XS.iloadN X0.here hx rfl (hb hby at_12) rfl  kk) ?_
    show Go p e below _ (s₁.setTop (mkF m 13 #[.val (.int p1), .val (.int (1 : Int32)), .unset] [(.int (1 : Int32))]))
    obtain ⟨_, _, ⟨T2, L2, k2, n2⟩, -, X2, ⟨Lc2, hQ2, l2, y2, z2⟩, st2⟩ := Jvm.LawKit.callS X0 hx (y := (⟨"com/example/postie/postie/amqp/performatives/Role", "of", "(Z)Lcom/example/postie/postie/amqp/performatives/Role;"⟩ : MethodName)) hown (mvT hZ (hw _ (List.mem_of_getElem? (i := 0) rfl))) (mvT hZ (hw _ (List.mem_of_getElem? (i := 1) rfl))) (mvT hZ (hw _ (List.mem_of_getElem? (i := 2) rfl))) (mvT hZ (hw _ (List.mem_of_getElem? (i := 3) rfl))) (by decide) (backOf (W := 0) (rm1_f l Z a0 hw [] (1 : Int32) w_RECEIVER h0 n0 Z0 (by decide : ¬ ((1 : Int32) = (0 : Int32))) S_RECEIVER) hZ (hw _ (List.mem_of_getElem? (i := 3) rfl)) (hw _ (List.mem_of_getElem? (i := 2) rfl)) (by decide) (by decide)) (g := (mkF m 13 #[.val (.int p1), .val (.int (1 : Int32)), .unset] [(.int (1 : Int32))])) rfl (by rw [hml]; rfl) (argsL := [(.int (1 : Int32))]) (rest := []) (lenOf pd_0 rfl) rfl (by show 2 * 0 + _ ≤ _; exact Nat.le_of_eq rfl) (hb hby at_13) (fun _ _ => ⟨rfl, e0, (by decide : 0 + 0 ≤ _), (by decide : 0 + 0 ≤ _)⟩)
    dsimp only [Pt.U, Pt.locs, Pt.cells, Pt.slots] at X2 l2 y2 z2 st2 hQ2
    subst l2 y2 z2
    obtain ⟨rfl, N2q, eq2⟩ := hQ2
    have N2 := Fr.app N0 N2q
    refine Go.st st2 ?_
    show Go p e below _ (T2.setTop (mkF m 16 #[.val (.int p1), .val (.int (1 : Int32)), .unset] [(.ref w_RECEIVER)]))
    refine Go.st (fun _ kk => XS.astoreN X2.here hx rfl (hb hby at_16) rfl rfl (l' := #[.val (.int p1), .val (.int (1 : Int32)), .val (.ref w_RECEIVER)]) rfl kk) ?_
    show Go p e below _ (T2.setTop (mkF m 17 #[.val (.int p1), .val (.int (1 : Int32)), .val (.ref w_RECEIVER)] []))
    refine Go.st (fun _ kk => XS.aloadN X2.here hx rfl (hb hby at_17) rfl rfl  kk) ?_
    show Go p e below _ (T2.setTop (mkF m 18 #[.val (.int p1), .val (.int (1 : Int32)), .val (.ref w_RECEIVER)] [(.ref w_RECEIVER)]))
    refine Go.st (fun _ kk => XS.ifnonnullYes X2.here hx rfl (pc0 := 18) (pc' := 23) rfl (hb hby at_18) rfl (by decide) (by decide) kk) ?_
    show Go p e below _ (T2.setTop (mkF m 23 #[.val (.int p1), .val (.int (1 : Int32)), .val (.ref w_RECEIVER)] []))
    refine Go.st (fun _ kk => XS.aloadN X2.here hx rfl (hb hby at_23) rfl rfl  kk) ?_
    show Go p e below _ (T2.setTop (mkF m 24 #[.val (.int p1), .val (.int (1 : Int32)), .val (.ref w_RECEIVER)] [(.ref w_RECEIVER)]))
    obtain ⟨cq3, kq3, q3a, q3b, q3c⟩ := isOf hZ eq2 E_w_RECEIVER
    obtain ⟨_, _, ⟨T3, L3, k3, n3⟩, -, X3, ⟨Lc3, hQ3, l3, y3, z3⟩, st3⟩ := X2.virtualBack hx (y := (⟨"com/example/postie/postie/amqp/performatives/Role", "value", "()Z"⟩ : MethodName)) (z := (⟨"com/example/postie/postie/amqp/performatives/Role", "value", "()Z"⟩ : MethodName)) hown (mvT hZ (hw _ (List.mem_of_getElem? (i := 6) rfl))) (mvT hZ (hw _ (List.mem_of_getElem? (i := 7) rfl))) (notFace_of_selects (args := #[]) (mvT hZ (hw _ (List.mem_of_getElem? (i := 9) rfl)))) (mvT hZ (hw _ (List.mem_of_getElem? (i := 9) rfl))) (mvT hZ (hw _ (List.mem_of_getElem? (i := 8) rfl))) (by decide) (backOf (W := 0) (rm2_t l Z a0 hw [] w_RECEIVER w_RECEIVER h0 n0 Z0 S_RECEIVER (rfl : w_RECEIVER = w_RECEIVER)) hZ (hw _ (List.mem_of_getElem? (i := 10) rfl)) (hw _ (List.mem_of_getElem? (i := 2) rfl)) (by decide) (by decide)) q3a q3c (g := (mkF m 24 #[.val (.int p1), .val (.int (1 : Int32)), .val (.ref w_RECEIVER)] [(.ref w_RECEIVER)])) rfl (by rw [hml]; rfl) (Steps.refl _) (argsL := []) (rest := []) (lenOf pd_1 rfl) rfl (by show 2 * 0 + _ ≤ _; exact Nat.le_of_eq rfl) (hb hby at_24) (fun _ _ => ⟨rfl, eq2, (by decide : 0 + 0 ≤ _), (by decide : 0 + 0 ≤ _)⟩)
    dsimp only [Pt.U, Pt.locs, Pt.cells, Pt.slots] at X3 l3 y3 z3 st3 hQ3
    subst l3 y3 z3
    obtain ⟨rfl, N3q, eq3⟩ := hQ3
    have N3 := Fr.app N2 N3q
    refine Go.tr st3 ?_
    show Go p e below _ (T3.setTop (mkF m 27 #[.val (.int p1), .val (.int (1 : Int32)), .val (.ref w_RECEIVER)] [(.int (1 : Int32))]))
    refine Go.st (fun _ kk => XS.iloadN X3.here hx rfl (hb hby at_27) rfl  kk) ?_
    show Go p e below _ (T3.setTop (mkF m 28 #[.val (.int p1), .val (.int (1 : Int32)), .val (.ref w_RECEIVER)] [(.int (1 : Int32)), (.int (1 : Int32))]))
    refine Go.st (fun _ kk => XS.icmpYes X3.here hx rfl (pc0 := 28) (pc' := 33) rfl (hb hby at_28) rfl (teq (by decide : ((1 : Int32) = (1 : Int32)))).1 (by decide) (by decide) kk) ?_
    show Go p e below _ (T3.setTop (mkF m 33 #[.val (.int p1), .val (.int (1 : Int32)), .val (.ref w_RECEIVER)] []))
    refine Go.st (fun _ kk => XS.iloadN X3.here hx rfl (hb hby at_33) rfl  kk) ?_
    show Go p e below _ (T3.setTop (mkF m 34 #[.val (.int p1), .val (.int (1 : Int32)), .val (.ref w_RECEIVER)] [(.int (1 : Int32))]))
    refine Go.st (fun _ kk => XS.ifNo X3.here hx rfl (hb hby at_34) rfl ((if0 _ _).trans (feq (by decide : ¬ ((1 : Int32) = (0 : Int32)))).1) kk) ?_
    show Go p e below _ (T3.setTop (mkF m 37 #[.val (.int p1), .val (.int (1 : Int32)), .val (.ref w_RECEIVER)] []))
    refine Go.st (fun _ kk => XS.aloadN X3.here hx rfl (hb hby at_37) rfl rfl  kk) ?_
    show Go p e below _ (T3.setTop (mkF m 38 #[.val (.int p1), .val (.int (1 : Int32)), .val (.ref w_RECEIVER)] [(.ref w_RECEIVER)]))
    obtain ⟨T4, X4, e4, st4⟩ := getS2 X3 hx hZ hown (host := "") (Or.inl (hw _ (List.mem_of_getElem? (i := 14) rfl))) Via.refl eq3 S_RECEIVER (g := (mkF m 38 #[.val (.int p1), .val (.int (1 : Int32)), .val (.ref w_RECEIVER)] [(.ref w_RECEIVER)])) rfl (hb hby at_38)
    refine Go.st st4 ?_
    show Go p e below _ (T4.setTop (mkF m 41 #[.val (.int p1), .val (.int (1 : Int32)), .val (.ref w_RECEIVER)] [(.ref w_RECEIVER), (.ref w_RECEIVER)]))
    refine Go.st (fun _ kk => Jvm.RoadKit.acmp (g := (mkF m 41 #[.val (.int p1), .val (.int (1 : Int32)), .val (.ref w_RECEIVER)] [(.ref w_RECEIVER), (.ref w_RECEIVER)])) X4 hx rfl rfl rfl (pc0 := 41) (pc' := 44) (same := true) rfl (hb hby at_41) rfl (decide_eq_true (congrArg Value.ref (rfl : w_RECEIVER = w_RECEIVER))) (by decide) (by decide) kk) ?_
    show Go p e below _ (T4.setTop (mkF m 44 #[.val (.int p1), .val (.int (1 : Int32)), .val (.ref w_RECEIVER)] []))
    refine Go.st (fun _ kk => XS.iconst X4.here hx rfl (hb hby at_44) kk) ?_
    show Go p e below _ (T4.setTop (mkF m 45 #[.val (.int p1), .val (.int (1 : Int32)), .val (.ref w_RECEIVER)] [(.int (1 : Int32))]))
    refine Go.st (fun _ kk => XS.goto X4.here hx rfl (pc0 := 45) (pc' := 49) rfl (hb hby at_45) (by decide) (by decide) kk) ?_
    show Go p e below _ (T4.setTop (mkF m 49 #[.val (.int p1), .val (.int (1 : Int32)), .val (.ref w_RECEIVER)] [(.int (1 : Int32))]))
    exact Go.ret (Q := Q0 n0) X4 (v := some (.int (1 : Int32))) (fun h => by rw [Bd.returns] at h; cases h) Bd.notSynchronized (fun fs hr => retN X4 hx (t := .boolean) Bd.returns (by simp) (hb hby at_49) hr) e4 ⟨rfl, N3⟩ (by decide) (by decide)
set_option maxRecDepth 65536 in
set_option maxHeartbeats 40000000 in
theorem comes_1 {Post : Tables → Env → Array Value → State → Outcome → State → Prop} (hpost : ∀ tb e args s v u, (limb_1_1.after args s (.returned v) u = true ∧ limb_1_2.after args s (.returned v) u = true ∧ True) → FrameEnd s (.returned v) u (Jvm.fieldLocs frame_1_writes args s ++ Jvm.arrayLocs frame_1_arrays args s ++ Jvm.staticLocs frame_1_statics s) 0 0 → Post tb e args s (.returned v) u) :
    ArmFor flags0 classFile x code maxLocals ret World_1 tables_1 room_1 Calls_1 rest_1 Pre_1 Post := by
  intro l hfl _ _ p e ha hc hk s m args below hf hA hF happ hP
  obtain ⟨hcalls, hrest, hpre⟩ := hP
  obtain ⟨-, -, -, hnamed, -, -, -, hat⟩ := (Spec.applies_iff hf).mp happ
  obtain ⟨hg, hn⟩ := and_e (Cond.before_iff.mp (show (Jvm.Cond.and given_1 narrow_1).before args s = true from hpre))
  obtain ⟨hcount, hg⟩ := and_e hg
  have hg0 := hg
  obtain ⟨w0, rfl⟩ : ∃ w0 : Value, args = #[w0] := by
    have hs : args.size = 1 := by simpa [Cond.value, given_1] using hcount
    obtain ⟨L⟩ := args
    match L, hs with
    | [w0], _ => exact ⟨w0, rfl⟩
  have hw := fun d (hd : d ∈ tables_1) => atoms_spec (ws := Jvm.Cond.code x code maxLocals ret :: tables_1) hat d (List.mem_cons_of_mem _ hd)
  have hfit : Fit s := fun {y c} hc i hi => by
    obtain ⟨ha, rfl⟩ := Array.getElem?_eq_some_iff.mp hc
    have q := List.all_eq_true.mp ((Array.all_eq_true_iff_forall_mem.mp hF) _ (Array.getElem_mem ha)) i (List.mem_range.mpr hi)
    simpa [Array.getElem?_eq_getElem hi] using q
  obtain ⟨i0, ei0⟩ := is_v hg0
  obtain rfl : w0 = (.int i0) := Option.some.inj ei0
  obtain ⟨hn0, hn⟩ := and_e hn
  obtain ⟨hn1, hn⟩ := and_e hn
  obtain ⟨hn2, hn⟩ := and_e hn
  have hn3 := hn
  obtain ⟨w_SENDER, ev_SENDER⟩ := exa_v hn0
  have S_SENDER := Sta.start ev_SENDER (Or.inr ⟨(hw _ (List.mem_of_getElem? (i := 2) rfl)), (hw _ (List.mem_of_getElem? (i := 5) rfl))⟩)
  have E_w_SENDER := Exa.start ev_SENDER hn0
  obtain ⟨w_RECEIVER, ev_RECEIVER⟩ := exa_v hn1
  have S_RECEIVER := Sta.start ev_RECEIVER (Or.inr ⟨(hw _ (List.mem_of_getElem? (i := 2) rfl)), (hw _ (List.mem_of_getElem? (i := 12) rfl))⟩)
  have E_w_RECEIVER := Exa.start ev_RECEIVER hn1
  have F_ordinal_w_SENDER := fldStart ev_SENDER hn2
  have F_ordinal_w_RECEIVER := fldStart ev_RECEIVER hn3
  obtain ⟨n, o, h1, h2, h3, _, L, rfl, ⟨rfl, N⟩, hq⟩ := rm0 l s _ hw tables_1 i0 w_SENDER w_RECEIVER s.heap s.heap.size (Nat.le_refl _) S_SENDER E_w_SENDER S_RECEIVER E_w_RECEIVER F_ordinal_w_SENDER F_ordinal_w_RECEIVER p e ha hc hk s m _ below hf ((Spec.applies_iff_loose hf).mp happ).1 ⟨rfl, State.Warmed39.refl s, rfl⟩ trivial
  refine ⟨n, _, h1, h2, h3, hpost _ _ _ _ _ _ ⟨Cond.after_iff.mpr rfl, Cond.after_iff.mpr (eq_i res_at (Term.int_eval (1)) rfl), trivial⟩ ⟨hq.1, hq.2.1, (hq.2.2.sift fun y hy => Or.inr (N y hy)).mono (by decide) (by decide)⟩⟩
theorem main_1_1 : Claimed_1_1 := comes_1 fun _ _ _ _ _ _ h hF => ⟨h.1, hF⟩
theorem main_1_2 : Claimed_1_2 := comes_1 fun _ _ _ _ _ _ h hF => ⟨h.2.1, hF⟩
end Jvm.Pilot.@@N@@
namespace Jvm.Pilot.@@N@@
open Jvm Jvm.ClassFile Sem Op Lib Jvm.Free Jvm.Stand Jvm.Pilot.@@N@@.Jvm.D
/-! MADE BY PROGRAM (witnessworld.py) out of the Statement's table words and the real class files: 12 classes; the members and pool entries that the words name. The judged class is class 1, her method 1. -/
namespace start1
open Jvm.ClassFile
def u (s : String) : CpInfo := .utf8 (stringToUtf16 s)
/-- a pool by its gaps: so many unusable entries, then the entry; so many at the end -/
def gap : Nat → List CpInfo → List CpInfo
  | 0, r => r
  | n + 1, r => .unusable :: gap n r
def poolList (es : List (Nat × CpInfo)) (last : Nat) : List CpInfo := es.foldr (fun e r => gap e.1 (e.2 :: r)) (gap last [])
def pool (es : List (Nat × CpInfo)) (last : Nat) : Array CpInfo := ⟨poolList es last⟩
def fileOf (pool : Array CpInfo) (this : Nat) (attrs : Array Attribute := #[]) (ms : Array MethodInfo := #[]) (fl : Nat := 33) (sup : Nat := 0) (ifs : Array Nat := #[]) (fds : Array FieldInfo := #[]) : ClassFile where
  minorVersion := 0
  majorVersion := 65
  constantPool := pool
  accessFlags := fl
  thisClass := this
  superClass := sup
  interfaces := ifs
  fields := fds
  methods := ms
  attributes := attrs
def plain (name : String) (sup : Option ClassId) : Class where
  name := name
  kind := .ordinary
  loader := none
  accessFlags := 33
  super := sup
  interfaces := #[]
  cf := none
  fields := #[]
  methods := #[]
  instanceTypes := #[]
  staticTypes := #[]
  resolved := #[]
  callSites := []
  init := .initialized
  statics := none
  mirror := none

def pool0 : Array CpInfo := pool [(5, u "<init>"), (0, u "()V"), (1, .class_ 10), (1, u "java/lang/Object")] 113

def k0m0 : Method := { name := "<init>", desc := "()V", sig := { parameters := [], returnType := none }, accessFlags := 1, code := none }
/-- java/lang/Object -/
def k0 : Class := { plain "java/lang/Object" none with
  accessFlags := 33
  interfaces := #[]
  cf := some (fileOf pool0 8 #[] #[{ accessFlags := 1, nameIndex := 5, descriptorIndex := 6, attributes := #[] }] 33 0 #[] #[])
  fields := #[]
  methods := #[k0m0]
  instanceTypes := #[]
  staticTypes := #[]
  resolved := Array.replicate 124 none
  statics := none }

def pool1 : Array CpInfo := pool [(2, .class_ 4), (1, u "java/lang/Object"), (0, u "<init>"), (0, u "()V"), (0, .methodref 8 9), (0, .class_ 10), (0, .nameAndType 11 12), (0, u "com/example/postie/postie/amqp/performatives/Role"), (0, u "of"), (0, u "(Z)Lcom/example/postie/postie/amqp/performatives/Role;"), (0, .methodref 8 14), (0, .nameAndType 15 16), (0, u "value"), (0, u "()Z"), (0, .fieldref 8 18), (0, .nameAndType 19 20), (0, u "RECEIVER"), (0, u "Lcom/example/postie/postie/amqp/performatives/Role;"), (0, .fieldref 8 22), (0, .nameAndType 23 20), (0, u "SENDER"), (0, .class_ 25), (0, u "com/example/postie/postie/amqp/performatives/RoleOfPinLaw"), (2, u "law"), (0, u "(I)Z")] 3

def k1m0 : Method := { name := "<init>", desc := "()V", sig := { parameters := [], returnType := none }, accessFlags := 1, code := none }
def k1c1 : Code := { maxStack := 2, maxLocals := 3, code := code, exceptionTable := #[], attributes := #[] }
def k1m1 : Method := { name := "law", desc := "(I)Z", sig := { parameters := [.int], returnType := some .boolean }, accessFlags := 9, code := some k1c1 }
/-- com/example/postie/postie/amqp/performatives/RoleOfPinLaw -/
def k1 : Class := { plain "com/example/postie/postie/amqp/performatives/RoleOfPinLaw" (some 0) with
  accessFlags := 49
  interfaces := #[]
  cf := some (fileOf pool1 24 #[] #[{ accessFlags := 1, nameIndex := 5, descriptorIndex := 6, attributes := #[] }, { accessFlags := 9, nameIndex := 28, descriptorIndex := 29, attributes := #[] }] 49 2 #[] #[])
  fields := #[]
  methods := #[k1m0, k1m1]
  instanceTypes := #[]
  staticTypes := #[]
  resolved := Array.replicate 33 none
  statics := none }

def pool2 : Array CpInfo := pool [(1, .class_ 2), (0, u "java/lang/constant/Constable"), (0, .class_ 4), (0, u "java/lang/Object")] 6

/-- java/lang/constant/Constable -/
def k2 : Class := { plain "java/lang/constant/Constable" (some 0) with
  accessFlags := 1537
  interfaces := #[]
  cf := some (fileOf pool2 1 #[] #[] 1537 3 #[] #[])
  fields := #[]
  methods := #[]
  instanceTypes := #[]
  staticTypes := #[]
  resolved := Array.replicate 11 none
  statics := none }

def pool3 : Array CpInfo := pool [(1, .class_ 2), (0, u "java/lang/Comparable"), (0, .class_ 4), (0, u "java/lang/Object")] 7

/-- java/lang/Comparable -/
def k3 : Class := { plain "java/lang/Comparable" (some 0) with
  accessFlags := 1537
  interfaces := #[]
  cf := some (fileOf pool3 1 #[] #[] 1537 3 #[] #[])
  fields := #[]
  methods := #[]
  instanceTypes := #[]
  staticTypes := #[]
  resolved := Array.replicate 12 none
  statics := none }

def pool4 : Array CpInfo := pool [(1, .class_ 2), (0, u "java/io/Serializable"), (0, .class_ 4), (0, u "java/lang/Object")] 2

/-- java/io/Serializable -/
def k4 : Class := { plain "java/io/Serializable" (some 0) with
  accessFlags := 1537
  interfaces := #[]
  cf := some (fileOf pool4 1 #[] #[] 1537 3 #[] #[])
  fields := #[]
  methods := #[]
  instanceTypes := #[]
  staticTypes := #[]
  resolved := Array.replicate 7 none
  statics := none }

def pool5 : Array CpInfo := pool [(2, .class_ 4), (1, u "java/lang/Enum"), (0, u "name"), (0, u "Ljava/lang/String;"), (2, u "ordinal"), (0, u "I"), (1, .class_ 14), (1, u "java/lang/Object"), (4, u "hash"), (86, .class_ 108), (1, u "java/lang/Enum$EnumDesc"), (2, .class_ 112), (0, u "java/lang/constant/Constable"), (0, .class_ 114), (0, u "java/lang/Comparable"), (0, .class_ 116), (0, u "java/io/Serializable")] 87

/-- java/lang/Enum -/
def k5 : Class := { plain "java/lang/Enum" (some 0) with
  accessFlags := 1057
  interfaces := #[2, 3, 4]
  cf := some (fileOf pool5 2 #[.nestMembers #[106]] #[] 1057 12 #[111, 113, 115] #[{ accessFlags := 18, nameIndex := 5, descriptorIndex := 6, attributes := #[] }, { accessFlags := 18, nameIndex := 9, descriptorIndex := 10, attributes := #[] }, { accessFlags := 2, nameIndex := 19, descriptorIndex := 10, attributes := #[] }])
  fields := #[{ name := "name", type := (.object "java/lang/String"), accessFlags := 18, slot := 0, constantValue := 0 }, { name := "ordinal", type := .int, accessFlags := 18, slot := 1, constantValue := 0 }, { name := "hash", type := .int, accessFlags := 2, slot := 2, constantValue := 0 }]
  methods := #[]
  instanceTypes := #[(.object "java/lang/String"), .int, .int]
  staticTypes := #[]
  resolved := Array.replicate 204 none
  statics := none }

def pool6 : Array CpInfo := pool [(1, .class_ 2), (0, u "com/example/postie/postie/amqp/performatives/Role"), (0, .fieldref 1 4), (0, .nameAndType 5 6), (0, u "SENDER"), (0, u "Lcom/example/postie/postie/amqp/performatives/Role;"), (0, .fieldref 1 8), (0, .nameAndType 9 6), (0, u "RECEIVER"), (2, u "$VALUES"), (0, u "[Lcom/example/postie/postie/amqp/performatives/Role;"), (6, .class_ 22), (1, u "java/lang/Enum"), (20, u "of"), (0, u "(Z)Lcom/example/postie/postie/amqp/performatives/Role;"), (1, u "value"), (0, u "()Z")] 4

def k6c0 : Code := { maxStack := 1, maxLocals := 1, code := prog_49_method_4_code, exceptionTable := #[], attributes := #[] }
def k6m0 : Method := { name := "of", desc := "(Z)Lcom/example/postie/postie/amqp/performatives/Role;", sig := { parameters := [.boolean], returnType := some (.object "com/example/postie/postie/amqp/performatives/Role") }, accessFlags := 8, code := some k6c0 }
def k6c1 : Code := { maxStack := 2, maxLocals := 1, code := prog_49_method_5_code, exceptionTable := #[], attributes := #[] }
def k6m1 : Method := { name := "value", desc := "()Z", sig := { parameters := [], returnType := some .boolean }, accessFlags := 0, code := some k6c1 }
/-- com/example/postie/postie/amqp/performatives/Role -/
def k6 : Class := { plain "com/example/postie/postie/amqp/performatives/Role" (some 5) with
  accessFlags := 16433
  interfaces := #[]
  cf := some (fileOf pool6 1 #[] #[{ accessFlags := 8, nameIndex := 43, descriptorIndex := 44, attributes := #[] }, { accessFlags := 0, nameIndex := 46, descriptorIndex := 47, attributes := #[] }] 16433 20 #[] #[{ accessFlags := 16409, nameIndex := 5, descriptorIndex := 6, attributes := #[] }, { accessFlags := 16409, nameIndex := 9, descriptorIndex := 6, attributes := #[] }, { accessFlags := 4122, nameIndex := 12, descriptorIndex := 13, attributes := #[] }])
  fields := #[{ name := "SENDER", type := (.object "com/example/postie/postie/amqp/performatives/Role"), accessFlags := 16409, slot := 0, constantValue := 0 }, { name := "RECEIVER", type := (.object "com/example/postie/postie/amqp/performatives/Role"), accessFlags := 16409, slot := 1, constantValue := 0 }, { name := "$VALUES", type := (.array (.object "com/example/postie/postie/amqp/performatives/Role")), accessFlags := 4122, slot := 2, constantValue := 0 }]
  methods := #[k6m0, k6m1]
  instanceTypes := #[(.object "java/lang/String"), .int, .int]
  staticTypes := #[(.object "com/example/postie/postie/amqp/performatives/Role"), (.object "com/example/postie/postie/amqp/performatives/Role"), (.array (.object "com/example/postie/postie/amqp/performatives/Role"))]
  resolved := Array.replicate 52 none
  statics := some 0 }

def pool7 : Array CpInfo := pool [(1, u "java/lang/Cloneable"), (0, .class_ 1), (0, u "java/lang/Object"), (0, .class_ 3)] 3

/-- java/lang/Cloneable -/
def k7 : Class := { plain "java/lang/Cloneable" (some 0) with
  accessFlags := 1537
  interfaces := #[]
  cf := some (fileOf pool7 2 #[] #[] 1537 4 #[] #[])
  fields := #[]
  methods := #[]
  instanceTypes := #[]
  staticTypes := #[]
  resolved := Array.replicate 8 none
  statics := none }

/-- the primitive byte -/
def k8 : Class := { plain "byte" none with kind := .primitive 'B', accessFlags := 0x411 }
/-- [B -/
def k9 : Class := { plain "[B" (some 0) with kind := .array 8 .byte, interfaces := #[7, 4], accessFlags := 1041 }

/-- the primitive int -/
def k10 : Class := { plain "int" none with kind := .primitive 'I', accessFlags := 0x411 }
/-- [I -/
def k11 : Class := { plain "[I" (some 0) with kind := .array 10 .int, interfaces := #[7, 4], accessFlags := 1041 }

def heap : Heap := #[{ cls := 6, slots := #[.ref 1, .ref 2, .null], vm := .statics 6 },
  { cls := 6, slots := #[.null, .int 0, .int 0], vm := .none },
  { cls := 6, slots := #[.null, .int 1, .int 0], vm := .none }]
def classes : Array Class := #[k0, k1, k2, k3, k4, k5, k6, k7, k8, k9, k10, k11]
def interned : List (Array UInt16 × Addr) := []
def slotsUsed : Nat := 9
def theMethod : MethodId := ⟨1, 1⟩
def args0 : Array Value := #[.int 5]
def aboutOver (below : List Frame) : State where
  vm := { classes := classes, interned := interned.toArray }
  heap := heap
  slotsUsed := slotsUsed
  threads := #[{ frames := .invoking theMethod args0 :: below }]
def below0 : List Frame := [.native { method := ⟨0, 0⟩, args := #[] }]
def about1 : State := aboutOver below0
def p0 : Program := .bare "" "" ""
def e0 : Env := launch0.env 0 0 0
theorem w_frames : about1.frames = Frame.invoking theMethod args0 :: below0 := rfl
set_option maxRecDepth 65536 in
theorem w_args : argsFit about1.vm theMethod args0 = true := by decide +kernel
set_option maxRecDepth 65536 in
theorem w_heap : heapFits about1 = true := by decide +kernel
set_option maxRecDepth 65536 in
theorem w_runnable : about1.curStatus? = some .runnable := by decide +kernel
set_option maxRecDepth 65536 in
theorem w_alone : about1.alone = true := by decide +kernel
set_option maxRecDepth 65536 in
theorem w_named : about1.methodNamed? x = some theMethod := by decide +kernel
set_option maxRecDepth 65536 in
theorem w_hears : about1.hears theMethod below0 = true := by decide +kernel
set_option maxRecDepth 65536 in
theorem w_ripe : about1.ripe theMethod args0 below0 = true := by decide +kernel
theorem w_running : about1.status = .running := rfl
set_option maxRecDepth 65536 in
theorem w_room : about1.hasRoom e0.platform room_1 = true :=
  launch0.hasRoom_least _ room_1 (by decide +kernel) (by decide +kernel) (by decide +kernel) (by decide +kernel) (by decide +kernel) (by decide +kernel)
theorem allAtoms_all (ts : List Jvm.Cond) (a : Array Jvm.Value) (st : Jvm.State) : (allAtoms ts).before a st = ts.all (fun c => c.before a st) := by
  induction ts with
  | nil => rfl
  | cons c t ih =>
    show (Jvm.Cond.and c (allAtoms t)).before a st = _
    rw [Jvm.Cond.before_and, ih, List.all_cons]
def words1 : List Jvm.Cond := Jvm.Cond.code x code maxLocals ret :: tables_1
/-- a 'code' word, met by the world's own term for the bytes: nothing is compared byte by byte -/
theorem code_word {y : MethodName} {bytes : ByteArray} {mx : Nat} {rt : Option FieldType} {a : Array Value} {s : State} {m : MethodId} {meth : Method} {c : Code} (h1 : s.methodNamed? y = some m) (h2 : s.vm.method? m = some meth) (h3 : meth.code = some c) (h4 : c.code = bytes)
    (h5 : (c.maxLocals == mx && c.exceptionTable.isEmpty && decide (c.maxStack ≤ mostOperands) && decide (meth.sig.returnType = rt) && !meth.locks && decide (parseMethodDescriptor y.desc = some meth.sig)) = true) : (Jvm.Cond.code y bytes mx rt).before a s = true := by
  simp only [Bool.and_eq_true, beq_iff_eq, Bool.not_eq_true', decide_eq_true_eq] at h5
  obtain ⟨⟨⟨⟨⟨g1, g2⟩, g3⟩, g4⟩, g5⟩, g6⟩ := h5
  simp [Cond.before, Cond.holds, Cond.value, h1, h2, h3, h4, g1, g2, g3, g4, g5, g6]
def isCode : Jvm.Cond → Bool
  | .code _ _ _ _ => true
  | _ => false
theorem all_split {L : List Jvm.Cond} {P : Jvm.Cond → Bool} (h1 : L.all (fun c => isCode c || P c) = true) (h2 : ∀ c ∈ L.filter isCode, P c = true) : L.all P = true := by
  refine List.all_eq_true.mpr fun c hc => ?_
  have h := List.all_eq_true.mp h1 c hc
  rcases Bool.eq_false_or_eq_true (isCode c) with hi | hi
  · exact h2 c (List.mem_filter.mpr ⟨hc, hi⟩)
  · simpa [hi] using h
set_option maxRecDepth 65536 in
theorem w_c0 : (Jvm.Cond.code x code maxLocals ret).before args0 about1 = true := code_word (m := ⟨1, 1⟩) (meth := k1m1) (c := k1c1) (by decide +kernel) rfl rfl rfl (by decide +kernel)
set_option maxRecDepth 65536 in
theorem w_c1 : (Jvm.Cond.code ({ cls := "com/example/postie/postie/amqp/performatives/Role", name := "of", desc := "(Z)Lcom/example/postie/postie/amqp/performatives/Role;" } : Jvm.MethodName) prog_49_method_4_code (1 : Nat) (Option.some (Jvm.ClassFile.FieldType.object "com/example/postie/postie/amqp/performatives/Role"))).before args0 about1 = true := code_word (m := ⟨6, 0⟩) (meth := k6m0) (c := k6c0) (by decide +kernel) rfl rfl rfl (by decide +kernel)
set_option maxRecDepth 65536 in
theorem w_c2 : (Jvm.Cond.code ({ cls := "com/example/postie/postie/amqp/performatives/Role", name := "value", desc := "()Z" } : Jvm.MethodName) prog_49_method_5_code (1 : Nat) (Option.some Jvm.ClassFile.FieldType.boolean)).before args0 about1 = true := code_word (m := ⟨6, 1⟩) (meth := k6m1) (c := k6c1) (by decide +kernel) rfl rfl rfl (by decide +kernel)
def codes1 : List Jvm.Cond := [Jvm.Cond.code x code maxLocals ret, Jvm.Cond.code ({ cls := "com/example/postie/postie/amqp/performatives/Role", name := "of", desc := "(Z)Lcom/example/postie/postie/amqp/performatives/Role;" } : Jvm.MethodName) prog_49_method_4_code (1 : Nat) (Option.some (Jvm.ClassFile.FieldType.object "com/example/postie/postie/amqp/performatives/Role")), Jvm.Cond.code ({ cls := "com/example/postie/postie/amqp/performatives/Role", name := "value", desc := "()Z" } : Jvm.MethodName) prog_49_method_5_code (1 : Nat) (Option.some Jvm.ClassFile.FieldType.boolean)]
set_option maxRecDepth 65536 in
theorem codes_eq : words1.filter isCode = codes1 := rfl
theorem w_codes : ∀ c ∈ words1.filter isCode, c.before args0 about1 = true := by
  rw [codes_eq]
  intro c hc
  simp only [codes1, List.mem_cons, List.not_mem_nil, or_false] at hc
  rcases hc with rfl | rfl | rfl
  · exact w_c0
  · exact w_c1
  · exact w_c2
set_option maxRecDepth 65536 in
theorem w_t1 : words1.all (fun c => isCode c || c.before args0 about1) = true := by decide +kernel
theorem w_tables : (allAtoms (Jvm.Cond.code x code maxLocals ret :: tables_1)).before args0 about1 = true := by
  rw [allAtoms_all]
  show words1.all (fun c => c.before args0 about1) = true
  refine all_split ?_ w_codes
  rw [w_t1]
set_option maxRecDepth 65536 in
theorem w_case : (Jvm.Cond.and given_1 narrow_1).before args0 about1 = true := by decide +kernel
theorem w_applies : (headSpec (Jvm.Cond.code x code maxLocals ret :: tables_1) room_1).applies x e0.platform about1 = true :=
  (Spec.applies_iff w_frames).mpr ⟨w_running, w_runnable, w_alone, w_named, w_hears, w_ripe, w_room, w_tables⟩
theorem atStart : AtStart classFile x code maxLocals ret World_1 tables_1 room_1 Calls_1 rest_1 Pre_1 launch0 p0 e0 about1 theMethod args0 below0 :=
  ⟨lists_1, trivial, launch0.admits_env _ _ _, launch0.least_env, fairChoices_fair.cas, fairChoices_fair.clock, w_frames, w_args, w_heap, w_applies, trivial, trivial, w_case⟩
end start1
theorem witness_1 : WitnessClaimed_1 := ⟨start1.p0, start1.e0, start1.about1, start1.theMethod, start1.args0, start1.below0, start1.atStart⟩
end Jvm.Pilot.@@N@@
