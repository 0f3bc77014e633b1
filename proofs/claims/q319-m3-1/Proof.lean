import JvmDerived
import JvmDerived.Pilot.@@N@@Statement
import JvmDerived.Pilot.@@N@@Code
set_option linter.unusedVariables false
set_option linter.unusedSimpArgs false
namespace Jvm.RoadKit
open Sem ClassFile Op Lib Jvm.Stand Jvm.Free Jvm.LawKit
section Own
variable {p : Program} {l : Launch} {e : Env} {R : Room} {s : State} {m : MethodId} {args : Array Value} {below : List Frame} {meth : Method} {c : Code} {T : State} {locs : List Loc} {cells slots : Nat} {Z : State} {h h' : Heap}
/-- from U the run comes to an end that G allows -/
def Go (p : Program) (e : Env) (below : List Frame) (G : Outcome → State → Prop) (U : State) : Prop := ∃ s₂ o, Steps p.tables e below U s₂ ∧ s₂.status = .running ∧ Ended s₂ below o ∧ G o s₂
theorem Go.st {G : Outcome → State → Prop} {U V : State} (h : ∀ t, Steps p.tables e below V t → Steps p.tables e below U t) (k : Go p e below G V) : Go p e below G U := by
  obtain ⟨s₂, o, a, r⟩ := k; exact ⟨s₂, o, h _ a, r⟩
theorem Go.tr {G : Outcome → State → Prop} {U V : State} (h : Steps p.tables e below U V) (k : Go p e below G V) : Go p e below G U := by
  obtain ⟨s₂, o, a, r⟩ := k; exact ⟨s₂, o, h.trans a, r⟩
theorem Go.en {G : Outcome → State → Prop} {g g' : JFrame} (q : g = g') (k : Go p e below G (T.setTop g')) : Go p e below G (T.setTop g) := q ▸ k
theorem Go.ret {Q : Option Value → Heap → List Loc → Prop} {K N : Nat} {U : State} (X : Stand p l e R s m args below meth c T locs cells slots) {v : Option Value} (hv : meth.sig.returnType = none → v = none) (hlk : meth.locks = false)
    (st : ∀ fs, (∀ (f : JFrame) (acts : List Action), f.method = m → f.locked = none → f.entered = [] → (doReturn e (T.setTop f) acts v).1 = T.setFrames fs) → Steps p.tables e below U (T.setFrames fs)) (eT : T.heap = h) (hQ : Q v h locs) (hk : cells ≤ K) (hn : slots ≤ N) :
    Go p e below (fun o s₂ => ∃ v L, o = .returned v ∧ Q v s₂.heap L ∧ FrameEnd s o s₂ L K N) U := by
  subst eT
  obtain ⟨fs, hr, hrun, hended, hW, hsame⟩ := X.leave hv hlk
  exact ⟨_, _, st fs hr, hrun, hended, _, _, rfl, hQ, ⟨_, rfl⟩, hW, hsame.mono hk hn⟩
theorem Go.retW {Q : Option Value → Heap → List Loc → Prop} {K N k0 : Nat} {U : State} {vm0 : Vm} (hS : s.Since vm0 k0) (hk0 : k0 ≤ h.size) (X : Stand p l e R (s.setVm vm0) m args below meth c T locs cells slots) {v : Option Value} (hv : meth.sig.returnType = none → v = none) (hlk : meth.locks = false)
    (st : ∀ fs, (∀ (f : JFrame) (acts : List Action), f.method = m → f.locked = none → f.entered = [] → (doReturn e (T.setTop f) acts v).1 = T.setFrames fs) → Steps p.tables e below U (T.setFrames fs)) (eT : T.heap = h) (hQ : Q v h locs) (hk : cells ≤ K) (hn : slots ≤ N) :
    Go p e below (fun o s₂ => ∃ v L, o = .returned v ∧ Q v s₂.heap L ∧ ReturnedEndW s o s₂ L K N) U := by
  subst eT
  obtain ⟨fs, hr, hrun, hended, hR⟩ := X.leaveW hS hk0 hv hlk
  exact ⟨_, _, st fs hr, hrun, hended, _, _, rfl, hQ, hR.1, hR.2.1, hR.2.2.1, hR.2.2.2.mono hk hn⟩
/-- RoadKit's backOfS for a callee that is told what the constants hold -/
theorem backOfSC {y : MethodName} {bytes : ByteArray} {maxL : Nat} {ret : Option FieldType} {rm : Room} {len W : Nat} {as' : Array Value} {Q : Option Value → Heap → List Loc → Prop} {EL : List (String × Nat)} {vm0 : Vm} {a0 : Array Value}
    (hM : MetFree l y (head1 [Cond.code y bytes maxL ret] rm) (fun a U => a = as' ∧ Z.Warmed39 U.vm ∧ U.heap = h ∧ CHv Z EL U.vm h) (fun _ _ _ _ _ => True) (fun _ U o U' => ∃ v L, o = .returned v ∧ Q v U'.heap L ∧ ReturnedEndW U o U' L rm.cells rm.slots))
    (hZ : Z.Warmed39 vm0) (wc : (Cond.code y bytes maxL ret).before a0 Z = true) (wz : (Cond.initialized y.cls).before a0 Z = true) (hf : rm.frames + 1 ≤ R.frames) (hl : W + (maxL + 11) + rm.locals ≤ R.locals) (hEL : EW Z a0 EL) (H : CHv Z EL vm0 h) :
    BackS l R p e below (s.setVm vm0) args y len W (fun A a => a = as' ∧ A.U.heap = h ∧ A.cells + rm.cells ≤ R.cells ∧ A.slots + rm.slots ≤ R.slots)
      (fun A _ v B => ∃ L, Q v B.U.heap L ∧ B.locs = A.locs ++ L ∧ B.cells = A.cells + rm.cells ∧ B.slots = A.slots + rm.slots) :=
  BackS.of_freeW (bytes := bytes) (maxL := maxL) (ret := ret) (E := fun _ _ o t L k n => k = rm.cells ∧ n = rm.slots ∧ ∃ v, o = .returned v ∧ Q v t.heap L) hM hf hl
    (fun m meth c A a Y hp => by
      have hU : Z.Warmed39 A.U.vm := wtrans (s := s.setVm vm0) hZ Y.warmed
      exact ⟨by show (Cond.and _ .tt).before a A.U = true; rw [Cond.before_and, mv hU wc]; rfl, mv hU wc, mv hU wz, hp.2.2.1, hp.2.2.2⟩)
    (fun m meth c A a g mk Y hp => ⟨hp.1, wtrans (s := s.setVm vm0) hZ Y.warmed, hp.2.1, (CHv.at Y hZ hEL H).1⟩) (fun _ _ _ _ _ _ _ _ _ => trivial)
    (fun _ _ _ _ ⟨v, L, h1, h2, h3⟩ => ⟨L, _, _, h3, rfl, rfl, v, h1, h2⟩)
    (fun m meth c A a g mk v t L k n Y hp _ _ ⟨e1, e2, v', e3, e4⟩ => by cases e3; subst e1 e2; exact ⟨L, e4, rfl, rfl, rfl⟩)
theorem staKeep0 {C n d : String} {v : Value} (F : Sta Z h C n d v) (K : Keep h h' []) : Sta Z h' C n d v := by
  obtain ⟨cf, i, k, f, st, cell, h1, h2, h3, h4, h5, r⟩ := F
  exact ⟨cf, i, k, f, st, cell, h1, h2, h3, h4, K.2.1 _ _ h5 nin0, r⟩
theorem staKeepE {C n d O : String} {v : Value} {a : Addr} (F : Sta Z h C n d v) (K : Keep h h' [a]) (E : Exa Z h a O) : Sta Z h' C n d v := by
  obtain ⟨cf, i, k, f, st, cell, h1, h2, h3, h4, h5, h6, r⟩ := F
  obtain ⟨c', k', e1, -, -, e4, -⟩ := E
  have ne : st ≠ a := fun q => by subst q; cases h5.symm.trans e1; rw [h6] at e4; cases e4
  exact ⟨cf, i, k, f, st, cell, h1, h2, h3, h4, K.2.1 _ _ h5 (ninS ne nin0), h6, r⟩
/-- getfield where the sheet says the reference resolved -/
theorem getFR (X : Stand p l e R s m args below meth c T locs cells slots) (hx : p.tables.exec = Jvm.exec) (hZ : Z.Warmed39 s.vm) {a0 : Array Value} {own O n d : String} {index : Nat} (hown : s.vm.findClass own = some m.cls) (w : (Cond.fieldRef own index O n d).before a0 Z = true)
    (eT : T.heap = h) {a : Addr} {v : Value} (F : Fld Z h a O n d v) {g : JFrame} (hg : g.method = m) {rest : List Value} (hs : g.stack = .ref a :: rest) (hd : decode c.code g.pc = .ok (.getfield index, 3)) :
    ∀ target, Steps p.tables e below (T.setTop { g with pc := g.pc + 3, stack := v :: rest }) target → Steps p.tables e below (T.setTop g) target := by
  intro target hrest
  obtain ⟨cell, cf, k, i, f, h1, h2, h3, h4, -, -, h7⟩ := F
  have hW : Z.Warmed39 T.vm := wtrans hZ X.warmed
  have q := Cond.fieldRef_warmed39 hW w
  have hcur : (Z.setVm T.vm).vm.findClass own = some m.cls := by
    show T.vm.findClass own = some m.cls
    rw [X.warmed.alike.findClass]; exact hown
  obtain ⟨c', k', i', f', hi, hready⟩ := Cond.fieldRef_spec hcur q
  obtain ⟨k2, hi2, -⟩ := State.fieldFound?_setVm (s := Z) hW.alike h2
  have q3 : (Z.setVm T.vm).fieldFound? O n d = some (cf, k2, i, f) := hi2
  cases hi.symm.trans q3
  subst hg
  jvm_step X.here [hx, hd, getfield.wp_ready (e := e) (s := T) (f := g) X.here.top hready h3 hs (by rw [eT]; exact h1) h4 h7]
  exact hrest
/-- an array of that kind and length, whatever it holds -/
def Arn (Z : State) (h : Heap) (a : Addr) (ty : FieldType) (z : Int32) : Prop := ∃ c : Cell, Arr Z h a c ty ∧ c.slots.size = z.toNatClampNeg ∧ ¬ z < 0
section Arn
variable {a b : Addr} {ty : FieldType} {z : Int32} {sl : Nat} {v : Value} {ws : List Addr}
theorem Arn.lt (F : Arn Z h a ty z) : a < h.size := by obtain ⟨c, A, -⟩ := F; exact A.lt
theorem Arn.ext (F : Arn Z h a ty z) (E : Ext h h') : Arn Z h' a ty z := by obtain ⟨c, A, r⟩ := F; exact ⟨c, A.ext E, r⟩
theorem Arn.other (F : Arn Z h b ty z) (W : Wr h h' a sl v) (q : b ≠ a) : Arn Z h' b ty z := by obtain ⟨c, A, r⟩ := F; exact ⟨c, A.other W q, r⟩
theorem Arn.keep (F : Arn Z h a ty z) (K : Keep h h' ws) (q : a ∉ ws) : Arn Z h' a ty z := by obtain ⟨c, A, r⟩ := F; exact ⟨c, ⟨K.2.1 a c A.1 q, A.2⟩, r⟩
theorem Arn.set {c : Cell} (A : Arr Z h a c ty) (S : c.slots.size = z.toNatClampNeg) (q : ¬ z < 0) (W : Wr h h' a sl v) : Arn Z h' a ty z := ⟨_, A.same W, by rw [sz_set]; exact S, q⟩
theorem Arv.arn {k : ClassId} {vs : List Value} {dv : Value} (F : Arv Z h a k ty z vs dv) : Arn Z h a ty z := by obtain ⟨c, A, -, S, q, -⟩ := F; exact ⟨c, A, S, q⟩
end Arn
theorem staKeepA {C n d : String} {v : Value} {a : Addr} {ty : FieldType} {z : Int32} (F : Sta Z h C n d v) (K : Keep h h' [a]) (E : Arn Z h a ty z) : Sta Z h' C n d v := by
  obtain ⟨cf, i, k, f, st, cell, h1, h2, h3, h4, h5, h6, r⟩ := F
  obtain ⟨c', A, -⟩ := E
  have e4 := A.plain
  have ne : st ≠ a := fun q => by subst q; cases h5.symm.trans A.1; rw [h6] at e4; cases e4
  exact ⟨cf, i, k, f, st, cell, h1, h2, h3, h4, K.2.1 _ _ h5 (ninS ne nin0), h6, r⟩
theorem own_nn {n : Int32} (h : 0 ≤ n.toInt) : ¬ n < 0 := by rw [Int32.lt_iff_toInt_lt]; show ¬ n.toInt < 0; omega
theorem own_cap {n : Int32} {k : Nat} (h : n.toInt ≤ k) : n.toNatClampNeg ≤ k := by simp only [Int32.toNatClampNeg]; omega
theorem own_inc {i z : Int32} (h0 : ¬ i < 0) (h : i < z) : ¬ (i + 1) < 0 ∧ (i + 1).toInt = i.toInt + 1 := by
  have h1 := c_iadd i 1; have h2 := rng32 z; have h3 := rng32 i; have h4 := rng32 (i + 1)
  rw [Int32.lt_iff_toInt_lt] at h0 h ⊢
  have e0 : (0 : Int32).toInt = 0 := rfl
  have e1 : (1 : Int32).toInt = 1 := rfl
  rw [e0] at h0 ⊢; rw [e1] at h1
  omega
theorem own_ge {i z : Int32} (h : z.toInt ≤ i.toInt) : ¬ i < z := by rw [Int32.lt_iff_toInt_lt]; omega
theorem staInt {args : Array Value} {C n d : String} {k : Int32} (h : (Cond.eq (.static C n d) (.int k)).value args Z none Z [] = some true) (hi : (Cond.initializedFor C n d).before args Z = true ∨ ((Cond.initialized C).before args Z = true ∧ (Cond.laysStatic C n d).before args Z = true)) : Sta Z Z.heap C n d (.int k) := by
  obtain ⟨x, y, e1, e2, k1, -⟩ := cmp_v (Or.inl h)
  have e3 : (Term.int k).eval args Z none [] Z = some (.int k) := Term.int_eval k
  cases e2.symm.trans e3
  cases x with
  | int z =>
    have q : (Cond.eq (.static C n d) (.int k)).value args Z none Z [] = some (decide (z = k)) := by simp [Cond.value, e1, e3]
    exact (gotT q h) ▸ Sta.start e1 hi
  | _ => simp [Kin, Value.isRef] at k1
theorem fldNull {args : Array Value} {t : Term} {C n d : String} {a : Addr} (ev : t.eval args Z none [] Z = some (.ref a)) (h : (Cond.eq (.field t C n d) .null).value args Z none Z [] = some true) : Fld Z Z.heap a C n d .null := by
  have e1 := null_v h
  rw [fld_at ev] at e1
  exact Fld.start e1
theorem fldStart {args : Array Value} {t : Term} {C n d : String} {a : Addr} {k : Int32} (ev : t.eval args Z none [] Z = some (.ref a)) (h : (Cond.eq (.field t C n d) (.int k)).value args Z none Z [] = some true) : Fld Z Z.heap a C n d (.int k) := by
  obtain ⟨x, y, e1, e2, k1, -⟩ := cmp_v (Or.inl h)
  rw [fld_at ev] at e1
  have e3 : (Term.int k).eval args Z none [] Z = some (.int k) := Term.int_eval k
  cases e2.symm.trans e3
  cases x with
  | int z =>
    have q : (Cond.eq (.field t C n d) (.int k)).value args Z none Z [] = some (decide (z = k)) := by simp [Cond.value, (fld_at ev).trans e1, e3]
    exact (gotT q h) ▸ Fld.start e1
  | _ => simp [Kin, Value.isRef] at k1
end Own
end Jvm.RoadKit
namespace Jvm.Pilot.@@N@@
open Jvm Jvm.ClassFile Sem Op Lib Jvm.Free Jvm.Stand Jvm.LawKit Jvm.RoadKit Bundle Jvm.Pilot.@@N@@.Jvm.D

theorem pn_0 : plainName "com/example/mergewell/mergewell/history/DivergingPairVersionPinLaw" = true := by first | (simp [plainName, overriddenIn]; done) | decide +kernel
theorem ef_0 (m : MethodId) (x0 : Int32) (x1 : Int32) (x2 : Int32) (x3 : Int32) : entryFrame m #[(.int x0), (.int x1), (.int x2), (.int x3)] maxLocals = mkF m 0 #[.val (.int x0), .val (.int x1), .val (.int x2), .val (.int x3), .unset, .unset, .unset, .unset, .unset, .unset] [] := by first | (simp [entryFrame, mkF, argsToLocals, Value.category, maxLocals]; done) | rfl
theorem d1_0 : decode prog_67_method_1_code 0 = .ok (.aload_n 0, 1) := by decide +kernel
theorem d1_1 : decode prog_67_method_1_code 1 = .ok (.invokespecial 1, 3) := by decide +kernel
theorem d1_4 : decode prog_67_method_1_code 4 = .ok (.aload_n 0, 1) := by decide +kernel
theorem d1_5 : decode prog_67_method_1_code 5 = .ok (.iload_n 1, 1) := by decide +kernel
theorem d1_6 : decode prog_67_method_1_code 6 = .ok (.putfield 7, 3) := by decide +kernel
theorem d1_9 : decode prog_67_method_1_code 9 = .ok (.aload_n 0, 1) := by decide +kernel
theorem d1_10 : decode prog_67_method_1_code 10 = .ok (.iload_n 2, 1) := by decide +kernel
theorem d1_11 : decode prog_67_method_1_code 11 = .ok (.putfield 13, 3) := by decide +kernel
theorem d1_14 : decode prog_67_method_1_code 14 = .ok (.aload_n 0, 1) := by decide +kernel
theorem d1_15 : decode prog_67_method_1_code 15 = .ok (.iload_n 3, 1) := by decide +kernel
theorem d1_16 : decode prog_67_method_1_code 16 = .ok (.putfield 16, 3) := by decide +kernel
theorem d1_19 : decode prog_67_method_1_code 19 = .ok (.return_, 1) := by decide +kernel
theorem pn_1 : plainName "com/example/mergewell/mergewell/history/DivergingPair" = true := by first | (simp [plainName, overriddenIn]; done) | decide +kernel
theorem ef_1 (m : MethodId) (x0 : Addr) (x1 : Int32) (x2 : Int32) (x3 : Int32) : entryFrame m #[(.ref x0), (.int x1), (.int x2), (.int x3)] 4 = mkF m 0 #[.val (.ref x0), .val (.int x1), .val (.int x2), .val (.int x3)] [] := by first | (simp [entryFrame, mkF, argsToLocals, Value.category]; done) | rfl
theorem d2_0 : decode jdk_30_method_1_code 0 = .ok (.aload_n 0, 1) := by decide +kernel
theorem d2_1 : decode jdk_30_method_1_code 1 = .ok (.invokespecial 1, 3) := by decide +kernel
theorem d2_4 : decode jdk_30_method_1_code 4 = .ok (.return_, 1) := by decide +kernel
theorem pn_2 : plainName "java/lang/Record" = true := by first | (simp [plainName, overriddenIn]; done) | decide +kernel
theorem ef_2 (m : MethodId) (x0 : Addr) : entryFrame m #[(.ref x0)] 1 = mkF m 0 #[.val (.ref x0)] [] := by first | (simp [entryFrame, mkF, argsToLocals, Value.category]; done) | rfl
theorem d4_0 : decode prog_67_method_3_code 0 = .ok (.aload_n 1, 1) := by decide +kernel
theorem d4_1 : decode prog_67_method_3_code 1 = .ok (.getstatic 41, 3) := by decide +kernel
theorem d4_4 : decode prog_67_method_3_code 4 = .ok (.if_acmp .ne 10, 3) := by decide +kernel
theorem d4_7 : decode prog_67_method_3_code 7 = .ok (.aload_n 0, 1) := by decide +kernel
theorem d4_8 : decode prog_67_method_3_code 8 = .ok (.getfield 7, 3) := by decide +kernel
theorem d4_11 : decode prog_67_method_3_code 11 = .ok (.goto 7, 3) := by decide +kernel
theorem d4_14 : decode prog_67_method_3_code 14 = .ok (.aload_n 0, 1) := by decide +kernel
theorem d4_15 : decode prog_67_method_3_code 15 = .ok (.getfield 13, 3) := by decide +kernel
theorem d4_18 : decode prog_67_method_3_code 18 = .ok (.ireturn, 1) := by decide +kernel
theorem pn_4 : plainName "com/example/mergewell/mergewell/history/DivergingPair" = true := by first | (simp [plainName, overriddenIn]; done) | decide +kernel
theorem ef_4 (m : MethodId) (x0 : Addr) (x1 : Addr) : entryFrame m #[(.ref x0), (.ref x1)] 2 = mkF m 0 #[.val (.ref x0), .val (.ref x1)] [] := by first | (simp [entryFrame, mkF, argsToLocals, Value.category]; done) | rfl
theorem pd_0 : parseMethodDescriptor "()V" = some ⟨[], none⟩ := by decide +kernel
theorem pd_1 : parseMethodDescriptor "(III)V" = some ⟨[.int, .int, .int], none⟩ := by decide +kernel
theorem pd_2 : parseMethodDescriptor "(Lcom/example/mergewell/mergewell/core/merge/Side;)I" = some ⟨[(.object "com/example/mergewell/mergewell/core/merge/Side")], some .int⟩ := by decide +kernel
def Qm2_o (Z : State) (a1 : Addr) (h0 : Heap) (n0 : Nat) (v : Option Value) (h : Heap) (L : List Loc) : Prop := v = none ∧ Fr n0 L ∧ h = h0
set_option maxRecDepth 65536 in
set_option maxHeartbeats 40000000 in
theorem rm2_o (l : Launch) (Z : State) (a0 : Array Value) (hw : ∀ d ∈ tables_1, d.before a0 Z = true) (ws : List Jvm.Cond) (a1 : Addr) (h0 : Heap) (n0 : Nat) (Z0 : n0 ≤ h0.size) :
    MetFree l (⟨"java/lang/Record", "<init>", "()V"⟩ : MethodName) (head1 (Jvm.Cond.code (⟨"java/lang/Record", "<init>", "()V"⟩ : MethodName) jdk_30_method_1_code 1 none :: ws) ({ frames := 1, cells := 0, slots := 0, locals := 12 } : Room)) (fun a U => a = #[(.ref a1)] ∧ Z.Warmed39 U.vm ∧ U.heap = h0) (fun _ _ _ _ _ => True) (fun _ U o U' => ∃ v L, o = .returned v ∧ Qm2_o Z a1 h0 n0 v U'.heap L ∧ FrameEnd U o U' L ({ frames := 1, cells := 0, slots := 0, locals := 12 } : Room).cells ({ frames := 1, cells := 0, slots := 0, locals := 12 } : Room).slots) := by
  refine MetFree.of_bodySF (plainFor_of_name pn_2) hisR ?_
  intro p e s m args below meth c s₁ Bd hml0 hP hK
  obtain ⟨rfl, hZ, hh⟩ := hP
  have hx := Bd.exec
  have hby := Bd.bytes
  have hml : c.maxLocals = 1 := hml0
  have hown : s.vm.findClass "java/lang/Record" = some m.cls := findClass_of_methodNamed Bd.named
  have hnm := (name_of_methodNamed Bd.named Bd.method).1
  have X0 : Stand p l e ({ frames := 1, cells := 0, slots := 0, locals := 12 } : Room) s m #[(.ref a1)] below meth c s₁ [] 0 0 := Stand.of_body Bd
  have e0 : s₁.heap = h0 := by rw [← hh, Bd.state]; rfl
  have N0 := Fr.nil n0
  refine Go.en (ef_2 m a1) ?_
  show Go p e below _ (s₁.setTop (mkF m 0 #[.val (.ref a1)] []))
  refine Go.st (fun _ kk => XS.aloadN X0.here hx rfl (hb hby d2_0) rfl rfl  kk) ?_
  show Go p e below _ (s₁.setTop (mkF m 1 #[.val (.ref a1)] [(.ref a1)]))
  obtain ⟨T2, X2, e2, st2⟩ := initO X0 hx hZ hown (hw _ (List.mem_of_getElem? (i := 11) rfl)) (hw _ (List.mem_of_getElem? (i := 12) rfl)) (hw _ (List.mem_of_getElem? (i := 13) rfl)) e0 (g := (mkF m 1 #[.val (.ref a1)] [(.ref a1)])) rfl (by rw [hml]; rfl) rfl (hb hby d2_1) (by decide) (W := 0) (by show 2 * 0 + _ ≤ _; exact Nat.le_of_eq rfl) (by decide)
  refine Go.st st2 ?_
  show Go p e below _ (T2.setTop (mkF m 4 #[.val (.ref a1)] []))
  exact Go.ret (Q := Qm2_o Z a1 h0 n0) X2 (v := none) (fun _ => rfl) Bd.notSynchronized (fun fs hr => X2.returnOut hx Bd.returns (hb hby d2_4) hr) e2 ⟨rfl, N0, rfl⟩ (by decide) (by decide)
def Qm1_o (Z : State) (a1 : Addr) (p2 : Int32) (p3 : Int32) (p4 : Int32) (u_left_a1 : Value) (u_right_a1 : Value) (u_base_a1 : Value) (h0 : Heap) (n0 : Nat) (v : Option Value) (h : Heap) (L : List Loc) : Prop := v = none ∧ Fr n0 L ∧ Keep h0 h [a1] ∧ Exa Z h a1 "com/example/mergewell/mergewell/history/DivergingPair" ∧ Fld Z h a1 "com/example/mergewell/mergewell/history/DivergingPair" "left" "I" (.int p2) ∧ Fld Z h a1 "com/example/mergewell/mergewell/history/DivergingPair" "right" "I" (.int p3) ∧ Fld Z h a1 "com/example/mergewell/mergewell/history/DivergingPair" "base" "I" (.int p4)
set_option maxRecDepth 65536 in
set_option maxHeartbeats 40000000 in
theorem rm1_o (l : Launch) (Z : State) (a0 : Array Value) (hw : ∀ d ∈ tables_1, d.before a0 Z = true) (ws : List Jvm.Cond) (a1 : Addr) (p2 : Int32) (p3 : Int32) (p4 : Int32) (u_left_a1 : Value) (u_right_a1 : Value) (u_base_a1 : Value) (h0 : Heap) (n0 : Nat) (Z0 : n0 ≤ h0.size) (E_a1 : Exa Z h0 a1 "com/example/mergewell/mergewell/history/DivergingPair") (F_left_a1 : Fld Z h0 a1 "com/example/mergewell/mergewell/history/DivergingPair" "left" "I" u_left_a1) (g_a1 : n0 ≤ a1) (F_right_a1 : Fld Z h0 a1 "com/example/mergewell/mergewell/history/DivergingPair" "right" "I" u_right_a1) (F_base_a1 : Fld Z h0 a1 "com/example/mergewell/mergewell/history/DivergingPair" "base" "I" u_base_a1) :
    MetFree l (⟨"com/example/mergewell/mergewell/history/DivergingPair", "<init>", "(III)V"⟩ : MethodName) (head1 (Jvm.Cond.code (⟨"com/example/mergewell/mergewell/history/DivergingPair", "<init>", "(III)V"⟩ : MethodName) prog_67_method_1_code 4 none :: ws) ({ frames := 2, cells := 0, slots := 0, locals := 24 } : Room)) (fun a U => a = #[(.ref a1), (.int p2), (.int p3), (.int p4)] ∧ Z.Warmed39 U.vm ∧ U.heap = h0) (fun _ _ _ _ _ => True) (fun _ U o U' => ∃ v L, o = .returned v ∧ Qm1_o Z a1 p2 p3 p4 u_left_a1 u_right_a1 u_base_a1 h0 n0 v U'.heap L ∧ FrameEnd U o U' L ({ frames := 2, cells := 0, slots := 0, locals := 24 } : Room).cells ({ frames := 2, cells := 0, slots := 0, locals := 24 } : Room).slots) := by
  refine MetFree.of_bodySF (plainFor_of_name pn_1) hisR ?_
  intro p e s m args below meth c s₁ Bd hml0 hP hK
  obtain ⟨rfl, hZ, hh⟩ := hP
  have hx := Bd.exec
  have hby := Bd.bytes
  have hml : c.maxLocals = 4 := hml0
  have hown : s.vm.findClass "com/example/mergewell/mergewell/history/DivergingPair" = some m.cls := findClass_of_methodNamed Bd.named
  have hnm := (name_of_methodNamed Bd.named Bd.method).1
  have X0 : Stand p l e ({ frames := 2, cells := 0, slots := 0, locals := 24 } : Room) s m #[(.ref a1), (.int p2), (.int p3), (.int p4)] below meth c s₁ [] 0 0 := Stand.of_body Bd
  have e0 : s₁.heap = h0 := by rw [← hh, Bd.state]; rfl
  have N0 := Fr.nil n0
  refine Go.en (ef_1 m a1 p2 p3 p4) ?_
  show Go p e below _ (s₁.setTop (mkF m 0 #[.val (.ref a1), .val (.int p2), .val (.int p3), .val (.int p4)] []))
  refine Go.st (fun _ kk => XS.aloadN X0.here hx rfl (hb hby d1_0) rfl rfl  kk) ?_
  show Go p e below _ (s₁.setTop (mkF m 1 #[.val (.ref a1), .val (.int p2), .val (.int p3), .val (.int p4)] [(.ref a1)]))
  obtain ⟨_, _, ⟨T5, L5, k5, n5⟩, -, X5, ⟨Lc5, hQ5, l5, y5, z5⟩, st5⟩ := X0.specialBack hx (y := (⟨"java/lang/Record", "<init>", "()V"⟩ : MethodName)) rfl hown (mvT hZ (hw _ (List.mem_of_getElem? (i := 6) rfl))) (mvT hZ (hw _ (List.mem_of_getElem? (i := 7) rfl))) (mvT hZ (hw _ (List.mem_of_getElem? (i := 10) rfl))) (by decide) (backOf (W := 0) (rm2_o l Z a0 hw [] a1 h0 n0 Z0 ) hZ (hw _ (List.mem_of_getElem? (i := 10) rfl)) (hw _ (List.mem_of_getElem? (i := 9) rfl)) (by decide) (by decide)) (g := (mkF m 1 #[.val (.ref a1), .val (.int p2), .val (.int p3), .val (.int p4)] [(.ref a1)])) rfl (by rw [hml]; rfl) (Steps.refl _) (a := a1) (argsL := []) (rest := []) (lenOf pd_0 rfl) rfl (by show 2 * 0 + _ ≤ _; exact Nat.le_of_eq rfl) (hb hby d1_1) (fun _ _ => ⟨rfl, e0, (by decide : 0 + 0 ≤ _), (by decide : 0 + 0 ≤ _)⟩)
  dsimp only [Pt.U, Pt.locs, Pt.cells, Pt.slots] at X5 l5 y5 z5 st5 hQ5
  subst l5 y5 z5
  obtain ⟨rfl, N5q, eq5⟩ := hQ5
  have N5 := Fr.app N0 N5q
  refine Go.tr st5 ?_
  show Go p e below _ (T5.setTop (mkF m 4 #[.val (.ref a1), .val (.int p2), .val (.int p3), .val (.int p4)] []))
  refine Go.st (fun _ kk => XS.aloadN X5.here hx rfl (hb hby d1_4) rfl rfl  kk) ?_
  show Go p e below _ (T5.setTop (mkF m 5 #[.val (.ref a1), .val (.int p2), .val (.int p3), .val (.int p4)] [(.ref a1)]))
  refine Go.st (fun _ kk => XS.iloadN X5.here hx rfl (hb hby d1_5) rfl  kk) ?_
  show Go p e below _ (T5.setTop (mkF m 6 #[.val (.ref a1), .val (.int p2), .val (.int p3), .val (.int p4)] [(.int p2), (.ref a1)]))
  obtain ⟨T6, h6, X6, e6, W6, st6⟩ := putF X5 hx hZ hown (host := "") (Or.inl (hw _ (List.mem_of_getElem? (i := 14) rfl))) Via.refl eq5 F_left_a1 E_a1 (Or.inr ⟨(hw _ (List.mem_of_getElem? (i := 15) rfl)), rfl, hnm⟩) (hw _ (List.mem_of_getElem? (i := 1) rfl)) (ty := .int) (by decide) rfl rfl (g := (mkF m 6 #[.val (.ref a1), .val (.int p2), .val (.int p3), .val (.int p4)] [(.int p2), (.ref a1)])) rfl rfl (hb hby d1_6)
  refine Go.st st6 ?_
  have Fw6 : Fld Z h6 a1 "com/example/mergewell/mergewell/history/DivergingPair" "left" "I" (.int p2) := Fld.same W6 F_left_a1
  have K6 : Keep h0 h6 [a1] := (Keep.refl h0 [a1]).wr W6 (Or.inl (List.mem_of_getElem? (i := 0) rfl))
  have N6 := Fr.snoc X6 N5 g_a1
  show Go p e below _ (T6.setTop (mkF m 9 #[.val (.ref a1), .val (.int p2), .val (.int p3), .val (.int p4)] []))
  refine Go.st (fun _ kk => XS.aloadN X6.here hx rfl (hb hby d1_9) rfl rfl  kk) ?_
  show Go p e below _ (T6.setTop (mkF m 10 #[.val (.ref a1), .val (.int p2), .val (.int p3), .val (.int p4)] [(.ref a1)]))
  refine Go.st (fun _ kk => XS.iloadN X6.here hx rfl (hb hby d1_10) rfl  kk) ?_
  show Go p e below _ (T6.setTop (mkF m 11 #[.val (.ref a1), .val (.int p2), .val (.int p3), .val (.int p4)] [(.int p3), (.ref a1)]))
  have f_7 := (Exa.wr W6 E_a1)
  have f_8 := (Fld.other W6 F_right_a1 (Or.inr (slot_ne (Or.inr (hw _ (List.mem_of_getElem? (i := 17) rfl))) (Or.inr (hw _ (List.mem_of_getElem? (i := 15) rfl))) (by decide) (t := .int) (t' := .int) (by decide) (by decide))))
  obtain ⟨T9, h9, X9, e9, W9, st9⟩ := putF X6 hx hZ hown (host := "") (Or.inl (hw _ (List.mem_of_getElem? (i := 16) rfl))) Via.refl e6 f_8 f_7 (Or.inr ⟨(hw _ (List.mem_of_getElem? (i := 17) rfl)), rfl, hnm⟩) (hw _ (List.mem_of_getElem? (i := 1) rfl)) (ty := .int) (by decide) rfl rfl (g := (mkF m 11 #[.val (.ref a1), .val (.int p2), .val (.int p3), .val (.int p4)] [(.int p3), (.ref a1)])) rfl rfl (hb hby d1_11)
  refine Go.st st9 ?_
  have Fw9 : Fld Z h9 a1 "com/example/mergewell/mergewell/history/DivergingPair" "right" "I" (.int p3) := Fld.same W9 f_8
  have K9 : Keep h0 h9 [a1] := K6.wr W9 (Or.inl (List.mem_of_getElem? (i := 0) rfl))
  have N9 := Fr.snoc X9 N6 g_a1
  show Go p e below _ (T9.setTop (mkF m 14 #[.val (.ref a1), .val (.int p2), .val (.int p3), .val (.int p4)] []))
  refine Go.st (fun _ kk => XS.aloadN X9.here hx rfl (hb hby d1_14) rfl rfl  kk) ?_
  show Go p e below _ (T9.setTop (mkF m 15 #[.val (.ref a1), .val (.int p2), .val (.int p3), .val (.int p4)] [(.ref a1)]))
  refine Go.st (fun _ kk => XS.iloadN X9.here hx rfl (hb hby d1_15) rfl  kk) ?_
  show Go p e below _ (T9.setTop (mkF m 16 #[.val (.ref a1), .val (.int p2), .val (.int p3), .val (.int p4)] [(.int p4), (.ref a1)]))
  have f_10 := (Exa.wr W9 f_7)
  have f_11 := (Fld.other W9 (Fld.other W6 F_base_a1 (Or.inr (slot_ne (Or.inr (hw _ (List.mem_of_getElem? (i := 19) rfl))) (Or.inr (hw _ (List.mem_of_getElem? (i := 15) rfl))) (by decide) (t := .int) (t' := .int) (by decide) (by decide)))) (Or.inr (slot_ne (Or.inr (hw _ (List.mem_of_getElem? (i := 19) rfl))) (Or.inr (hw _ (List.mem_of_getElem? (i := 17) rfl))) (by decide) (t := .int) (t' := .int) (by decide) (by decide))))
  obtain ⟨T12, h12, X12, e12, W12, st12⟩ := putF X9 hx hZ hown (host := "") (Or.inl (hw _ (List.mem_of_getElem? (i := 18) rfl))) Via.refl e9 f_11 f_10 (Or.inr ⟨(hw _ (List.mem_of_getElem? (i := 19) rfl)), rfl, hnm⟩) (hw _ (List.mem_of_getElem? (i := 1) rfl)) (ty := .int) (by decide) rfl rfl (g := (mkF m 16 #[.val (.ref a1), .val (.int p2), .val (.int p3), .val (.int p4)] [(.int p4), (.ref a1)])) rfl rfl (hb hby d1_16)
  refine Go.st st12 ?_
  have Fw12 : Fld Z h12 a1 "com/example/mergewell/mergewell/history/DivergingPair" "base" "I" (.int p4) := Fld.same W12 f_11
  have K12 : Keep h0 h12 [a1] := K9.wr W12 (Or.inl (List.mem_of_getElem? (i := 0) rfl))
  have N12 := Fr.snoc X12 N9 g_a1
  show Go p e below _ (T12.setTop (mkF m 19 #[.val (.ref a1), .val (.int p2), .val (.int p3), .val (.int p4)] []))
  have f_13 := (Exa.wr W12 f_10)
  have f_14 := (Fld.other W12 (Fld.other W9 Fw6 (Or.inr (slot_ne (Or.inr (hw _ (List.mem_of_getElem? (i := 15) rfl))) (Or.inr (hw _ (List.mem_of_getElem? (i := 17) rfl))) (by decide) (t := .int) (t' := .int) (by decide) (by decide)))) (Or.inr (slot_ne (Or.inr (hw _ (List.mem_of_getElem? (i := 15) rfl))) (Or.inr (hw _ (List.mem_of_getElem? (i := 19) rfl))) (by decide) (t := .int) (t' := .int) (by decide) (by decide))))
  have f_15 := (Fld.other W12 Fw9 (Or.inr (slot_ne (Or.inr (hw _ (List.mem_of_getElem? (i := 17) rfl))) (Or.inr (hw _ (List.mem_of_getElem? (i := 19) rfl))) (by decide) (t := .int) (t' := .int) (by decide) (by decide))))
  exact Go.ret (Q := Qm1_o Z a1 p2 p3 p4 u_left_a1 u_right_a1 u_base_a1 h0 n0) X12 (v := none) (fun _ => rfl) Bd.notSynchronized (fun fs hr => X12.returnOut hx Bd.returns (hb hby d1_19) hr) e12 ⟨rfl, N12, K12, f_13, f_14, f_15, Fw12⟩ (by decide) (by decide)
def Qm4_t (Z : State) (a1 : Addr) (a2 : Addr) (w3 : Addr) (w5 : Int32) (h0 : Heap) (n0 : Nat) (v : Option Value) (h : Heap) (L : List Loc) : Prop := v = some (.int w5) ∧ Fr n0 L ∧ h = h0
set_option maxRecDepth 65536 in
set_option maxHeartbeats 40000000 in
theorem rm4_t (l : Launch) (Z : State) (a0 : Array Value) (hw : ∀ d ∈ tables_1, d.before a0 Z = true) (ws : List Jvm.Cond) (a1 : Addr) (a2 : Addr) (w3 : Addr) (w5 : Int32) (h0 : Heap) (n0 : Nat) (Z0 : n0 ≤ h0.size) (S_LEFT : Sta Z h0 "com/example/mergewell/mergewell/core/merge/Side" "LEFT" "Lcom/example/mergewell/mergewell/core/merge/Side;" (.ref w3)) (hd0 : a2 = w3) (F_left_a1 : Fld Z h0 a1 "com/example/mergewell/mergewell/history/DivergingPair" "left" "I" (.int w5)) :
    MetFree l (⟨"com/example/mergewell/mergewell/history/DivergingPair", "version", "(Lcom/example/mergewell/mergewell/core/merge/Side;)I"⟩ : MethodName) (head1 (Jvm.Cond.code (⟨"com/example/mergewell/mergewell/history/DivergingPair", "version", "(Lcom/example/mergewell/mergewell/core/merge/Side;)I"⟩ : MethodName) prog_67_method_3_code 2 (some .int) :: ws) ({ frames := 0, cells := 0, slots := 0, locals := 0 } : Room)) (fun a U => a = #[(.ref a1), (.ref a2)] ∧ Z.Warmed39 U.vm ∧ U.heap = h0) (fun _ _ _ _ _ => True) (fun _ U o U' => ∃ v L, o = .returned v ∧ Qm4_t Z a1 a2 w3 w5 h0 n0 v U'.heap L ∧ FrameEnd U o U' L ({ frames := 0, cells := 0, slots := 0, locals := 0 } : Room).cells ({ frames := 0, cells := 0, slots := 0, locals := 0 } : Room).slots) := by
  refine MetFree.of_bodySF (plainFor_of_name pn_4) hisR ?_
  intro p e s m args below meth c s₁ Bd hml0 hP hK
  obtain ⟨rfl, hZ, hh⟩ := hP
  have hx := Bd.exec
  have hby := Bd.bytes
  have hml : c.maxLocals = 2 := hml0
  have hown : s.vm.findClass "com/example/mergewell/mergewell/history/DivergingPair" = some m.cls := findClass_of_methodNamed Bd.named
  have hnm := (name_of_methodNamed Bd.named Bd.method).1
  have X0 : Stand p l e ({ frames := 0, cells := 0, slots := 0, locals := 0 } : Room) s m #[(.ref a1), (.ref a2)] below meth c s₁ [] 0 0 := Stand.of_body Bd
  have e0 : s₁.heap = h0 := by rw [← hh, Bd.state]; rfl
  have N0 := Fr.nil n0
  refine Go.en (ef_4 m a1 a2) ?_
  show Go p e below _ (s₁.setTop (mkF m 0 #[.val (.ref a1), .val (.ref a2)] []))
  refine Go.st (fun _ kk => XS.aloadN X0.here hx rfl (hb hby d4_0) rfl rfl  kk) ?_
  show Go p e below _ (s₁.setTop (mkF m 1 #[.val (.ref a1), .val (.ref a2)] [(.ref a2)]))
  obtain ⟨T4, X4, e4, st4⟩ := getS2 X0 hx hZ hown (host := "") (Or.inl (hw _ (List.mem_of_getElem? (i := 30) rfl))) Via.refl e0 S_LEFT (g := (mkF m 1 #[.val (.ref a1), .val (.ref a2)] [(.ref a2)])) rfl (hb hby d4_1)
  refine Go.st st4 ?_
  show Go p e below _ (T4.setTop (mkF m 4 #[.val (.ref a1), .val (.ref a2)] [(.ref w3), (.ref a2)]))
  refine Go.st (fun _ kk => Jvm.RoadKit.acmp (g := (mkF m 4 #[.val (.ref a1), .val (.ref a2)] [(.ref w3), (.ref a2)])) X4 hx rfl rfl rfl (pc0 := 4) (pc' := 7) (same := true) rfl (hb hby d4_4) rfl (decide_eq_true (congrArg Value.ref hd0)) (by decide) (by decide) kk) ?_
  show Go p e below _ (T4.setTop (mkF m 7 #[.val (.ref a1), .val (.ref a2)] []))
  refine Go.st (fun _ kk => XS.aloadN X4.here hx rfl (hb hby d4_7) rfl rfl  kk) ?_
  show Go p e below _ (T4.setTop (mkF m 8 #[.val (.ref a1), .val (.ref a2)] [(.ref a1)]))
  obtain ⟨T6, X6, e6, st6⟩ := getF X4 hx hZ hown (host := "") (Or.inl (hw _ (List.mem_of_getElem? (i := 14) rfl))) Via.refl e4 F_left_a1 (g := (mkF m 8 #[.val (.ref a1), .val (.ref a2)] [(.ref a1)])) rfl rfl (hb hby d4_8)
  refine Go.st st6 ?_
  show Go p e below _ (T6.setTop (mkF m 11 #[.val (.ref a1), .val (.ref a2)] [(.int w5)]))
  refine Go.st (fun _ kk => XS.goto X6.here hx rfl (pc0 := 11) (pc' := 18) rfl (hb hby d4_11) (by decide) (by decide) kk) ?_
  show Go p e below _ (T6.setTop (mkF m 18 #[.val (.ref a1), .val (.ref a2)] [(.int w5)]))
  exact Go.ret (Q := Qm4_t Z a1 a2 w3 w5 h0 n0) X6 (v := some (.int w5)) (fun h => by rw [Bd.returns] at h; cases h) Bd.notSynchronized (fun fs hr => retOut X6 hx Bd.returns rfl (Or.inl ⟨rfl, Or.inl rfl, _, rfl⟩) (hb hby d4_18) hr) e6 ⟨rfl, N0, rfl⟩ (by decide) (by decide)
def Qm4_f (Z : State) (a1 : Addr) (a2 : Addr) (w3 : Addr) (w5 : Int32) (h0 : Heap) (n0 : Nat) (v : Option Value) (h : Heap) (L : List Loc) : Prop := v = some (.int w5) ∧ Fr n0 L ∧ h = h0
set_option maxRecDepth 65536 in
set_option maxHeartbeats 40000000 in
theorem rm4_f (l : Launch) (Z : State) (a0 : Array Value) (hw : ∀ d ∈ tables_1, d.before a0 Z = true) (ws : List Jvm.Cond) (a1 : Addr) (a2 : Addr) (w3 : Addr) (w5 : Int32) (h0 : Heap) (n0 : Nat) (Z0 : n0 ≤ h0.size) (S_LEFT : Sta Z h0 "com/example/mergewell/mergewell/core/merge/Side" "LEFT" "Lcom/example/mergewell/mergewell/core/merge/Side;" (.ref w3)) (hd0 : ¬ (a2 = w3)) (F_right_a1 : Fld Z h0 a1 "com/example/mergewell/mergewell/history/DivergingPair" "right" "I" (.int w5)) :
    MetFree l (⟨"com/example/mergewell/mergewell/history/DivergingPair", "version", "(Lcom/example/mergewell/mergewell/core/merge/Side;)I"⟩ : MethodName) (head1 (Jvm.Cond.code (⟨"com/example/mergewell/mergewell/history/DivergingPair", "version", "(Lcom/example/mergewell/mergewell/core/merge/Side;)I"⟩ : MethodName) prog_67_method_3_code 2 (some .int) :: ws) ({ frames := 0, cells := 0, slots := 0, locals := 0 } : Room)) (fun a U => a = #[(.ref a1), (.ref a2)] ∧ Z.Warmed39 U.vm ∧ U.heap = h0) (fun _ _ _ _ _ => True) (fun _ U o U' => ∃ v L, o = .returned v ∧ Qm4_f Z a1 a2 w3 w5 h0 n0 v U'.heap L ∧ FrameEnd U o U' L ({ frames := 0, cells := 0, slots := 0, locals := 0 } : Room).cells ({ frames := 0, cells := 0, slots := 0, locals := 0 } : Room).slots) := by
  refine MetFree.of_bodySF (plainFor_of_name pn_4) hisR ?_
  intro p e s m args below meth c s₁ Bd hml0 hP hK
  obtain ⟨rfl, hZ, hh⟩ := hP
  have hx := Bd.exec
  have hby := Bd.bytes
  have hml : c.maxLocals = 2 := hml0
  have hown : s.vm.findClass "com/example/mergewell/mergewell/history/DivergingPair" = some m.cls := findClass_of_methodNamed Bd.named
  have hnm := (name_of_methodNamed Bd.named Bd.method).1
  have X0 : Stand p l e ({ frames := 0, cells := 0, slots := 0, locals := 0 } : Room) s m #[(.ref a1), (.ref a2)] below meth c s₁ [] 0 0 := Stand.of_body Bd
  have e0 : s₁.heap = h0 := by rw [← hh, Bd.state]; rfl
  have N0 := Fr.nil n0
  refine Go.en (ef_4 m a1 a2) ?_
  show Go p e below _ (s₁.setTop (mkF m 0 #[.val (.ref a1), .val (.ref a2)] []))
  refine Go.st (fun _ kk => XS.aloadN X0.here hx rfl (hb hby d4_0) rfl rfl  kk) ?_
  show Go p e below _ (s₁.setTop (mkF m 1 #[.val (.ref a1), .val (.ref a2)] [(.ref a2)]))
  obtain ⟨T4, X4, e4, st4⟩ := getS2 X0 hx hZ hown (host := "") (Or.inl (hw _ (List.mem_of_getElem? (i := 30) rfl))) Via.refl e0 S_LEFT (g := (mkF m 1 #[.val (.ref a1), .val (.ref a2)] [(.ref a2)])) rfl (hb hby d4_1)
  refine Go.st st4 ?_
  show Go p e below _ (T4.setTop (mkF m 4 #[.val (.ref a1), .val (.ref a2)] [(.ref w3), (.ref a2)]))
  refine Go.st (fun _ kk => Jvm.RoadKit.acmp (g := (mkF m 4 #[.val (.ref a1), .val (.ref a2)] [(.ref w3), (.ref a2)])) X4 hx rfl rfl rfl (pc0 := 4) (pc' := 14) (same := false) rfl (hb hby d4_4) rfl (decide_eq_false fun q => hd0 (Value.ref.inj q)) (by decide) (by decide) kk) ?_
  show Go p e below _ (T4.setTop (mkF m 14 #[.val (.ref a1), .val (.ref a2)] []))
  refine Go.st (fun _ kk => XS.aloadN X4.here hx rfl (hb hby d4_14) rfl rfl  kk) ?_
  show Go p e below _ (T4.setTop (mkF m 15 #[.val (.ref a1), .val (.ref a2)] [(.ref a1)]))
  obtain ⟨T6, X6, e6, st6⟩ := getF X4 hx hZ hown (host := "") (Or.inl (hw _ (List.mem_of_getElem? (i := 16) rfl))) Via.refl e4 F_right_a1 (g := (mkF m 15 #[.val (.ref a1), .val (.ref a2)] [(.ref a1)])) rfl rfl (hb hby d4_15)
  refine Go.st st6 ?_
  show Go p e below _ (T6.setTop (mkF m 18 #[.val (.ref a1), .val (.ref a2)] [(.int w5)]))
  exact Go.ret (Q := Qm4_f Z a1 a2 w3 w5 h0 n0) X6 (v := some (.int w5)) (fun h => by rw [Bd.returns] at h; cases h) Bd.notSynchronized (fun fs hr => retOut X6 hx Bd.returns rfl (Or.inl ⟨rfl, Or.inl rfl, _, rfl⟩) (hb hby d4_18) hr) e6 ⟨rfl, N0, rfl⟩ (by decide) (by decide)
def Q0 (n0 : Nat) (v : Option Value) (h : Heap) (L : List Loc) : Prop := v = some (.int (1 : Int32)) ∧ Fr n0 L
set_option maxRecDepth 65536 in
set_option maxHeartbeats 40000000 in
theorem rm0 (l : Launch) (Z : State) (a0 : Array Value) (hw : ∀ d ∈ tables_1, d.before a0 Z = true) (ws : List Jvm.Cond) (p1 : Int32) (p2 : Int32) (p3 : Int32) (p4 : Int32) (w_LEFT : Addr) (w_RIGHT : Addr) (h0 : Heap) (n0 : Nat) (Z0 : n0 ≤ h0.size) (S_LEFT : Sta Z h0 "com/example/mergewell/mergewell/core/merge/Side" "LEFT" "Lcom/example/mergewell/mergewell/core/merge/Side;" (.ref w_LEFT)) (E_w_LEFT : Exa Z h0 w_LEFT "com/example/mergewell/mergewell/core/merge/Side") (S_RIGHT : Sta Z h0 "com/example/mergewell/mergewell/core/merge/Side" "RIGHT" "Lcom/example/mergewell/mergewell/core/merge/Side;" (.ref w_RIGHT)) (E_w_RIGHT : Exa Z h0 w_RIGHT "com/example/mergewell/mergewell/core/merge/Side") (F_ordinal_w_RIGHT : Fld Z h0 w_RIGHT "java/lang/Enum" "ordinal" "I" (.int (1 : Int32))) (F_ordinal_w_LEFT : Fld Z h0 w_LEFT "java/lang/Enum" "ordinal" "I" (.int (0 : Int32))) :
    MetFree l x (head1 (Jvm.Cond.code x code maxLocals ret :: ws) room_1) (fun a U => a = #[(.int p1), (.int p2), (.int p3), (.int p4)] ∧ Z.Warmed39 U.vm ∧ U.heap = h0) (fun _ _ _ _ _ => True) (fun _ U o U' => ∃ v L, o = .returned v ∧ Q0 n0 v U'.heap L ∧ FrameEnd U o U' L room_1.cells room_1.slots) := by
  refine MetFree.of_bodySF (plainFor_of_name pn_0) hisR ?_
  intro p e s m args below meth c s₁ Bd hml0 hP hK
  obtain ⟨rfl, hZ, hh⟩ := hP
  have hx := Bd.exec
  have hby := Bd.bytes
  have hml : c.maxLocals = 10 := hml0
  have hown : s.vm.findClass "com/example/mergewell/mergewell/history/DivergingPairVersionPinLaw" = some m.cls := findClass_of_methodNamed Bd.named
  have hnm := (name_of_methodNamed Bd.named Bd.method).1
  have X0 : Stand p l e room_1 s m #[(.int p1), (.int p2), (.int p3), (.int p4)] below meth c s₁ [] 0 0 := Stand.of_body Bd
  have e0 : s₁.heap = h0 := by rw [← hh, Bd.state]; rfl
  have N0 := Fr.nil n0
  refine Go.en (ef_0 m p1 p2 p3 p4) ?_
  show Go p e below _ (s₁.setTop (mkF m 0 #[.val (.int p1), .val (.int p2), .val (.int p3), .val (.int p4), .unset, .unset, .unset, .unset, .unset, .unset] []))
  obtain ⟨T5, h5, X5, e5, E5, A5, D5, -, st5⟩ := newO X0 hx hZ hown (hw _ (List.mem_of_getElem? (i := 0) rfl)) (hw _ (List.mem_of_getElem? (i := 1) rfl)) (hw _ (List.mem_of_getElem? (i := 2) rfl)) e0 (g := (mkF m 0 #[.val (.int p1), .val (.int p2), .val (.int p3), .val (.int p4), .unset, .unset, .unset, .unset, .unset, .unset] [])) rfl (hb hby at_0) (by decide) (by decide)
  obtain ⟨b5, g5⟩ : ∃ z, z = h0.size := ⟨_, rfl⟩
  rw [← g5] at A5 D5 st5
  refine Go.st st5 ?_
  have g_b5 : n0 ≤ b5 := Nat.le_trans Z0 (Nat.le_of_eq g5.symm)
  have sz_b5 : h0.size ≤ b5 := Nat.le_of_eq g5.symm
  have K5 : Keep h0 h5 [] := (Keep.refl h0 []).ext E5
  have E_b5 : Exa Z h5 b5 "com/example/mergewell/mergewell/history/DivergingPair" := A5
  have F_left_b5 : Fld Z h5 b5 "com/example/mergewell/mergewell/history/DivergingPair" "left" "I" (.int (0 : Int32)) := D5 (Or.inr (hw _ (List.mem_of_getElem? (i := 15) rfl))) (ty := .int) (by decide)
  have F_right_b5 : Fld Z h5 b5 "com/example/mergewell/mergewell/history/DivergingPair" "right" "I" (.int (0 : Int32)) := D5 (Or.inr (hw _ (List.mem_of_getElem? (i := 17) rfl))) (ty := .int) (by decide)
  have F_base_b5 : Fld Z h5 b5 "com/example/mergewell/mergewell/history/DivergingPair" "base" "I" (.int (0 : Int32)) := D5 (Or.inr (hw _ (List.mem_of_getElem? (i := 19) rfl))) (ty := .int) (by decide)
  show Go p e below _ (T5.setTop (mkF m 3 #[.val (.int p1), .val (.int p2), .val (.int p3), .val (.int p4), .unset, .unset, .unset, .unset, .unset, .unset] [(.ref b5)]))
  refine Go.st (fun _ kk => XS.dup X5.here hx rfl (hb hby at_3) rfl rfl kk) ?_
  show Go p e below _ (T5.setTop (mkF m 4 #[.val (.int p1), .val (.int p2), .val (.int p3), .val (.int p4), .unset, .unset, .unset, .unset, .unset, .unset] [(.ref b5), (.ref b5)]))
  refine Go.st (fun _ kk => XS.iloadN X5.here hx rfl (hb hby at_4) rfl  kk) ?_
  show Go p e below _ (T5.setTop (mkF m 5 #[.val (.int p1), .val (.int p2), .val (.int p3), .val (.int p4), .unset, .unset, .unset, .unset, .unset, .unset] [(.int p1), (.ref b5), (.ref b5)]))
  refine Go.st (fun _ kk => XS.iloadN X5.here hx rfl (hb hby at_5) rfl  kk) ?_
  show Go p e below _ (T5.setTop (mkF m 6 #[.val (.int p1), .val (.int p2), .val (.int p3), .val (.int p4), .unset, .unset, .unset, .unset, .unset, .unset] [(.int p2), (.int p1), (.ref b5), (.ref b5)]))
  refine Go.st (fun _ kk => XS.iloadN X5.here hx rfl (hb hby at_6) rfl  kk) ?_
  show Go p e below _ (T5.setTop (mkF m 7 #[.val (.int p1), .val (.int p2), .val (.int p3), .val (.int p4), .unset, .unset, .unset, .unset, .unset, .unset] [(.int p3), (.int p2), (.int p1), (.ref b5), (.ref b5)]))
  obtain ⟨_, _, ⟨T6, L6, k6, n6⟩, -, X6, ⟨Lc6, hQ6, l6, y6, z6⟩, st6⟩ := X5.specialBack hx (y := (⟨"com/example/mergewell/mergewell/history/DivergingPair", "<init>", "(III)V"⟩ : MethodName)) rfl hown (mvT hZ (hw _ (List.mem_of_getElem? (i := 3) rfl))) (mvT hZ (hw _ (List.mem_of_getElem? (i := 4) rfl))) (mvT hZ (hw _ (List.mem_of_getElem? (i := 5) rfl))) (by decide) (backOf (W := 1) (rm1_o l Z a0 hw [] b5 p1 p2 p3 (.int (0 : Int32)) (.int (0 : Int32)) (.int (0 : Int32)) h5 n0 (Nat.le_trans Z0 K5.1) E_b5 F_left_b5 g_b5 F_right_b5 F_base_b5) hZ (hw _ (List.mem_of_getElem? (i := 5) rfl)) (hw _ (List.mem_of_getElem? (i := 2) rfl)) (by decide) (by decide)) (g := (mkF m 7 #[.val (.int p1), .val (.int p2), .val (.int p3), .val (.int p4), .unset, .unset, .unset, .unset, .unset, .unset] [(.int p3), (.int p2), (.int p1), (.ref b5), (.ref b5)])) rfl (by rw [hml]; rfl) (Steps.refl _) (a := b5) (argsL := [(.int p1), (.int p2), (.int p3)]) (rest := [(.ref b5)]) (lenOf pd_1 rfl) rfl (by show 2 * 0 + _ ≤ _; exact Nat.le_of_eq rfl) (hb hby at_7) (fun _ _ => ⟨rfl, e5, (by decide : 1 + 0 ≤ _), (by decide : 3 + 0 ≤ _)⟩)
  dsimp only [Pt.U, Pt.locs, Pt.cells, Pt.slots] at X6 l6 y6 z6 st6 hQ6
  subst l6 y6 z6
  obtain ⟨rfl, N6q, Kc6, P6_0, P6_1, P6_2, P6_3⟩ := hQ6
  have K6 : Keep h0 T6.heap [] := K5.trans Kc6 (allS (Or.inr sz_b5) all0)
  have N6 := Fr.app N0 N6q
  refine Go.tr st6 ?_
  show Go p e below _ (T6.setTop (mkF m 10 #[.val (.int p1), .val (.int p2), .val (.int p3), .val (.int p4), .unset, .unset, .unset, .unset, .unset, .unset] [(.ref b5)]))
  refine Go.st (fun _ kk => XS.astore X6.here hx rfl (hb hby at_10) rfl rfl (l' := #[.val (.int p1), .val (.int p2), .val (.int p3), .val (.int p4), .val (.ref b5), .unset, .unset, .unset, .unset, .unset]) rfl kk) ?_
  show Go p e below _ (T6.setTop (mkF m 12 #[.val (.int p1), .val (.int p2), .val (.int p3), .val (.int p4), .val (.ref b5), .unset, .unset, .unset, .unset, .unset] []))
  refine Go.st (fun _ kk => XS.iloadN X6.here hx rfl (hb hby at_12) rfl  kk) ?_
  show Go p e below _ (T6.setTop (mkF m 13 #[.val (.int p1), .val (.int p2), .val (.int p3), .val (.int p4), .val (.ref b5), .unset, .unset, .unset, .unset, .unset] [(.int p4)]))
  refine Go.st (fun _ kk => XS.iconst X6.here hx rfl (hb hby at_13) kk) ?_
  show Go p e below _ (T6.setTop (mkF m 14 #[.val (.int p1), .val (.int p2), .val (.int p3), .val (.int p4), .val (.ref b5), .unset, .unset, .unset, .unset, .unset] [(.int (1 : Int32)), (.int p4)]))
  refine Go.st (fun _ kk => XS.iand X6.here hx rfl (hb hby at_14) rfl kk) ?_
  show Go p e below _ (T6.setTop (mkF m 15 #[.val (.int p1), .val (.int p2), .val (.int p3), .val (.int p4), .val (.ref b5), .unset, .unset, .unset, .unset, .unset] [(.int (p4 &&& (1 : Int32)))]))
  by_cases hc_1 : (p4 &&& (1 : Int32)) = (0 : Int32)
  · skip
    refine Go.st (fun _ kk => XS.ifYes X6.here hx rfl (pc0 := 15) (pc' := 22) rfl (hb hby at_15) rfl ((if0 _ _).trans (teq hc_1).1) (by decide) (by decide) kk) ?_
    show Go p e below _ (T6.setTop (mkF m 22 #[.val (.int p1), .val (.int p2), .val (.int p3), .val (.int p4), .val (.ref b5), .unset, .unset, .unset, .unset, .unset] []))
    refine Go.st (fun _ kk => XS.iconst X6.here hx rfl (hb hby at_22) kk) ?_
    show Go p e below _ (T6.setTop (mkF m 23 #[.val (.int p1), .val (.int p2), .val (.int p3), .val (.int p4), .val (.ref b5), .unset, .unset, .unset, .unset, .unset] [(.int (0 : Int32))]))
    refine Go.st (fun _ kk => XS.istore X6.here hx rfl (hb hby at_23) rfl (l' := #[.val (.int p1), .val (.int p2), .val (.int p3), .val (.int p4), .val (.ref b5), .val (.int (0 : Int32)), .unset, .unset, .unset, .unset]) rfl kk) ?_
    show Go p e below _ (T6.setTop (mkF m 25 #[.val (.int p1), .val (.int p2), .val (.int p3), .val (.int p4), .val (.ref b5), .val (.int (0 : Int32)), .unset, .unset, .unset, .unset] []))
    refine Go.st (fun _ kk => XS.iload X6.here hx rfl (hb hby at_25) rfl  kk) ?_
    show Go p e below _ (T6.setTop (mkF m 27 #[.val (.int p1), .val (.int p2), .val (.int p3), .val (.int p4), .val (.ref b5), .val (.int (0 : Int32)), .unset, .unset, .unset, .unset] [(.int (0 : Int32))]))
    refine Go.st (fun _ kk => XS.ifYes X6.here hx rfl (pc0 := 27) (pc' := 36) rfl (hb hby at_27) rfl ((if0 _ _).trans (teq (by decide : ((0 : Int32) = (0 : Int32)))).1) (by decide) (by decide) kk) ?_
    show Go p e below _ (T6.setTop (mkF m 36 #[.val (.int p1), .val (.int p2), .val (.int p3), .val (.int p4), .val (.ref b5), .val (.int (0 : Int32)), .unset, .unset, .unset, .unset] []))
    have f_7 := (staKeep0 S_RIGHT K6)
    obtain ⟨T8, X8, e8, st8⟩ := getS2 X6 hx hZ hown (host := "") (Or.inl (hw _ (List.mem_of_getElem? (i := 23) rfl))) Via.refl rfl f_7 (g := (mkF m 36 #[.val (.int p1), .val (.int p2), .val (.int p3), .val (.int p4), .val (.ref b5), .val (.int (0 : Int32)), .unset, .unset, .unset, .unset] [])) rfl (hb hby at_36)
    refine Go.st st8 ?_
    show Go p e below _ (T8.setTop (mkF m 39 #[.val (.int p1), .val (.int p2), .val (.int p3), .val (.int p4), .val (.ref b5), .val (.int (0 : Int32)), .unset, .unset, .unset, .unset] [(.ref w_RIGHT)]))
    refine Go.st (fun _ kk => XS.astore X8.here hx rfl (hb hby at_39) rfl rfl (l' := #[.val (.int p1), .val (.int p2), .val (.int p3), .val (.int p4), .val (.ref b5), .val (.int (0 : Int32)), .val (.ref w_RIGHT), .unset, .unset, .unset]) rfl kk) ?_
    show Go p e below _ (T8.setTop (mkF m 41 #[.val (.int p1), .val (.int p2), .val (.int p3), .val (.int p4), .val (.ref b5), .val (.int (0 : Int32)), .val (.ref w_RIGHT), .unset, .unset, .unset] []))
    refine Go.st (fun _ kk => XS.iload X8.here hx rfl (hb hby at_41) rfl  kk) ?_
    show Go p e below _ (T8.setTop (mkF m 43 #[.val (.int p1), .val (.int p2), .val (.int p3), .val (.int p4), .val (.ref b5), .val (.int (0 : Int32)), .val (.ref w_RIGHT), .unset, .unset, .unset] [(.int (0 : Int32))]))
    refine Go.st (fun _ kk => XS.ifYes X8.here hx rfl (pc0 := 43) (pc' := 52) rfl (hb hby at_43) rfl ((if0 _ _).trans (teq (by decide : ((0 : Int32) = (0 : Int32)))).1) (by decide) (by decide) kk) ?_
    show Go p e below _ (T8.setTop (mkF m 52 #[.val (.int p1), .val (.int p2), .val (.int p3), .val (.int p4), .val (.ref b5), .val (.int (0 : Int32)), .val (.ref w_RIGHT), .unset, .unset, .unset] []))
    have f_9 := (staKeep0 S_LEFT K6)
    obtain ⟨T10, X10, e10, st10⟩ := getS2 X8 hx hZ hown (host := "") (Or.inl (hw _ (List.mem_of_getElem? (i := 20) rfl))) Via.refl e8 f_9 (g := (mkF m 52 #[.val (.int p1), .val (.int p2), .val (.int p3), .val (.int p4), .val (.ref b5), .val (.int (0 : Int32)), .val (.ref w_RIGHT), .unset, .unset, .unset] [])) rfl (hb hby at_52)
    refine Go.st st10 ?_
    show Go p e below _ (T10.setTop (mkF m 55 #[.val (.int p1), .val (.int p2), .val (.int p3), .val (.int p4), .val (.ref b5), .val (.int (0 : Int32)), .val (.ref w_RIGHT), .unset, .unset, .unset] [(.ref w_LEFT)]))
    refine Go.st (fun _ kk => XS.astore X10.here hx rfl (hb hby at_55) rfl rfl (l' := #[.val (.int p1), .val (.int p2), .val (.int p3), .val (.int p4), .val (.ref b5), .val (.int (0 : Int32)), .val (.ref w_RIGHT), .val (.ref w_LEFT), .unset, .unset]) rfl kk) ?_
    show Go p e below _ (T10.setTop (mkF m 57 #[.val (.int p1), .val (.int p2), .val (.int p3), .val (.int p4), .val (.ref b5), .val (.int (0 : Int32)), .val (.ref w_RIGHT), .val (.ref w_LEFT), .unset, .unset] []))
    refine Go.st (fun _ kk => XS.iload X10.here hx rfl (hb hby at_57) rfl  kk) ?_
    show Go p e below _ (T10.setTop (mkF m 59 #[.val (.int p1), .val (.int p2), .val (.int p3), .val (.int p4), .val (.ref b5), .val (.int (0 : Int32)), .val (.ref w_RIGHT), .val (.ref w_LEFT), .unset, .unset] [(.int (0 : Int32))]))
    refine Go.st (fun _ kk => XS.ifYes X10.here hx rfl (pc0 := 59) (pc' := 66) rfl (hb hby at_59) rfl ((if0 _ _).trans (teq (by decide : ((0 : Int32) = (0 : Int32)))).1) (by decide) (by decide) kk) ?_
    show Go p e below _ (T10.setTop (mkF m 66 #[.val (.int p1), .val (.int p2), .val (.int p3), .val (.int p4), .val (.ref b5), .val (.int (0 : Int32)), .val (.ref w_RIGHT), .val (.ref w_LEFT), .unset, .unset] []))
    refine Go.st (fun _ kk => XS.iloadN X10.here hx rfl (hb hby at_66) rfl  kk) ?_
    show Go p e below _ (T10.setTop (mkF m 67 #[.val (.int p1), .val (.int p2), .val (.int p3), .val (.int p4), .val (.ref b5), .val (.int (0 : Int32)), .val (.ref w_RIGHT), .val (.ref w_LEFT), .unset, .unset] [(.int p2)]))
    refine Go.st (fun _ kk => XS.istore X10.here hx rfl (hb hby at_67) rfl (l' := #[.val (.int p1), .val (.int p2), .val (.int p3), .val (.int p4), .val (.ref b5), .val (.int (0 : Int32)), .val (.ref w_RIGHT), .val (.ref w_LEFT), .val (.int p2), .unset]) rfl kk) ?_
    show Go p e below _ (T10.setTop (mkF m 69 #[.val (.int p1), .val (.int p2), .val (.int p3), .val (.int p4), .val (.ref b5), .val (.int (0 : Int32)), .val (.ref w_RIGHT), .val (.ref w_LEFT), .val (.int p2), .unset] []))
    refine Go.st (fun _ kk => XS.iload X10.here hx rfl (hb hby at_69) rfl  kk) ?_
    show Go p e below _ (T10.setTop (mkF m 71 #[.val (.int p1), .val (.int p2), .val (.int p3), .val (.int p4), .val (.ref b5), .val (.int (0 : Int32)), .val (.ref w_RIGHT), .val (.ref w_LEFT), .val (.int p2), .unset] [(.int (0 : Int32))]))
    refine Go.st (fun _ kk => XS.ifYes X10.here hx rfl (pc0 := 71) (pc' := 78) rfl (hb hby at_71) rfl ((if0 _ _).trans (teq (by decide : ((0 : Int32) = (0 : Int32)))).1) (by decide) (by decide) kk) ?_
    show Go p e below _ (T10.setTop (mkF m 78 #[.val (.int p1), .val (.int p2), .val (.int p3), .val (.int p4), .val (.ref b5), .val (.int (0 : Int32)), .val (.ref w_RIGHT), .val (.ref w_LEFT), .val (.int p2), .unset] []))
    refine Go.st (fun _ kk => XS.iloadN X10.here hx rfl (hb hby at_78) rfl  kk) ?_
    show Go p e below _ (T10.setTop (mkF m 79 #[.val (.int p1), .val (.int p2), .val (.int p3), .val (.int p4), .val (.ref b5), .val (.int (0 : Int32)), .val (.ref w_RIGHT), .val (.ref w_LEFT), .val (.int p2), .unset] [(.int p1)]))
    refine Go.st (fun _ kk => XS.istore X10.here hx rfl (hb hby at_79) rfl (l' := #[.val (.int p1), .val (.int p2), .val (.int p3), .val (.int p4), .val (.ref b5), .val (.int (0 : Int32)), .val (.ref w_RIGHT), .val (.ref w_LEFT), .val (.int p2), .val (.int p1)]) rfl kk) ?_
    show Go p e below _ (T10.setTop (mkF m 81 #[.val (.int p1), .val (.int p2), .val (.int p3), .val (.int p4), .val (.ref b5), .val (.int (0 : Int32)), .val (.ref w_RIGHT), .val (.ref w_LEFT), .val (.int p2), .val (.int p1)] []))
    refine Go.st (fun _ kk => XS.aload X10.here hx rfl (hb hby at_81) rfl rfl  kk) ?_
    show Go p e below _ (T10.setTop (mkF m 83 #[.val (.int p1), .val (.int p2), .val (.int p3), .val (.int p4), .val (.ref b5), .val (.int (0 : Int32)), .val (.ref w_RIGHT), .val (.ref w_LEFT), .val (.int p2), .val (.int p1)] [(.ref b5)]))
    refine Go.st (fun _ kk => XS.aload X10.here hx rfl (hb hby at_83) rfl rfl  kk) ?_
    show Go p e below _ (T10.setTop (mkF m 85 #[.val (.int p1), .val (.int p2), .val (.int p3), .val (.int p4), .val (.ref b5), .val (.int (0 : Int32)), .val (.ref w_RIGHT), .val (.ref w_LEFT), .val (.int p2), .val (.int p1)] [(.ref w_RIGHT), (.ref b5)]))
    obtain ⟨cq11, kq11, q11a, q11b, q11c⟩ := isOf hZ e10 P6_0
    obtain ⟨_, _, ⟨T11, L11, k11, n11⟩, -, X11, ⟨Lc11, hQ11, l11, y11, z11⟩, st11⟩ := X10.virtualBack hx (y := (⟨"com/example/mergewell/mergewell/history/DivergingPair", "version", "(Lcom/example/mergewell/mergewell/core/merge/Side;)I"⟩ : MethodName)) (z := (⟨"com/example/mergewell/mergewell/history/DivergingPair", "version", "(Lcom/example/mergewell/mergewell/core/merge/Side;)I"⟩ : MethodName)) hown (mvT hZ (hw _ (List.mem_of_getElem? (i := 25) rfl))) (mvT hZ (hw _ (List.mem_of_getElem? (i := 26) rfl))) (notFace_of_selects (args := #[]) (mvT hZ (hw _ (List.mem_of_getElem? (i := 28) rfl)))) (mvT hZ (hw _ (List.mem_of_getElem? (i := 28) rfl))) (mvT hZ (hw _ (List.mem_of_getElem? (i := 27) rfl))) (by decide) (backOf (W := 0) (rm4_f l Z a0 hw [] b5 w_RIGHT w_LEFT p2 T6.heap n0 (Nat.le_trans Z0 K6.1) f_9 (Fld.ne F_ordinal_w_RIGHT F_ordinal_w_LEFT (by decide)) P6_2) hZ (hw _ (List.mem_of_getElem? (i := 29) rfl)) (hw _ (List.mem_of_getElem? (i := 2) rfl)) (by decide) (by decide)) q11a q11c (g := (mkF m 85 #[.val (.int p1), .val (.int p2), .val (.int p3), .val (.int p4), .val (.ref b5), .val (.int (0 : Int32)), .val (.ref w_RIGHT), .val (.ref w_LEFT), .val (.int p2), .val (.int p1)] [(.ref w_RIGHT), (.ref b5)])) rfl (by rw [hml]; rfl) (Steps.refl _) (argsL := [(.ref w_RIGHT)]) (rest := []) (lenOf pd_2 rfl) rfl (by show 2 * 0 + _ ≤ _; exact Nat.le_of_eq rfl) (hb hby at_85) (fun _ _ => ⟨rfl, e10, (by decide : 1 + 0 ≤ _), (by decide : 3 + 0 ≤ _)⟩)
    dsimp only [Pt.U, Pt.locs, Pt.cells, Pt.slots] at X11 l11 y11 z11 st11 hQ11
    subst l11 y11 z11
    obtain ⟨rfl, N11q, eq11⟩ := hQ11
    have N11 := Fr.app N6 N11q
    refine Go.tr st11 ?_
    show Go p e below _ (T11.setTop (mkF m 88 #[.val (.int p1), .val (.int p2), .val (.int p3), .val (.int p4), .val (.ref b5), .val (.int (0 : Int32)), .val (.ref w_RIGHT), .val (.ref w_LEFT), .val (.int p2), .val (.int p1)] [(.int p2)]))
    refine Go.st (fun _ kk => XS.iload X11.here hx rfl (hb hby at_88) rfl  kk) ?_
    show Go p e below _ (T11.setTop (mkF m 90 #[.val (.int p1), .val (.int p2), .val (.int p3), .val (.int p4), .val (.ref b5), .val (.int (0 : Int32)), .val (.ref w_RIGHT), .val (.ref w_LEFT), .val (.int p2), .val (.int p1)] [(.int p2), (.int p2)]))
    refine Go.st (fun _ kk => XS.icmpNo X11.here hx rfl (hb hby at_90) rfl (teq (rfl : p2 = p2)).2 kk) ?_
    show Go p e below _ (T11.setTop (mkF m 93 #[.val (.int p1), .val (.int p2), .val (.int p3), .val (.int p4), .val (.ref b5), .val (.int (0 : Int32)), .val (.ref w_RIGHT), .val (.ref w_LEFT), .val (.int p2), .val (.int p1)] []))
    refine Go.st (fun _ kk => XS.aload X11.here hx rfl (hb hby at_93) rfl rfl  kk) ?_
    show Go p e below _ (T11.setTop (mkF m 95 #[.val (.int p1), .val (.int p2), .val (.int p3), .val (.int p4), .val (.ref b5), .val (.int (0 : Int32)), .val (.ref w_RIGHT), .val (.ref w_LEFT), .val (.int p2), .val (.int p1)] [(.ref b5)]))
    refine Go.st (fun _ kk => XS.aload X11.here hx rfl (hb hby at_95) rfl rfl  kk) ?_
    show Go p e below _ (T11.setTop (mkF m 97 #[.val (.int p1), .val (.int p2), .val (.int p3), .val (.int p4), .val (.ref b5), .val (.int (0 : Int32)), .val (.ref w_RIGHT), .val (.ref w_LEFT), .val (.int p2), .val (.int p1)] [(.ref w_LEFT), (.ref b5)]))
    obtain ⟨cq12, kq12, q12a, q12b, q12c⟩ := isOf hZ eq11 P6_0
    obtain ⟨_, _, ⟨T12, L12, k12, n12⟩, -, X12, ⟨Lc12, hQ12, l12, y12, z12⟩, st12⟩ := X11.virtualBack hx (y := (⟨"com/example/mergewell/mergewell/history/DivergingPair", "version", "(Lcom/example/mergewell/mergewell/core/merge/Side;)I"⟩ : MethodName)) (z := (⟨"com/example/mergewell/mergewell/history/DivergingPair", "version", "(Lcom/example/mergewell/mergewell/core/merge/Side;)I"⟩ : MethodName)) hown (mvT hZ (hw _ (List.mem_of_getElem? (i := 25) rfl))) (mvT hZ (hw _ (List.mem_of_getElem? (i := 26) rfl))) (notFace_of_selects (args := #[]) (mvT hZ (hw _ (List.mem_of_getElem? (i := 28) rfl)))) (mvT hZ (hw _ (List.mem_of_getElem? (i := 28) rfl))) (mvT hZ (hw _ (List.mem_of_getElem? (i := 27) rfl))) (by decide) (backOf (W := 0) (rm4_t l Z a0 hw [] b5 w_LEFT w_LEFT p1 T6.heap n0 (Nat.le_trans Z0 K6.1) f_9 (rfl : w_LEFT = w_LEFT) P6_1) hZ (hw _ (List.mem_of_getElem? (i := 29) rfl)) (hw _ (List.mem_of_getElem? (i := 2) rfl)) (by decide) (by decide)) q12a q12c (g := (mkF m 97 #[.val (.int p1), .val (.int p2), .val (.int p3), .val (.int p4), .val (.ref b5), .val (.int (0 : Int32)), .val (.ref w_RIGHT), .val (.ref w_LEFT), .val (.int p2), .val (.int p1)] [(.ref w_LEFT), (.ref b5)])) rfl (by rw [hml]; rfl) (Steps.refl _) (argsL := [(.ref w_LEFT)]) (rest := []) (lenOf pd_2 rfl) rfl (by show 2 * 0 + _ ≤ _; exact Nat.le_of_eq rfl) (hb hby at_97) (fun _ _ => ⟨rfl, eq11, (by decide : 1 + 0 ≤ _), (by decide : 3 + 0 ≤ _)⟩)
    dsimp only [Pt.U, Pt.locs, Pt.cells, Pt.slots] at X12 l12 y12 z12 st12 hQ12
    subst l12 y12 z12
    obtain ⟨rfl, N12q, eq12⟩ := hQ12
    have N12 := Fr.app N11 N12q
    refine Go.tr st12 ?_
    show Go p e below _ (T12.setTop (mkF m 100 #[.val (.int p1), .val (.int p2), .val (.int p3), .val (.int p4), .val (.ref b5), .val (.int (0 : Int32)), .val (.ref w_RIGHT), .val (.ref w_LEFT), .val (.int p2), .val (.int p1)] [(.int p1)]))
    refine Go.st (fun _ kk => XS.iload X12.here hx rfl (hb hby at_100) rfl  kk) ?_
    show Go p e below _ (T12.setTop (mkF m 102 #[.val (.int p1), .val (.int p2), .val (.int p3), .val (.int p4), .val (.ref b5), .val (.int (0 : Int32)), .val (.ref w_RIGHT), .val (.ref w_LEFT), .val (.int p2), .val (.int p1)] [(.int p1), (.int p1)]))
    refine Go.st (fun _ kk => XS.icmpNo X12.here hx rfl (hb hby at_102) rfl (teq (rfl : p1 = p1)).2 kk) ?_
    show Go p e below _ (T12.setTop (mkF m 105 #[.val (.int p1), .val (.int p2), .val (.int p3), .val (.int p4), .val (.ref b5), .val (.int (0 : Int32)), .val (.ref w_RIGHT), .val (.ref w_LEFT), .val (.int p2), .val (.int p1)] []))
    refine Go.st (fun _ kk => XS.iconst X12.here hx rfl (hb hby at_105) kk) ?_
    show Go p e below _ (T12.setTop (mkF m 106 #[.val (.int p1), .val (.int p2), .val (.int p3), .val (.int p4), .val (.ref b5), .val (.int (0 : Int32)), .val (.ref w_RIGHT), .val (.ref w_LEFT), .val (.int p2), .val (.int p1)] [(.int (1 : Int32))]))
    refine Go.st (fun _ kk => XS.goto X12.here hx rfl (pc0 := 106) (pc' := 110) rfl (hb hby at_106) (by decide) (by decide) kk) ?_
    show Go p e below _ (T12.setTop (mkF m 110 #[.val (.int p1), .val (.int p2), .val (.int p3), .val (.int p4), .val (.ref b5), .val (.int (0 : Int32)), .val (.ref w_RIGHT), .val (.ref w_LEFT), .val (.int p2), .val (.int p1)] [(.int (1 : Int32))]))
    exact Go.ret (Q := Q0 n0) X12 (v := some (.int (1 : Int32))) (fun h => by rw [Bd.returns] at h; cases h) Bd.notSynchronized (fun fs hr => retN X12 hx (t := .boolean) Bd.returns (by simp) (hb hby at_110) hr) eq12 ⟨rfl, N12⟩ (by decide) (by decide)
  · skip
    refine Go.st (fun _ kk => XS.ifNo X6.here hx rfl (hb hby at_15) rfl ((if0 _ _).trans (feq hc_1).1) kk) ?_
    show Go p e below _ (T6.setTop (mkF m 18 #[.val (.int p1), .val (.int p2), .val (.int p3), .val (.int p4), .val (.ref b5), .unset, .unset, .unset, .unset, .unset] []))
    refine Go.st (fun _ kk => XS.iconst X6.here hx rfl (hb hby at_18) kk) ?_
    show Go p e below _ (T6.setTop (mkF m 19 #[.val (.int p1), .val (.int p2), .val (.int p3), .val (.int p4), .val (.ref b5), .unset, .unset, .unset, .unset, .unset] [(.int (1 : Int32))]))
    refine Go.st (fun _ kk => XS.goto X6.here hx rfl (pc0 := 19) (pc' := 23) rfl (hb hby at_19) (by decide) (by decide) kk) ?_
    show Go p e below _ (T6.setTop (mkF m 23 #[.val (.int p1), .val (.int p2), .val (.int p3), .val (.int p4), .val (.ref b5), .unset, .unset, .unset, .unset, .unset] [(.int (1 : Int32))]))
    refine Go.st (fun _ kk => XS.istore X6.here hx rfl (hb hby at_23) rfl (l' := #[.val (.int p1), .val (.int p2), .val (.int p3), .val (.int p4), .val (.ref b5), .val (.int (1 : Int32)), .unset, .unset, .unset, .unset]) rfl kk) ?_
    show Go p e below _ (T6.setTop (mkF m 25 #[.val (.int p1), .val (.int p2), .val (.int p3), .val (.int p4), .val (.ref b5), .val (.int (1 : Int32)), .unset, .unset, .unset, .unset] []))
    refine Go.st (fun _ kk => XS.iload X6.here hx rfl (hb hby at_25) rfl  kk) ?_
    show Go p e below _ (T6.setTop (mkF m 27 #[.val (.int p1), .val (.int p2), .val (.int p3), .val (.int p4), .val (.ref b5), .val (.int (1 : Int32)), .unset, .unset, .unset, .unset] [(.int (1 : Int32))]))
    refine Go.st (fun _ kk => XS.ifNo X6.here hx rfl (hb hby at_27) rfl ((if0 _ _).trans (feq (by decide : ¬ ((1 : Int32) = (0 : Int32)))).1) kk) ?_
    show Go p e below _ (T6.setTop (mkF m 30 #[.val (.int p1), .val (.int p2), .val (.int p3), .val (.int p4), .val (.ref b5), .val (.int (1 : Int32)), .unset, .unset, .unset, .unset] []))
    have f_7 := (staKeep0 S_LEFT K6)
    obtain ⟨T8, X8, e8, st8⟩ := getS2 X6 hx hZ hown (host := "") (Or.inl (hw _ (List.mem_of_getElem? (i := 20) rfl))) Via.refl rfl f_7 (g := (mkF m 30 #[.val (.int p1), .val (.int p2), .val (.int p3), .val (.int p4), .val (.ref b5), .val (.int (1 : Int32)), .unset, .unset, .unset, .unset] [])) rfl (hb hby at_30)
    refine Go.st st8 ?_
    show Go p e below _ (T8.setTop (mkF m 33 #[.val (.int p1), .val (.int p2), .val (.int p3), .val (.int p4), .val (.ref b5), .val (.int (1 : Int32)), .unset, .unset, .unset, .unset] [(.ref w_LEFT)]))
    refine Go.st (fun _ kk => XS.goto X8.here hx rfl (pc0 := 33) (pc' := 39) rfl (hb hby at_33) (by decide) (by decide) kk) ?_
    show Go p e below _ (T8.setTop (mkF m 39 #[.val (.int p1), .val (.int p2), .val (.int p3), .val (.int p4), .val (.ref b5), .val (.int (1 : Int32)), .unset, .unset, .unset, .unset] [(.ref w_LEFT)]))
    refine Go.st (fun _ kk => XS.astore X8.here hx rfl (hb hby at_39) rfl rfl (l' := #[.val (.int p1), .val (.int p2), .val (.int p3), .val (.int p4), .val (.ref b5), .val (.int (1 : Int32)), .val (.ref w_LEFT), .unset, .unset, .unset]) rfl kk) ?_
    show Go p e below _ (T8.setTop (mkF m 41 #[.val (.int p1), .val (.int p2), .val (.int p3), .val (.int p4), .val (.ref b5), .val (.int (1 : Int32)), .val (.ref w_LEFT), .unset, .unset, .unset] []))
    refine Go.st (fun _ kk => XS.iload X8.here hx rfl (hb hby at_41) rfl  kk) ?_
    show Go p e below _ (T8.setTop (mkF m 43 #[.val (.int p1), .val (.int p2), .val (.int p3), .val (.int p4), .val (.ref b5), .val (.int (1 : Int32)), .val (.ref w_LEFT), .unset, .unset, .unset] [(.int (1 : Int32))]))
    refine Go.st (fun _ kk => XS.ifNo X8.here hx rfl (hb hby at_43) rfl ((if0 _ _).trans (feq (by decide : ¬ ((1 : Int32) = (0 : Int32)))).1) kk) ?_
    show Go p e below _ (T8.setTop (mkF m 46 #[.val (.int p1), .val (.int p2), .val (.int p3), .val (.int p4), .val (.ref b5), .val (.int (1 : Int32)), .val (.ref w_LEFT), .unset, .unset, .unset] []))
    have f_9 := (staKeep0 S_RIGHT K6)
    obtain ⟨T10, X10, e10, st10⟩ := getS2 X8 hx hZ hown (host := "") (Or.inl (hw _ (List.mem_of_getElem? (i := 23) rfl))) Via.refl e8 f_9 (g := (mkF m 46 #[.val (.int p1), .val (.int p2), .val (.int p3), .val (.int p4), .val (.ref b5), .val (.int (1 : Int32)), .val (.ref w_LEFT), .unset, .unset, .unset] [])) rfl (hb hby at_46)
    refine Go.st st10 ?_
    show Go p e below _ (T10.setTop (mkF m 49 #[.val (.int p1), .val (.int p2), .val (.int p3), .val (.int p4), .val (.ref b5), .val (.int (1 : Int32)), .val (.ref w_LEFT), .unset, .unset, .unset] [(.ref w_RIGHT)]))
    refine Go.st (fun _ kk => XS.goto X10.here hx rfl (pc0 := 49) (pc' := 55) rfl (hb hby at_49) (by decide) (by decide) kk) ?_
    show Go p e below _ (T10.setTop (mkF m 55 #[.val (.int p1), .val (.int p2), .val (.int p3), .val (.int p4), .val (.ref b5), .val (.int (1 : Int32)), .val (.ref w_LEFT), .unset, .unset, .unset] [(.ref w_RIGHT)]))
    refine Go.st (fun _ kk => XS.astore X10.here hx rfl (hb hby at_55) rfl rfl (l' := #[.val (.int p1), .val (.int p2), .val (.int p3), .val (.int p4), .val (.ref b5), .val (.int (1 : Int32)), .val (.ref w_LEFT), .val (.ref w_RIGHT), .unset, .unset]) rfl kk) ?_
    show Go p e below _ (T10.setTop (mkF m 57 #[.val (.int p1), .val (.int p2), .val (.int p3), .val (.int p4), .val (.ref b5), .val (.int (1 : Int32)), .val (.ref w_LEFT), .val (.ref w_RIGHT), .unset, .unset] []))
    refine Go.st (fun _ kk => XS.iload X10.here hx rfl (hb hby at_57) rfl  kk) ?_
    show Go p e below _ (T10.setTop (mkF m 59 #[.val (.int p1), .val (.int p2), .val (.int p3), .val (.int p4), .val (.ref b5), .val (.int (1 : Int32)), .val (.ref w_LEFT), .val (.ref w_RIGHT), .unset, .unset] [(.int (1 : Int32))]))
    refine Go.st (fun _ kk => XS.ifNo X10.here hx rfl (hb hby at_59) rfl ((if0 _ _).trans (feq (by decide : ¬ ((1 : Int32) = (0 : Int32)))).1) kk) ?_
    show Go p e below _ (T10.setTop (mkF m 62 #[.val (.int p1), .val (.int p2), .val (.int p3), .val (.int p4), .val (.ref b5), .val (.int (1 : Int32)), .val (.ref w_LEFT), .val (.ref w_RIGHT), .unset, .unset] []))
    refine Go.st (fun _ kk => XS.iloadN X10.here hx rfl (hb hby at_62) rfl  kk) ?_
    show Go p e below _ (T10.setTop (mkF m 63 #[.val (.int p1), .val (.int p2), .val (.int p3), .val (.int p4), .val (.ref b5), .val (.int (1 : Int32)), .val (.ref w_LEFT), .val (.ref w_RIGHT), .unset, .unset] [(.int p1)]))
    refine Go.st (fun _ kk => XS.goto X10.here hx rfl (pc0 := 63) (pc' := 67) rfl (hb hby at_63) (by decide) (by decide) kk) ?_
    show Go p e below _ (T10.setTop (mkF m 67 #[.val (.int p1), .val (.int p2), .val (.int p3), .val (.int p4), .val (.ref b5), .val (.int (1 : Int32)), .val (.ref w_LEFT), .val (.ref w_RIGHT), .unset, .unset] [(.int p1)]))
    refine Go.st (fun _ kk => XS.istore X10.here hx rfl (hb hby at_67) rfl (l' := #[.val (.int p1), .val (.int p2), .val (.int p3), .val (.int p4), .val (.ref b5), .val (.int (1 : Int32)), .val (.ref w_LEFT), .val (.ref w_RIGHT), .val (.int p1), .unset]) rfl kk) ?_
    show Go p e below _ (T10.setTop (mkF m 69 #[.val (.int p1), .val (.int p2), .val (.int p3), .val (.int p4), .val (.ref b5), .val (.int (1 : Int32)), .val (.ref w_LEFT), .val (.ref w_RIGHT), .val (.int p1), .unset] []))
    refine Go.st (fun _ kk => XS.iload X10.here hx rfl (hb hby at_69) rfl  kk) ?_
    show Go p e below _ (T10.setTop (mkF m 71 #[.val (.int p1), .val (.int p2), .val (.int p3), .val (.int p4), .val (.ref b5), .val (.int (1 : Int32)), .val (.ref w_LEFT), .val (.ref w_RIGHT), .val (.int p1), .unset] [(.int (1 : Int32))]))
    refine Go.st (fun _ kk => XS.ifNo X10.here hx rfl (hb hby at_71) rfl ((if0 _ _).trans (feq (by decide : ¬ ((1 : Int32) = (0 : Int32)))).1) kk) ?_
    show Go p e below _ (T10.setTop (mkF m 74 #[.val (.int p1), .val (.int p2), .val (.int p3), .val (.int p4), .val (.ref b5), .val (.int (1 : Int32)), .val (.ref w_LEFT), .val (.ref w_RIGHT), .val (.int p1), .unset] []))
    refine Go.st (fun _ kk => XS.iloadN X10.here hx rfl (hb hby at_74) rfl  kk) ?_
    show Go p e below _ (T10.setTop (mkF m 75 #[.val (.int p1), .val (.int p2), .val (.int p3), .val (.int p4), .val (.ref b5), .val (.int (1 : Int32)), .val (.ref w_LEFT), .val (.ref w_RIGHT), .val (.int p1), .unset] [(.int p2)]))
    refine Go.st (fun _ kk => XS.goto X10.here hx rfl (pc0 := 75) (pc' := 79) rfl (hb hby at_75) (by decide) (by decide) kk) ?_
    show Go p e below _ (T10.setTop (mkF m 79 #[.val (.int p1), .val (.int p2), .val (.int p3), .val (.int p4), .val (.ref b5), .val (.int (1 : Int32)), .val (.ref w_LEFT), .val (.ref w_RIGHT), .val (.int p1), .unset] [(.int p2)]))
    refine Go.st (fun _ kk => XS.istore X10.here hx rfl (hb hby at_79) rfl (l' := #[.val (.int p1), .val (.int p2), .val (.int p3), .val (.int p4), .val (.ref b5), .val (.int (1 : Int32)), .val (.ref w_LEFT), .val (.ref w_RIGHT), .val (.int p1), .val (.int p2)]) rfl kk) ?_
    show Go p e below _ (T10.setTop (mkF m 81 #[.val (.int p1), .val (.int p2), .val (.int p3), .val (.int p4), .val (.ref b5), .val (.int (1 : Int32)), .val (.ref w_LEFT), .val (.ref w_RIGHT), .val (.int p1), .val (.int p2)] []))
    refine Go.st (fun _ kk => XS.aload X10.here hx rfl (hb hby at_81) rfl rfl  kk) ?_
    show Go p e below _ (T10.setTop (mkF m 83 #[.val (.int p1), .val (.int p2), .val (.int p3), .val (.int p4), .val (.ref b5), .val (.int (1 : Int32)), .val (.ref w_LEFT), .val (.ref w_RIGHT), .val (.int p1), .val (.int p2)] [(.ref b5)]))
    refine Go.st (fun _ kk => XS.aload X10.here hx rfl (hb hby at_83) rfl rfl  kk) ?_
    show Go p e below _ (T10.setTop (mkF m 85 #[.val (.int p1), .val (.int p2), .val (.int p3), .val (.int p4), .val (.ref b5), .val (.int (1 : Int32)), .val (.ref w_LEFT), .val (.ref w_RIGHT), .val (.int p1), .val (.int p2)] [(.ref w_LEFT), (.ref b5)]))
    obtain ⟨cq11, kq11, q11a, q11b, q11c⟩ := isOf hZ e10 P6_0
    obtain ⟨_, _, ⟨T11, L11, k11, n11⟩, -, X11, ⟨Lc11, hQ11, l11, y11, z11⟩, st11⟩ := X10.virtualBack hx (y := (⟨"com/example/mergewell/mergewell/history/DivergingPair", "version", "(Lcom/example/mergewell/mergewell/core/merge/Side;)I"⟩ : MethodName)) (z := (⟨"com/example/mergewell/mergewell/history/DivergingPair", "version", "(Lcom/example/mergewell/mergewell/core/merge/Side;)I"⟩ : MethodName)) hown (mvT hZ (hw _ (List.mem_of_getElem? (i := 25) rfl))) (mvT hZ (hw _ (List.mem_of_getElem? (i := 26) rfl))) (notFace_of_selects (args := #[]) (mvT hZ (hw _ (List.mem_of_getElem? (i := 28) rfl)))) (mvT hZ (hw _ (List.mem_of_getElem? (i := 28) rfl))) (mvT hZ (hw _ (List.mem_of_getElem? (i := 27) rfl))) (by decide) (backOf (W := 0) (rm4_t l Z a0 hw [] b5 w_LEFT w_LEFT p1 T6.heap n0 (Nat.le_trans Z0 K6.1) f_7 (rfl : w_LEFT = w_LEFT) P6_1) hZ (hw _ (List.mem_of_getElem? (i := 29) rfl)) (hw _ (List.mem_of_getElem? (i := 2) rfl)) (by decide) (by decide)) q11a q11c (g := (mkF m 85 #[.val (.int p1), .val (.int p2), .val (.int p3), .val (.int p4), .val (.ref b5), .val (.int (1 : Int32)), .val (.ref w_LEFT), .val (.ref w_RIGHT), .val (.int p1), .val (.int p2)] [(.ref w_LEFT), (.ref b5)])) rfl (by rw [hml]; rfl) (Steps.refl _) (argsL := [(.ref w_LEFT)]) (rest := []) (lenOf pd_2 rfl) rfl (by show 2 * 0 + _ ≤ _; exact Nat.le_of_eq rfl) (hb hby at_85) (fun _ _ => ⟨rfl, e10, (by decide : 1 + 0 ≤ _), (by decide : 3 + 0 ≤ _)⟩)
    dsimp only [Pt.U, Pt.locs, Pt.cells, Pt.slots] at X11 l11 y11 z11 st11 hQ11
    subst l11 y11 z11
    obtain ⟨rfl, N11q, eq11⟩ := hQ11
    have N11 := Fr.app N6 N11q
    refine Go.tr st11 ?_
    show Go p e below _ (T11.setTop (mkF m 88 #[.val (.int p1), .val (.int p2), .val (.int p3), .val (.int p4), .val (.ref b5), .val (.int (1 : Int32)), .val (.ref w_LEFT), .val (.ref w_RIGHT), .val (.int p1), .val (.int p2)] [(.int p1)]))
    refine Go.st (fun _ kk => XS.iload X11.here hx rfl (hb hby at_88) rfl  kk) ?_
    show Go p e below _ (T11.setTop (mkF m 90 #[.val (.int p1), .val (.int p2), .val (.int p3), .val (.int p4), .val (.ref b5), .val (.int (1 : Int32)), .val (.ref w_LEFT), .val (.ref w_RIGHT), .val (.int p1), .val (.int p2)] [(.int p1), (.int p1)]))
    refine Go.st (fun _ kk => XS.icmpNo X11.here hx rfl (hb hby at_90) rfl (teq (rfl : p1 = p1)).2 kk) ?_
    show Go p e below _ (T11.setTop (mkF m 93 #[.val (.int p1), .val (.int p2), .val (.int p3), .val (.int p4), .val (.ref b5), .val (.int (1 : Int32)), .val (.ref w_LEFT), .val (.ref w_RIGHT), .val (.int p1), .val (.int p2)] []))
    refine Go.st (fun _ kk => XS.aload X11.here hx rfl (hb hby at_93) rfl rfl  kk) ?_
    show Go p e below _ (T11.setTop (mkF m 95 #[.val (.int p1), .val (.int p2), .val (.int p3), .val (.int p4), .val (.ref b5), .val (.int (1 : Int32)), .val (.ref w_LEFT), .val (.ref w_RIGHT), .val (.int p1), .val (.int p2)] [(.ref b5)]))
    refine Go.st (fun _ kk => XS.aload X11.here hx rfl (hb hby at_95) rfl rfl  kk) ?_
    show Go p e below _ (T11.setTop (mkF m 97 #[.val (.int p1), .val (.int p2), .val (.int p3), .val (.int p4), .val (.ref b5), .val (.int (1 : Int32)), .val (.ref w_LEFT), .val (.ref w_RIGHT), .val (.int p1), .val (.int p2)] [(.ref w_RIGHT), (.ref b5)]))
    obtain ⟨cq12, kq12, q12a, q12b, q12c⟩ := isOf hZ eq11 P6_0
    obtain ⟨_, _, ⟨T12, L12, k12, n12⟩, -, X12, ⟨Lc12, hQ12, l12, y12, z12⟩, st12⟩ := X11.virtualBack hx (y := (⟨"com/example/mergewell/mergewell/history/DivergingPair", "version", "(Lcom/example/mergewell/mergewell/core/merge/Side;)I"⟩ : MethodName)) (z := (⟨"com/example/mergewell/mergewell/history/DivergingPair", "version", "(Lcom/example/mergewell/mergewell/core/merge/Side;)I"⟩ : MethodName)) hown (mvT hZ (hw _ (List.mem_of_getElem? (i := 25) rfl))) (mvT hZ (hw _ (List.mem_of_getElem? (i := 26) rfl))) (notFace_of_selects (args := #[]) (mvT hZ (hw _ (List.mem_of_getElem? (i := 28) rfl)))) (mvT hZ (hw _ (List.mem_of_getElem? (i := 28) rfl))) (mvT hZ (hw _ (List.mem_of_getElem? (i := 27) rfl))) (by decide) (backOf (W := 0) (rm4_f l Z a0 hw [] b5 w_RIGHT w_LEFT p2 T6.heap n0 (Nat.le_trans Z0 K6.1) f_7 (Fld.ne F_ordinal_w_RIGHT F_ordinal_w_LEFT (by decide)) P6_2) hZ (hw _ (List.mem_of_getElem? (i := 29) rfl)) (hw _ (List.mem_of_getElem? (i := 2) rfl)) (by decide) (by decide)) q12a q12c (g := (mkF m 97 #[.val (.int p1), .val (.int p2), .val (.int p3), .val (.int p4), .val (.ref b5), .val (.int (1 : Int32)), .val (.ref w_LEFT), .val (.ref w_RIGHT), .val (.int p1), .val (.int p2)] [(.ref w_RIGHT), (.ref b5)])) rfl (by rw [hml]; rfl) (Steps.refl _) (argsL := [(.ref w_RIGHT)]) (rest := []) (lenOf pd_2 rfl) rfl (by show 2 * 0 + _ ≤ _; exact Nat.le_of_eq rfl) (hb hby at_97) (fun _ _ => ⟨rfl, eq11, (by decide : 1 + 0 ≤ _), (by decide : 3 + 0 ≤ _)⟩)
    dsimp only [Pt.U, Pt.locs, Pt.cells, Pt.slots] at X12 l12 y12 z12 st12 hQ12
    subst l12 y12 z12
    obtain ⟨rfl, N12q, eq12⟩ := hQ12
    have N12 := Fr.app N11 N12q
    refine Go.tr st12 ?_
    show Go p e below _ (T12.setTop (mkF m 100 #[.val (.int p1), .val (.int p2), .val (.int p3), .val (.int p4), .val (.ref b5), .val (.int (1 : Int32)), .val (.ref w_LEFT), .val (.ref w_RIGHT), .val (.int p1), .val (.int p2)] [(.int p2)]))
    refine Go.st (fun _ kk => XS.iload X12.here hx rfl (hb hby at_100) rfl  kk) ?_
    show Go p e below _ (T12.setTop (mkF m 102 #[.val (.int p1), .val (.int p2), .val (.int p3), .val (.int p4), .val (.ref b5), .val (.int (1 : Int32)), .val (.ref w_LEFT), .val (.ref w_RIGHT), .val (.int p1), .val (.int p2)] [(.int p2), (.int p2)]))
    refine Go.st (fun _ kk => XS.icmpNo X12.here hx rfl (hb hby at_102) rfl (teq (rfl : p2 = p2)).2 kk) ?_
    show Go p e below _ (T12.setTop (mkF m 105 #[.val (.int p1), .val (.int p2), .val (.int p3), .val (.int p4), .val (.ref b5), .val (.int (1 : Int32)), .val (.ref w_LEFT), .val (.ref w_RIGHT), .val (.int p1), .val (.int p2)] []))
    refine Go.st (fun _ kk => XS.iconst X12.here hx rfl (hb hby at_105) kk) ?_
    show Go p e below _ (T12.setTop (mkF m 106 #[.val (.int p1), .val (.int p2), .val (.int p3), .val (.int p4), .val (.ref b5), .val (.int (1 : Int32)), .val (.ref w_LEFT), .val (.ref w_RIGHT), .val (.int p1), .val (.int p2)] [(.int (1 : Int32))]))
    refine Go.st (fun _ kk => XS.goto X12.here hx rfl (pc0 := 106) (pc' := 110) rfl (hb hby at_106) (by decide) (by decide) kk) ?_
    show Go p e below _ (T12.setTop (mkF m 110 #[.val (.int p1), .val (.int p2), .val (.int p3), .val (.int p4), .val (.ref b5), .val (.int (1 : Int32)), .val (.ref w_LEFT), .val (.ref w_RIGHT), .val (.int p1), .val (.int p2)] [(.int (1 : Int32))]))
    exact Go.ret (Q := Q0 n0) X12 (v := some (.int (1 : Int32))) (fun h => by rw [Bd.returns] at h; cases h) Bd.notSynchronized (fun fs hr => retN X12 hx (t := .boolean) Bd.returns (by simp) (hb hby at_110) hr) eq12 ⟨rfl, N12⟩ (by decide) (by decide)
set_option maxRecDepth 65536 in
set_option maxHeartbeats 40000000 in
theorem comes_1 {Post : Tables → Env → Array Value → State → Outcome → State → Prop} (hpost : ∀ tb e args s v u, (limb_1_1.after args s (.returned v) u = true ∧ limb_1_2.after args s (.returned v) u = true ∧ True) → FrameEnd s (.returned v) u (Jvm.fieldLocs frame_1_writes args s ++ Jvm.arrayLocs frame_1_arrays args s ++ Jvm.staticLocs frame_1_statics s) 16 128 → Post tb e args s (.returned v) u) :
    ArmFor flags0 classFile x code maxLocals ret World_1 tables_1 room_1 Calls_1 rest_1 Pre_1 Post := by
  intro l hfl _ _ p e ha hc hk s m args below hf hA hF happ hP
  obtain ⟨hcalls, hrest, hpre⟩ := hP
  obtain ⟨-, -, -, hnamed, -, -, -, hat⟩ := (Spec.applies_iff hf).mp happ
  obtain ⟨hg, hn⟩ := and_e (Cond.before_iff.mp (show (Jvm.Cond.and given_1 narrow_1).before args s = true from hpre))
  obtain ⟨hcount, hg⟩ := and_e hg
  obtain ⟨hg0, hg⟩ := and_e hg
  obtain ⟨hg1, hg⟩ := and_e hg
  obtain ⟨hg2, hg⟩ := and_e hg
  have hg3 := hg
  obtain ⟨w0, w1, w2, w3, rfl⟩ : ∃ w0 w1 w2 w3 : Value, args = #[w0, w1, w2, w3] := by
    have hs : args.size = 4 := by simpa [Cond.value, given_1] using hcount
    obtain ⟨L⟩ := args
    match L, hs with
    | [w0, w1, w2, w3], _ => exact ⟨w0, w1, w2, w3, rfl⟩
  have hw := fun d (hd : d ∈ tables_1) => atoms_spec (ws := Jvm.Cond.code x code maxLocals ret :: tables_1) hat d (List.mem_cons_of_mem _ hd)
  have hfit : Fit s := fun {y c} hc i hi => by
    obtain ⟨ha, rfl⟩ := Array.getElem?_eq_some_iff.mp hc
    have q := List.all_eq_true.mp ((Array.all_eq_true_iff_forall_mem.mp hF) _ (Array.getElem_mem ha)) i (List.mem_range.mpr hi)
    simpa [Array.getElem?_eq_getElem hi] using q
  obtain ⟨i0, ei0⟩ := is_v hg0
  obtain rfl : w0 = (.int i0) := Option.some.inj ei0
  obtain ⟨i1, ei1⟩ := is_v hg1
  obtain rfl : w1 = (.int i1) := Option.some.inj ei1
  obtain ⟨i2, ei2⟩ := is_v hg2
  obtain rfl : w2 = (.int i2) := Option.some.inj ei2
  obtain ⟨i3, ei3⟩ := is_v hg3
  obtain rfl : w3 = (.int i3) := Option.some.inj ei3
  obtain ⟨hn0, hn⟩ := and_e hn
  obtain ⟨hn1, hn⟩ := and_e hn
  obtain ⟨hn2, hn⟩ := and_e hn
  have hn3 := hn
  obtain ⟨w_LEFT, ev_LEFT⟩ := exa_v hn0
  have S_LEFT := Sta.start ev_LEFT (Or.inr ⟨(hw _ (List.mem_of_getElem? (i := 21) rfl)), (hw _ (List.mem_of_getElem? (i := 22) rfl))⟩)
  have E_w_LEFT := Exa.start ev_LEFT hn0
  obtain ⟨w_RIGHT, ev_RIGHT⟩ := exa_v hn1
  have S_RIGHT := Sta.start ev_RIGHT (Or.inr ⟨(hw _ (List.mem_of_getElem? (i := 21) rfl)), (hw _ (List.mem_of_getElem? (i := 24) rfl))⟩)
  have E_w_RIGHT := Exa.start ev_RIGHT hn1
  have F_ordinal_w_RIGHT := fldStart ev_RIGHT hn2
  have F_ordinal_w_LEFT := fldStart ev_LEFT hn3
  obtain ⟨n, o, h1, h2, h3, _, L, rfl, ⟨rfl, N⟩, hq⟩ := rm0 l s _ hw tables_1 i0 i1 i2 i3 w_LEFT w_RIGHT s.heap s.heap.size (Nat.le_refl _) S_LEFT E_w_LEFT S_RIGHT E_w_RIGHT F_ordinal_w_RIGHT F_ordinal_w_LEFT p e ha hc hk s m _ below hf ((Spec.applies_iff_loose hf).mp happ).1 ⟨rfl, State.Warmed39.refl s, rfl⟩ trivial
  refine ⟨n, _, h1, h2, h3, hpost _ _ _ _ _ _ ⟨Cond.after_iff.mpr rfl, Cond.after_iff.mpr (eq_i res_at (Term.int_eval (1)) rfl), trivial⟩ ⟨hq.1, hq.2.1, (hq.2.2.sift fun y hy => Or.inr (N y hy)).mono (by decide) (by decide)⟩⟩
theorem main_1_1 : Claimed_1_1 := comes_1 fun _ _ _ _ _ _ h hF => ⟨h.1, hF⟩
theorem main_1_2 : Claimed_1_2 := comes_1 fun _ _ _ _ _ _ h hF => ⟨h.2.1, hF⟩
end Jvm.Pilot.@@N@@
namespace Jvm.Pilot.@@N@@
open Jvm Jvm.ClassFile Sem Op Lib Jvm.Free Jvm.Stand Jvm.Pilot.@@N@@.Jvm.D
/-! MADE BY PROGRAM (witnessworld.py) out of the Statement's table words and the real class files: 14 classes; the members and pool entries that the words name. The judged class is class 1, her method 1. -/
namespace start1
open Jvm.ClassFile
def u (s : String) : CpInfo := .utf8 (stringToUtf16 s)
/-- a pool by its gaps: so many unusable entries, then the entry; so many at the end -/
def gap : Nat → List CpInfo → List CpInfo
  | 0, r => r
  | n + 1, r => .unusable :: gap n r
def poolList (es : List (Nat × CpInfo)) (last : Nat) : List CpInfo := es.foldr (fun e r => gap e.1 (e.2 :: r)) (gap last [])
def pool (es : List (Nat × CpInfo)) (last : Nat) : Array CpInfo := ⟨poolList es last⟩
def fileOf (pool : Array CpInfo) (this : Nat) (attrs : Array Attribute := #[]) (ms : Array MethodInfo := #[]) (fl : Nat := 33) (sup : Nat := 0) (ifs : Array Nat := #[]) (fds : Array FieldInfo := #[]) : ClassFile where
  minorVersion := 0
  majorVersion := 65
  constantPool := pool
  accessFlags := fl
  thisClass := this
  superClass := sup
  interfaces := ifs
  fields := fds
  methods := ms
  attributes := attrs
def plain (name : String) (sup : Option ClassId) : Class where
  name := name
  kind := .ordinary
  loader := none
  accessFlags := 33
  super := sup
  interfaces := #[]
  cf := none
  fields := #[]
  methods := #[]
  instanceTypes := #[]
  staticTypes := #[]
  resolved := #[]
  callSites := []
  init := .initialized
  statics := none
  mirror := none

def pool0 : Array CpInfo := pool [(5, u "<init>"), (0, u "()V"), (1, .class_ 10), (1, u "java/lang/Object")] 113

def k0c0 : Code := { maxStack := 0, maxLocals := 1, code := object_method_1_code, exceptionTable := #[], attributes := #[] }
def k0m0 : Method := { name := "<init>", desc := "()V", sig := { parameters := [], returnType := none }, accessFlags := 1, code := some k0c0 }
/-- java/lang/Object -/
def k0 : Class := { plain "java/lang/Object" none with
  accessFlags := 33
  interfaces := #[]
  cf := some (fileOf pool0 8 #[] #[{ accessFlags := 1, nameIndex := 5, descriptorIndex := 6, attributes := #[] }] 33 0 #[] #[])
  fields := #[]
  methods := #[k0m0]
  instanceTypes := #[]
  staticTypes := #[]
  resolved := Array.replicate 124 none
  statics := none }

def pool1 : Array CpInfo := pool [(2, .class_ 4), (1, u "java/lang/Object"), (0, u "<init>"), (0, u "()V"), (0, .class_ 8), (0, u "com/example/mergewell/mergewell/history/DivergingPair"), (0, .methodref 7 10), (0, .nameAndType 5 11), (0, u "(III)V"), (0, .fieldref 13 14), (0, .class_ 15), (0, .nameAndType 16 17), (0, u "com/example/mergewell/mergewell/core/merge/Side"), (0, u "LEFT"), (0, u "Lcom/example/mergewell/mergewell/core/merge/Side;"), (0, .fieldref 13 19), (0, .nameAndType 20 17), (0, u "RIGHT"), (0, .methodref 7 22), (0, .nameAndType 23 24), (0, u "version"), (0, u "(Lcom/example/mergewell/mergewell/core/merge/Side;)I"), (0, .class_ 26), (0, u "com/example/mergewell/mergewell/history/DivergingPairVersionPinLaw"), (2, u "law"), (0, u "(IIII)Z")] 3

def k1m0 : Method := { name := "<init>", desc := "()V", sig := { parameters := [], returnType := none }, accessFlags := 2, code := none }
def k1c1 : Code := { maxStack := 5, maxLocals := 10, code := code, exceptionTable := #[], attributes := #[] }
def k1m1 : Method := { name := "law", desc := "(IIII)Z", sig := { parameters := [.int, .int, .int, .int], returnType := some .boolean }, accessFlags := 9, code := some k1c1 }
/-- com/example/mergewell/mergewell/history/DivergingPairVersionPinLaw -/
def k1 : Class := { plain "com/example/mergewell/mergewell/history/DivergingPairVersionPinLaw" (some 0) with
  accessFlags := 49
  interfaces := #[]
  cf := some (fileOf pool1 25 #[] #[{ accessFlags := 2, nameIndex := 5, descriptorIndex := 6, attributes := #[] }, { accessFlags := 9, nameIndex := 29, descriptorIndex := 30, attributes := #[] }] 49 2 #[] #[])
  fields := #[]
  methods := #[k1m0, k1m1]
  instanceTypes := #[]
  staticTypes := #[]
  resolved := Array.replicate 34 none
  statics := none }

def pool2 : Array CpInfo := pool [(1, .methodref 2 3), (0, .class_ 4), (0, .nameAndType 5 6), (0, u "java/lang/Object"), (0, u "<init>"), (0, u "()V"), (0, .class_ 8), (0, u "java/lang/Record")] 13

def k2c0 : Code := { maxStack := 1, maxLocals := 1, code := jdk_30_method_1_code, exceptionTable := #[], attributes := #[] }
def k2m0 : Method := { name := "<init>", desc := "()V", sig := { parameters := [], returnType := none }, accessFlags := 4, code := some k2c0 }
/-- java/lang/Record -/
def k2 : Class := { plain "java/lang/Record" (some 0) with
  accessFlags := 1057
  interfaces := #[]
  cf := some (fileOf pool2 7 #[] #[{ accessFlags := 4, nameIndex := 5, descriptorIndex := 6, attributes := #[] }] 1057 2 #[] #[])
  fields := #[]
  methods := #[k2m0]
  instanceTypes := #[]
  staticTypes := #[]
  resolved := Array.replicate 22 none
  statics := none }

def pool3 : Array CpInfo := pool [(1, .methodref 2 3), (0, .class_ 4), (0, .nameAndType 5 6), (0, u "java/lang/Record"), (0, u "<init>"), (0, u "()V"), (0, .fieldref 8 9), (0, .class_ 10), (0, .nameAndType 11 12), (0, u "com/example/mergewell/mergewell/history/DivergingPair"), (0, u "left"), (0, u "I"), (0, .fieldref 8 14), (0, .nameAndType 15 12), (0, u "right"), (0, .fieldref 8 17), (0, .nameAndType 18 12), (0, u "base"), (16, u "version"), (5, .fieldref 42 43), (0, .class_ 44), (0, .nameAndType 45 46), (0, u "com/example/mergewell/mergewell/core/merge/Side"), (0, u "LEFT"), (0, u "Lcom/example/mergewell/mergewell/core/merge/Side;"), (12, u "(III)V"), (5, u "(Lcom/example/mergewell/mergewell/core/merge/Side;)I")] 33

def k3c0 : Code := { maxStack := 2, maxLocals := 4, code := prog_67_method_1_code, exceptionTable := #[], attributes := #[] }
def k3m0 : Method := { name := "<init>", desc := "(III)V", sig := { parameters := [.int, .int, .int], returnType := none }, accessFlags := 1, code := some k3c0 }
def k3c1 : Code := { maxStack := 2, maxLocals := 2, code := prog_67_method_3_code, exceptionTable := #[], attributes := #[] }
def k3m1 : Method := { name := "version", desc := "(Lcom/example/mergewell/mergewell/core/merge/Side;)I", sig := { parameters := [(.object "com/example/mergewell/mergewell/core/merge/Side")], returnType := some .int }, accessFlags := 1, code := some k3c1 }
/-- com/example/mergewell/mergewell/history/DivergingPair -/
def k3 : Class := { plain "com/example/mergewell/mergewell/history/DivergingPair" (some 2) with
  accessFlags := 49
  interfaces := #[]
  cf := some (fileOf pool3 8 #[] #[{ accessFlags := 1, nameIndex := 5, descriptorIndex := 59, attributes := #[] }, { accessFlags := 1, nameIndex := 35, descriptorIndex := 65, attributes := #[] }] 49 2 #[] #[{ accessFlags := 18, nameIndex := 11, descriptorIndex := 12, attributes := #[] }, { accessFlags := 18, nameIndex := 15, descriptorIndex := 12, attributes := #[] }, { accessFlags := 18, nameIndex := 18, descriptorIndex := 12, attributes := #[] }])
  fields := #[{ name := "left", type := .int, accessFlags := 18, slot := 0, constantValue := 0 }, { name := "right", type := .int, accessFlags := 18, slot := 1, constantValue := 0 }, { name := "base", type := .int, accessFlags := 18, slot := 2, constantValue := 0 }]
  methods := #[k3m0, k3m1]
  instanceTypes := #[.int, .int, .int]
  staticTypes := #[]
  resolved := Array.replicate 99 none
  statics := none }

def pool4 : Array CpInfo := pool [(1, .class_ 2), (0, u "java/lang/constant/Constable"), (0, .class_ 4), (0, u "java/lang/Object")] 6

/-- java/lang/constant/Constable -/
def k4 : Class := { plain "java/lang/constant/Constable" (some 0) with
  accessFlags := 1537
  interfaces := #[]
  cf := some (fileOf pool4 1 #[] #[] 1537 3 #[] #[])
  fields := #[]
  methods := #[]
  instanceTypes := #[]
  staticTypes := #[]
  resolved := Array.replicate 11 none
  statics := none }

def pool5 : Array CpInfo := pool [(1, .class_ 2), (0, u "java/lang/Comparable"), (0, .class_ 4), (0, u "java/lang/Object")] 7

/-- java/lang/Comparable -/
def k5 : Class := { plain "java/lang/Comparable" (some 0) with
  accessFlags := 1537
  interfaces := #[]
  cf := some (fileOf pool5 1 #[] #[] 1537 3 #[] #[])
  fields := #[]
  methods := #[]
  instanceTypes := #[]
  staticTypes := #[]
  resolved := Array.replicate 12 none
  statics := none }

def pool6 : Array CpInfo := pool [(1, .class_ 2), (0, u "java/io/Serializable"), (0, .class_ 4), (0, u "java/lang/Object")] 2

/-- java/io/Serializable -/
def k6 : Class := { plain "java/io/Serializable" (some 0) with
  accessFlags := 1537
  interfaces := #[]
  cf := some (fileOf pool6 1 #[] #[] 1537 3 #[] #[])
  fields := #[]
  methods := #[]
  instanceTypes := #[]
  staticTypes := #[]
  resolved := Array.replicate 7 none
  statics := none }

def pool7 : Array CpInfo := pool [(2, .class_ 4), (1, u "java/lang/Enum"), (0, u "name"), (0, u "Ljava/lang/String;"), (2, u "ordinal"), (0, u "I"), (1, .class_ 14), (1, u "java/lang/Object"), (4, u "hash"), (86, .class_ 108), (1, u "java/lang/Enum$EnumDesc"), (2, .class_ 112), (0, u "java/lang/constant/Constable"), (0, .class_ 114), (0, u "java/lang/Comparable"), (0, .class_ 116), (0, u "java/io/Serializable")] 87

/-- java/lang/Enum -/
def k7 : Class := { plain "java/lang/Enum" (some 0) with
  accessFlags := 1057
  interfaces := #[4, 5, 6]
  cf := some (fileOf pool7 2 #[.nestMembers #[106]] #[] 1057 12 #[111, 113, 115] #[{ accessFlags := 18, nameIndex := 5, descriptorIndex := 6, attributes := #[] }, { accessFlags := 18, nameIndex := 9, descriptorIndex := 10, attributes := #[] }, { accessFlags := 2, nameIndex := 19, descriptorIndex := 10, attributes := #[] }])
  fields := #[{ name := "name", type := (.object "java/lang/String"), accessFlags := 18, slot := 0, constantValue := 0 }, { name := "ordinal", type := .int, accessFlags := 18, slot := 1, constantValue := 0 }, { name := "hash", type := .int, accessFlags := 2, slot := 2, constantValue := 0 }]
  methods := #[]
  instanceTypes := #[(.object "java/lang/String"), .int, .int]
  staticTypes := #[]
  resolved := Array.replicate 204 none
  statics := none }

def pool8 : Array CpInfo := pool [(1, .class_ 2), (0, u "com/example/mergewell/mergewell/core/merge/Side"), (2, u "LEFT"), (0, u "Lcom/example/mergewell/mergewell/core/merge/Side;"), (2, u "RIGHT"), (2, u "$VALUES"), (0, u "[Lcom/example/mergewell/mergewell/core/merge/Side;"), (6, .class_ 22), (1, u "java/lang/Enum")] 44

/-- com/example/mergewell/mergewell/core/merge/Side -/
def k8 : Class := { plain "com/example/mergewell/mergewell/core/merge/Side" (some 7) with
  accessFlags := 16433
  interfaces := #[]
  cf := some (fileOf pool8 1 #[] #[] 16433 20 #[] #[{ accessFlags := 16409, nameIndex := 5, descriptorIndex := 6, attributes := #[] }, { accessFlags := 16409, nameIndex := 9, descriptorIndex := 6, attributes := #[] }, { accessFlags := 4122, nameIndex := 12, descriptorIndex := 13, attributes := #[] }])
  fields := #[{ name := "LEFT", type := (.object "com/example/mergewell/mergewell/core/merge/Side"), accessFlags := 16409, slot := 0, constantValue := 0 }, { name := "RIGHT", type := (.object "com/example/mergewell/mergewell/core/merge/Side"), accessFlags := 16409, slot := 1, constantValue := 0 }, { name := "$VALUES", type := (.array (.object "com/example/mergewell/mergewell/core/merge/Side")), accessFlags := 4122, slot := 2, constantValue := 0 }]
  methods := #[]
  instanceTypes := #[(.object "java/lang/String"), .int, .int]
  staticTypes := #[(.object "com/example/mergewell/mergewell/core/merge/Side"), (.object "com/example/mergewell/mergewell/core/merge/Side"), (.array (.object "com/example/mergewell/mergewell/core/merge/Side"))]
  resolved := Array.replicate 67 none
  statics := some 0 }

def pool9 : Array CpInfo := pool [(1, u "java/lang/Cloneable"), (0, .class_ 1), (0, u "java/lang/Object"), (0, .class_ 3)] 3

/-- java/lang/Cloneable -/
def k9 : Class := { plain "java/lang/Cloneable" (some 0) with
  accessFlags := 1537
  interfaces := #[]
  cf := some (fileOf pool9 2 #[] #[] 1537 4 #[] #[])
  fields := #[]
  methods := #[]
  instanceTypes := #[]
  staticTypes := #[]
  resolved := Array.replicate 8 none
  statics := none }

/-- the primitive byte -/
def k10 : Class := { plain "byte" none with kind := .primitive 'B', accessFlags := 0x411 }
/-- [B -/
def k11 : Class := { plain "[B" (some 0) with kind := .array 10 .byte, interfaces := #[9, 6], accessFlags := 1041 }

/-- the primitive int -/
def k12 : Class := { plain "int" none with kind := .primitive 'I', accessFlags := 0x411 }
/-- [I -/
def k13 : Class := { plain "[I" (some 0) with kind := .array 12 .int, interfaces := #[9, 6], accessFlags := 1041 }

def heap : Heap := #[{ cls := 8, slots := #[.ref 1, .ref 2, .null], vm := .statics 8 },
  { cls := 8, slots := #[.null, .int 0, .int 0], vm := .none },
  { cls := 8, slots := #[.null, .int 1, .int 0], vm := .none }]
def classes : Array Class := #[k0, k1, k2, k3, k4, k5, k6, k7, k8, k9, k10, k11, k12, k13]
def interned : List (Array UInt16 × Addr) := []
def slotsUsed : Nat := 9
def theMethod : MethodId := ⟨1, 1⟩
def args0 : Array Value := #[.int 5, .int 6, .int 7, .int 8]
def aboutOver (below : List Frame) : State where
  vm := { classes := classes, interned := interned.toArray }
  heap := heap
  slotsUsed := slotsUsed
  threads := #[{ frames := .invoking theMethod args0 :: below }]
def below0 : List Frame := [.native { method := ⟨0, 0⟩, args := #[] }]
def about1 : State := aboutOver below0
def p0 : Program := .bare "" "" ""
def e0 : Env := launch0.env 0 0 0
theorem w_frames : about1.frames = Frame.invoking theMethod args0 :: below0 := rfl
set_option maxRecDepth 65536 in
theorem w_args : argsFit about1.vm theMethod args0 = true := by decide +kernel
set_option maxRecDepth 65536 in
theorem w_heap : heapFits about1 = true := by decide +kernel
set_option maxRecDepth 65536 in
theorem w_runnable : about1.curStatus? = some .runnable := by decide +kernel
set_option maxRecDepth 65536 in
theorem w_alone : about1.alone = true := by decide +kernel
set_option maxRecDepth 65536 in
theorem w_named : about1.methodNamed? x = some theMethod := by decide +kernel
set_option maxRecDepth 65536 in
theorem w_hears : about1.hears theMethod below0 = true := by decide +kernel
set_option maxRecDepth 65536 in
theorem w_ripe : about1.ripe theMethod args0 below0 = true := by decide +kernel
theorem w_running : about1.status = .running := rfl
set_option maxRecDepth 65536 in
theorem w_room : about1.hasRoom e0.platform room_1 = true :=
  launch0.hasRoom_least _ room_1 (by decide +kernel) (by decide +kernel) (by decide +kernel) (by decide +kernel) (by decide +kernel) (by decide +kernel)
theorem allAtoms_all (ts : List Jvm.Cond) (a : Array Jvm.Value) (st : Jvm.State) : (allAtoms ts).before a st = ts.all (fun c => c.before a st) := by
  induction ts with
  | nil => rfl
  | cons c t ih =>
    show (Jvm.Cond.and c (allAtoms t)).before a st = _
    rw [Jvm.Cond.before_and, ih, List.all_cons]
def words1 : List Jvm.Cond := Jvm.Cond.code x code maxLocals ret :: tables_1
/-- a 'code' word, met by the world's own term for the bytes: nothing is compared byte by byte -/
theorem code_word {y : MethodName} {bytes : ByteArray} {mx : Nat} {rt : Option FieldType} {a : Array Value} {s : State} {m : MethodId} {meth : Method} {c : Code} (h1 : s.methodNamed? y = some m) (h2 : s.vm.method? m = some meth) (h3 : meth.code = some c) (h4 : c.code = bytes)
    (h5 : (c.maxLocals == mx && c.exceptionTable.isEmpty && decide (c.maxStack ≤ mostOperands) && decide (meth.sig.returnType = rt) && !meth.locks && decide (parseMethodDescriptor y.desc = some meth.sig)) = true) : (Jvm.Cond.code y bytes mx rt).before a s = true := by
  simp only [Bool.and_eq_true, beq_iff_eq, Bool.not_eq_true', decide_eq_true_eq] at h5
  obtain ⟨⟨⟨⟨⟨g1, g2⟩, g3⟩, g4⟩, g5⟩, g6⟩ := h5
  simp [Cond.before, Cond.holds, Cond.value, h1, h2, h3, h4, g1, g2, g3, g4, g5, g6]
def isCode : Jvm.Cond → Bool
  | .code _ _ _ _ => true
  | _ => false
theorem all_split {L : List Jvm.Cond} {P : Jvm.Cond → Bool} (h1 : L.all (fun c => isCode c || P c) = true) (h2 : ∀ c ∈ L.filter isCode, P c = true) : L.all P = true := by
  refine List.all_eq_true.mpr fun c hc => ?_
  have h := List.all_eq_true.mp h1 c hc
  rcases Bool.eq_false_or_eq_true (isCode c) with hi | hi
  · exact h2 c (List.mem_filter.mpr ⟨hc, hi⟩)
  · simpa [hi] using h
set_option maxRecDepth 65536 in
theorem w_c0 : (Jvm.Cond.code x code maxLocals ret).before args0 about1 = true := code_word (m := ⟨1, 1⟩) (meth := k1m1) (c := k1c1) (by decide +kernel) rfl rfl rfl (by decide +kernel)
set_option maxRecDepth 65536 in
theorem w_c1 : (Jvm.Cond.code ({ cls := "com/example/mergewell/mergewell/history/DivergingPair", name := "<init>", desc := "(III)V" } : Jvm.MethodName) prog_67_method_1_code (4 : Nat) (Option.none : Option Jvm.ClassFile.FieldType)).before args0 about1 = true := code_word (m := ⟨3, 0⟩) (meth := k3m0) (c := k3c0) (by decide +kernel) rfl rfl rfl (by decide +kernel)
set_option maxRecDepth 65536 in
theorem w_c2 : (Jvm.Cond.code ({ cls := "java/lang/Record", name := "<init>", desc := "()V" } : Jvm.MethodName) jdk_30_method_1_code (1 : Nat) (Option.none : Option Jvm.ClassFile.FieldType)).before args0 about1 = true := code_word (m := ⟨2, 0⟩) (meth := k2m0) (c := k2c0) (by decide +kernel) rfl rfl rfl (by decide +kernel)
set_option maxRecDepth 65536 in
theorem w_c3 : (Jvm.Cond.code ({ cls := "java/lang/Object", name := "<init>", desc := "()V" } : Jvm.MethodName) object_method_1_code (1 : Nat) (Option.none : Option Jvm.ClassFile.FieldType)).before args0 about1 = true := code_word (m := ⟨0, 0⟩) (meth := k0m0) (c := k0c0) (by decide +kernel) rfl rfl rfl (by decide +kernel)
set_option maxRecDepth 65536 in
theorem w_c4 : (Jvm.Cond.code ({ cls := "com/example/mergewell/mergewell/history/DivergingPair", name := "version", desc := "(Lcom/example/mergewell/mergewell/core/merge/Side;)I" } : Jvm.MethodName) prog_67_method_3_code (2 : Nat) (Option.some Jvm.ClassFile.FieldType.int)).before args0 about1 = true := code_word (m := ⟨3, 1⟩) (meth := k3m1) (c := k3c1) (by decide +kernel) rfl rfl rfl (by decide +kernel)
def codes1 : List Jvm.Cond := [Jvm.Cond.code x code maxLocals ret, Jvm.Cond.code ({ cls := "com/example/mergewell/mergewell/history/DivergingPair", name := "<init>", desc := "(III)V" } : Jvm.MethodName) prog_67_method_1_code (4 : Nat) (Option.none : Option Jvm.ClassFile.FieldType), Jvm.Cond.code ({ cls := "java/lang/Record", name := "<init>", desc := "()V" } : Jvm.MethodName) jdk_30_method_1_code (1 : Nat) (Option.none : Option Jvm.ClassFile.FieldType), Jvm.Cond.code ({ cls := "java/lang/Object", name := "<init>", desc := "()V" } : Jvm.MethodName) object_method_1_code (1 : Nat) (Option.none : Option Jvm.ClassFile.FieldType), Jvm.Cond.code ({ cls := "com/example/mergewell/mergewell/history/DivergingPair", name := "version", desc := "(Lcom/example/mergewell/mergewell/core/merge/Side;)I" } : Jvm.MethodName) prog_67_method_3_code (2 : Nat) (Option.some Jvm.ClassFile.FieldType.int)]
set_option maxRecDepth 65536 in
theorem codes_eq : words1.filter isCode = codes1 := rfl
theorem w_codes : ∀ c ∈ words1.filter isCode, c.before args0 about1 = true := by
  rw [codes_eq]
  intro c hc
  simp only [codes1, List.mem_cons, List.not_mem_nil, or_false] at hc
  rcases hc with rfl | rfl | rfl | rfl | rfl
  · exact w_c0
  · exact w_c1
  · exact w_c2
  · exact w_c3
  · exact w_c4
set_option maxRecDepth 65536 in
theorem w_t1 : (words1.take 24).all (fun c => isCode c || c.before args0 about1) = true := by decide +kernel
set_option maxRecDepth 65536 in
theorem w_t2 : (words1.drop 24).all (fun c => isCode c || c.before args0 about1) = true := by decide +kernel
theorem w_tables : (allAtoms (Jvm.Cond.code x code maxLocals ret :: tables_1)).before args0 about1 = true := by
  rw [allAtoms_all]
  show words1.all (fun c => c.before args0 about1) = true
  refine all_split ?_ w_codes
  rw [← List.take_append_drop 24 words1, List.all_append, w_t1, w_t2]
  rfl
set_option maxRecDepth 65536 in
theorem w_case : (Jvm.Cond.and given_1 narrow_1).before args0 about1 = true := by decide +kernel
theorem w_applies : (headSpec (Jvm.Cond.code x code maxLocals ret :: tables_1) room_1).applies x e0.platform about1 = true :=
  (Spec.applies_iff w_frames).mpr ⟨w_running, w_runnable, w_alone, w_named, w_hears, w_ripe, w_room, w_tables⟩
theorem atStart : AtStart classFile x code maxLocals ret World_1 tables_1 room_1 Calls_1 rest_1 Pre_1 launch0 p0 e0 about1 theMethod args0 below0 :=
  ⟨lists_1, trivial, launch0.admits_env _ _ _, launch0.least_env, fairChoices_fair.cas, fairChoices_fair.clock, w_frames, w_args, w_heap, w_applies, trivial, trivial, w_case⟩
end start1
theorem witness_1 : WitnessClaimed_1 := ⟨start1.p0, start1.e0, start1.about1, start1.theMethod, start1.args0, start1.below0, start1.atStart⟩
end Jvm.Pilot.@@N@@
