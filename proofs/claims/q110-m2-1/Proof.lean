import JvmDerived
import JvmDerived.Pilot.@@N@@Statement
import JvmDerived.Pilot.@@N@@Code
set_option linter.unusedVariables false
set_option linter.unusedSimpArgs false
namespace Jvm.RoadKit
open Sem ClassFile Op Lib Jvm.Stand Jvm.Free Jvm.LawKit
section Own
variable {p : Program} {l : Launch} {e : Env} {R : Room} {s : State} {m : MethodId} {args : Array Value} {below : List Frame} {meth : Method} {c : Code} {T : State} {locs : List Loc} {cells slots : Nat} {Z : State} {h h' : Heap}
/-- from U the run comes to an end that G allows -/
def Go (p : Program) (e : Env) (below : List Frame) (G : Outcome → State → Prop) (U : State) : Prop := ∃ s₂ o, Steps p.tables e below U s₂ ∧ s₂.status = .running ∧ Ended s₂ below o ∧ G o s₂
theorem Go.st {G : Outcome → State → Prop} {U V : State} (h : ∀ t, Steps p.tables e below V t → Steps p.tables e below U t) (k : Go p e below G V) : Go p e below G U := by
  obtain ⟨s₂, o, a, r⟩ := k; exact ⟨s₂, o, h _ a, r⟩
theorem Go.tr {G : Outcome → State → Prop} {U V : State} (h : Steps p.tables e below U V) (k : Go p e below G V) : Go p e below G U := by
  obtain ⟨s₂, o, a, r⟩ := k; exact ⟨s₂, o, h.trans a, r⟩
theorem Go.en {G : Outcome → State → Prop} {g g' : JFrame} (q : g = g') (k : Go p e below G (T.setTop g')) : Go p e below G (T.setTop g) := q ▸ k
theorem Go.ret {Q : Option Value → Heap → List Loc → Prop} {K N : Nat} {U : State} (X : Stand p l e R s m args below meth c T locs cells slots) {v : Option Value} (hv : meth.sig.returnType = none → v = none) (hlk : meth.locks = false)
    (st : ∀ fs, (∀ (f : JFrame) (acts : List Action), f.method = m → f.locked = none → f.entered = [] → (doReturn e (T.setTop f) acts v).1 = T.setFrames fs) → Steps p.tables e below U (T.setFrames fs)) (eT : T.heap = h) (hQ : Q v h locs) (hk : cells ≤ K) (hn : slots ≤ N) :
    Go p e below (fun o s₂ => ∃ v L, o = .returned v ∧ Q v s₂.heap L ∧ FrameEnd s o s₂ L K N) U := by
  subst eT
  obtain ⟨fs, hr, hrun, hended, hW, hsame⟩ := X.leave hv hlk
  exact ⟨_, _, st fs hr, hrun, hended, _, _, rfl, hQ, ⟨_, rfl⟩, hW, hsame.mono hk hn⟩
theorem Go.retW {Q : Option Value → Heap → List Loc → Prop} {K N k0 : Nat} {U : State} {vm0 : Vm} (hS : s.Since vm0 k0) (hk0 : k0 ≤ h.size) (X : Stand p l e R (s.setVm vm0) m args below meth c T locs cells slots) {v : Option Value} (hv : meth.sig.returnType = none → v = none) (hlk : meth.locks = false)
    (st : ∀ fs, (∀ (f : JFrame) (acts : List Action), f.method = m → f.locked = none → f.entered = [] → (doReturn e (T.setTop f) acts v).1 = T.setFrames fs) → Steps p.tables e below U (T.setFrames fs)) (eT : T.heap = h) (hQ : Q v h locs) (hk : cells ≤ K) (hn : slots ≤ N) :
    Go p e below (fun o s₂ => ∃ v L, o = .returned v ∧ Q v s₂.heap L ∧ ReturnedEndW s o s₂ L K N) U := by
  subst eT
  obtain ⟨fs, hr, hrun, hended, hR⟩ := X.leaveW hS hk0 hv hlk
  exact ⟨_, _, st fs hr, hrun, hended, _, _, rfl, hQ, hR.1, hR.2.1, hR.2.2.1, hR.2.2.2.mono hk hn⟩
/-- RoadKit's backOfS for a callee that is told what the constants hold -/
theorem backOfSC {y : MethodName} {bytes : ByteArray} {maxL : Nat} {ret : Option FieldType} {rm : Room} {len W : Nat} {as' : Array Value} {Q : Option Value → Heap → List Loc → Prop} {EL : List (String × Nat)} {vm0 : Vm} {a0 : Array Value}
    (hM : MetFree l y (head1 [Cond.code y bytes maxL ret] rm) (fun a U => a = as' ∧ Z.Warmed39 U.vm ∧ U.heap = h ∧ CHv Z EL U.vm h) (fun _ _ _ _ _ => True) (fun _ U o U' => ∃ v L, o = .returned v ∧ Q v U'.heap L ∧ ReturnedEndW U o U' L rm.cells rm.slots))
    (hZ : Z.Warmed39 vm0) (wc : (Cond.code y bytes maxL ret).before a0 Z = true) (wz : (Cond.initialized y.cls).before a0 Z = true) (hf : rm.frames + 1 ≤ R.frames) (hl : W + (maxL + 11) + rm.locals ≤ R.locals) (hEL : EW Z a0 EL) (H : CHv Z EL vm0 h) :
    BackS l R p e below (s.setVm vm0) args y len W (fun A a => a = as' ∧ A.U.heap = h ∧ A.cells + rm.cells ≤ R.cells ∧ A.slots + rm.slots ≤ R.slots)
      (fun A _ v B => ∃ L, Q v B.U.heap L ∧ B.locs = A.locs ++ L ∧ B.cells = A.cells + rm.cells ∧ B.slots = A.slots + rm.slots) :=
  BackS.of_freeW (bytes := bytes) (maxL := maxL) (ret := ret) (E := fun _ _ o t L k n => k = rm.cells ∧ n = rm.slots ∧ ∃ v, o = .returned v ∧ Q v t.heap L) hM hf hl
    (fun m meth c A a Y hp => by
      have hU : Z.Warmed39 A.U.vm := wtrans (s := s.setVm vm0) hZ Y.warmed
      exact ⟨by show (Cond.and _ .tt).before a A.U = true; rw [Cond.before_and, mv hU wc]; rfl, mv hU wc, mv hU wz, hp.2.2.1, hp.2.2.2⟩)
    (fun m meth c A a g mk Y hp => ⟨hp.1, wtrans (s := s.setVm vm0) hZ Y.warmed, hp.2.1, (CHv.at Y hZ hEL H).1⟩) (fun _ _ _ _ _ _ _ _ _ => trivial)
    (fun _ _ _ _ ⟨v, L, h1, h2, h3⟩ => ⟨L, _, _, h3, rfl, rfl, v, h1, h2⟩)
    (fun m meth c A a g mk v t L k n Y hp _ _ ⟨e1, e2, v', e3, e4⟩ => by cases e3; subst e1 e2; exact ⟨L, e4, rfl, rfl, rfl⟩)
theorem staKeep0 {C n d : String} {v : Value} (F : Sta Z h C n d v) (K : Keep h h' []) : Sta Z h' C n d v := by
  obtain ⟨cf, i, k, f, st, cell, h1, h2, h3, h4, h5, r⟩ := F
  exact ⟨cf, i, k, f, st, cell, h1, h2, h3, h4, K.2.1 _ _ h5 nin0, r⟩
theorem staKeepE {C n d O : String} {v : Value} {a : Addr} (F : Sta Z h C n d v) (K : Keep h h' [a]) (E : Exa Z h a O) : Sta Z h' C n d v := by
  obtain ⟨cf, i, k, f, st, cell, h1, h2, h3, h4, h5, h6, r⟩ := F
  obtain ⟨c', k', e1, -, -, e4, -⟩ := E
  have ne : st ≠ a := fun q => by subst q; cases h5.symm.trans e1; rw [h6] at e4; cases e4
  exact ⟨cf, i, k, f, st, cell, h1, h2, h3, h4, K.2.1 _ _ h5 (ninS ne nin0), h6, r⟩
/-- getfield where the sheet says the reference resolved -/
theorem getFR (X : Stand p l e R s m args below meth c T locs cells slots) (hx : p.tables.exec = Jvm.exec) (hZ : Z.Warmed39 s.vm) {a0 : Array Value} {own O n d : String} {index : Nat} (hown : s.vm.findClass own = some m.cls) (w : (Cond.fieldRef own index O n d).before a0 Z = true)
    (eT : T.heap = h) {a : Addr} {v : Value} (F : Fld Z h a O n d v) {g : JFrame} (hg : g.method = m) {rest : List Value} (hs : g.stack = .ref a :: rest) (hd : decode c.code g.pc = .ok (.getfield index, 3)) :
    ∀ target, Steps p.tables e below (T.setTop { g with pc := g.pc + 3, stack := v :: rest }) target → Steps p.tables e below (T.setTop g) target := by
  intro target hrest
  obtain ⟨cell, cf, k, i, f, h1, h2, h3, h4, -, -, h7⟩ := F
  have hW : Z.Warmed39 T.vm := wtrans hZ X.warmed
  have q := Cond.fieldRef_warmed39 hW w
  have hcur : (Z.setVm T.vm).vm.findClass own = some m.cls := by
    show T.vm.findClass own = some m.cls
    rw [X.warmed.alike.findClass]; exact hown
  obtain ⟨c', k', i', f', hi, hready⟩ := Cond.fieldRef_spec hcur q
  obtain ⟨k2, hi2, -⟩ := State.fieldFound?_setVm (s := Z) hW.alike h2
  have q3 : (Z.setVm T.vm).fieldFound? O n d = some (cf, k2, i, f) := hi2
  cases hi.symm.trans q3
  subst hg
  jvm_step X.here [hx, hd, getfield.wp_ready (e := e) (s := T) (f := g) X.here.top hready h3 hs (by rw [eT]; exact h1) h4 h7]
  exact hrest
/-- an array of that kind and length, whatever it holds -/
def Arn (Z : State) (h : Heap) (a : Addr) (ty : FieldType) (z : Int32) : Prop := ∃ c : Cell, Arr Z h a c ty ∧ c.slots.size = z.toNatClampNeg ∧ ¬ z < 0
section Arn
variable {a b : Addr} {ty : FieldType} {z : Int32} {sl : Nat} {v : Value} {ws : List Addr}
theorem Arn.lt (F : Arn Z h a ty z) : a < h.size := by obtain ⟨c, A, -⟩ := F; exact A.lt
theorem Arn.ext (F : Arn Z h a ty z) (E : Ext h h') : Arn Z h' a ty z := by obtain ⟨c, A, r⟩ := F; exact ⟨c, A.ext E, r⟩
theorem Arn.other (F : Arn Z h b ty z) (W : Wr h h' a sl v) (q : b ≠ a) : Arn Z h' b ty z := by obtain ⟨c, A, r⟩ := F; exact ⟨c, A.other W q, r⟩
theorem Arn.keep (F : Arn Z h a ty z) (K : Keep h h' ws) (q : a ∉ ws) : Arn Z h' a ty z := by obtain ⟨c, A, r⟩ := F; exact ⟨c, ⟨K.2.1 a c A.1 q, A.2⟩, r⟩
theorem Arn.set {c : Cell} (A : Arr Z h a c ty) (S : c.slots.size = z.toNatClampNeg) (q : ¬ z < 0) (W : Wr h h' a sl v) : Arn Z h' a ty z := ⟨_, A.same W, by rw [sz_set]; exact S, q⟩
theorem Arv.arn {k : ClassId} {vs : List Value} {dv : Value} (F : Arv Z h a k ty z vs dv) : Arn Z h a ty z := by obtain ⟨c, A, -, S, q, -⟩ := F; exact ⟨c, A, S, q⟩
end Arn
theorem staKeepA {C n d : String} {v : Value} {a : Addr} {ty : FieldType} {z : Int32} (F : Sta Z h C n d v) (K : Keep h h' [a]) (E : Arn Z h a ty z) : Sta Z h' C n d v := by
  obtain ⟨cf, i, k, f, st, cell, h1, h2, h3, h4, h5, h6, r⟩ := F
  obtain ⟨c', A, -⟩ := E
  have e4 := A.plain
  have ne : st ≠ a := fun q => by subst q; cases h5.symm.trans A.1; rw [h6] at e4; cases e4
  exact ⟨cf, i, k, f, st, cell, h1, h2, h3, h4, K.2.1 _ _ h5 (ninS ne nin0), h6, r⟩
theorem own_nn {n : Int32} (h : 0 ≤ n.toInt) : ¬ n < 0 := by rw [Int32.lt_iff_toInt_lt]; show ¬ n.toInt < 0; omega
theorem own_cap {n : Int32} {k : Nat} (h : n.toInt ≤ k) : n.toNatClampNeg ≤ k := by simp only [Int32.toNatClampNeg]; omega
theorem own_inc {i z : Int32} (h0 : ¬ i < 0) (h : i < z) : ¬ (i + 1) < 0 ∧ (i + 1).toInt = i.toInt + 1 := by
  have h1 := c_iadd i 1; have h2 := rng32 z; have h3 := rng32 i; have h4 := rng32 (i + 1)
  rw [Int32.lt_iff_toInt_lt] at h0 h ⊢
  have e0 : (0 : Int32).toInt = 0 := rfl
  have e1 : (1 : Int32).toInt = 1 := rfl
  rw [e0] at h0 ⊢; rw [e1] at h1
  omega
theorem own_ge {i z : Int32} (h : z.toInt ≤ i.toInt) : ¬ i < z := by rw [Int32.lt_iff_toInt_lt]; omega
theorem staInt {args : Array Value} {C n d : String} {k : Int32} (h : (Cond.eq (.static C n d) (.int k)).value args Z none Z [] = some true) (hi : (Cond.initializedFor C n d).before args Z = true ∨ ((Cond.initialized C).before args Z = true ∧ (Cond.laysStatic C n d).before args Z = true)) : Sta Z Z.heap C n d (.int k) := by
  obtain ⟨x, y, e1, e2, k1, -⟩ := cmp_v (Or.inl h)
  have e3 : (Term.int k).eval args Z none [] Z = some (.int k) := Term.int_eval k
  cases e2.symm.trans e3
  cases x with
  | int z =>
    have q : (Cond.eq (.static C n d) (.int k)).value args Z none Z [] = some (decide (z = k)) := by simp [Cond.value, e1, e3]
    exact (gotT q h) ▸ Sta.start e1 hi
  | _ => simp [Kin, Value.isRef] at k1
theorem fldNull {args : Array Value} {t : Term} {C n d : String} {a : Addr} (ev : t.eval args Z none [] Z = some (.ref a)) (h : (Cond.eq (.field t C n d) .null).value args Z none Z [] = some true) : Fld Z Z.heap a C n d .null := by
  have e1 := null_v h
  rw [fld_at ev] at e1
  exact Fld.start e1
theorem fldStart {args : Array Value} {t : Term} {C n d : String} {a : Addr} {k : Int32} (ev : t.eval args Z none [] Z = some (.ref a)) (h : (Cond.eq (.field t C n d) (.int k)).value args Z none Z [] = some true) : Fld Z Z.heap a C n d (.int k) := by
  obtain ⟨x, y, e1, e2, k1, -⟩ := cmp_v (Or.inl h)
  rw [fld_at ev] at e1
  have e3 : (Term.int k).eval args Z none [] Z = some (.int k) := Term.int_eval k
  cases e2.symm.trans e3
  cases x with
  | int z =>
    have q : (Cond.eq (.field t C n d) (.int k)).value args Z none Z [] = some (decide (z = k)) := by simp [Cond.value, (fld_at ev).trans e1, e3]
    exact (gotT q h) ▸ Fld.start e1
  | _ => simp [Kin, Value.isRef] at k1
end Own
end Jvm.RoadKit
namespace Jvm.Pilot.@@N@@
open Jvm Jvm.ClassFile Sem Op Lib Jvm.Free Jvm.Stand Jvm.LawKit Jvm.RoadKit Bundle Jvm.Pilot.@@N@@.Jvm.D
theorem own_k (x : Int32) : (x &&& (2147483647 : Int32)) % (5 : Int32) = (0 : Int32) ∨ (x &&& (2147483647 : Int32)) % (5 : Int32) = (1 : Int32) ∨ (x &&& (2147483647 : Int32)) % (5 : Int32) = (2 : Int32) ∨ (x &&& (2147483647 : Int32)) % (5 : Int32) = (3 : Int32) ∨ (x &&& (2147483647 : Int32)) % (5 : Int32) = (4 : Int32) := by
  have h1 := c_and x (2147483647 : Int32) (by decide)
  have h2 := (c_irem (x &&& (2147483647 : Int32)) (5 : Int32) 5 (by decide)).1 h1.1
  generalize (x &&& (2147483647 : Int32)) % (5 : Int32) = k at *
  have h3 : k.toInt = 0 ∨ k.toInt = 1 ∨ k.toInt = 2 ∨ k.toInt = 3 ∨ k.toInt = 4 := by omega
  rcases h3 with h | h | h | h | h
  · exact (Or.inl (Int32.toInt_inj.mp (h.trans (by decide))))
  · exact (Or.inr (Or.inl (Int32.toInt_inj.mp (h.trans (by decide)))))
  · exact (Or.inr (Or.inr (Or.inl (Int32.toInt_inj.mp (h.trans (by decide))))))
  · exact (Or.inr (Or.inr (Or.inr (Or.inl (Int32.toInt_inj.mp (h.trans (by decide)))))))
  · exact (Or.inr (Or.inr (Or.inr (Or.inr (Int32.toInt_inj.mp (h.trans (by decide)))))))

theorem pn_0 : plainName "com/example/charge_ledger/chargeledger/model/PaymentStatusHasEndedPinLaw" = true := by first | (simp [plainName, overriddenIn]; done) | decide +kernel
theorem ef_0 (m : MethodId) (x0 : Int32) : entryFrame m #[(.int x0)] maxLocals = mkF m 0 #[.val (.int x0), .unset, .unset, .unset, .unset, .unset, .unset] [] := by first | (simp [entryFrame, mkF, argsToLocals, Value.category, maxLocals]; done) | rfl
theorem d1_0 : decode prog_8_method_5_code 0 = .ok (.aload_n 0, 1) := by decide +kernel
theorem d1_1 : decode prog_8_method_5_code 1 = .ok (.getfield 38, 3) := by decide +kernel
theorem d1_4 : decode prog_8_method_5_code 4 = .ok (.iconst 5, 1) := by decide +kernel
theorem d1_5 : decode prog_8_method_5_code 5 = .ok (.if_icmp .ne 7, 3) := by decide +kernel
theorem d1_8 : decode prog_8_method_5_code 8 = .ok (.iconst 1, 1) := by decide +kernel
theorem d1_9 : decode prog_8_method_5_code 9 = .ok (.goto 4, 3) := by decide +kernel
theorem d1_12 : decode prog_8_method_5_code 12 = .ok (.iconst 0, 1) := by decide +kernel
theorem d1_13 : decode prog_8_method_5_code 13 = .ok (.ireturn, 1) := by decide +kernel
theorem pn_1 : plainName "com/example/charge_ledger/chargeledger/model/PaymentStatus" = true := by first | (simp [plainName, overriddenIn]; done) | decide +kernel
theorem ef_1 (m : MethodId) (x0 : Addr) : entryFrame m #[(.ref x0)] 1 = mkF m 0 #[.val (.ref x0)] [] := by first | (simp [entryFrame, mkF, argsToLocals, Value.category]; done) | rfl
theorem d2_0 : decode prog_8_method_4_code 0 = .ok (.aload_n 0, 1) := by decide +kernel
theorem d2_1 : decode prog_8_method_4_code 1 = .ok (.getfield 38, 3) := by decide +kernel
theorem d2_4 : decode prog_8_method_4_code 4 = .ok (.ireturn, 1) := by decide +kernel
theorem pn_2 : plainName "com/example/charge_ledger/chargeledger/model/PaymentStatus" = true := by first | (simp [plainName, overriddenIn]; done) | decide +kernel
theorem ef_2 (m : MethodId) (x0 : Addr) : entryFrame m #[(.ref x0)] 1 = mkF m 0 #[.val (.ref x0)] [] := by first | (simp [entryFrame, mkF, argsToLocals, Value.category]; done) | rfl
theorem pd_0 : parseMethodDescriptor "()Z" = some ⟨[], some .boolean⟩ := by decide +kernel
theorem pd_1 : parseMethodDescriptor "()I" = some ⟨[], some .int⟩ := by decide +kernel
def Qm1_t (Z : State) (a1 : Addr) (w2 : Int32) (h0 : Heap) (n0 : Nat) (v : Option Value) (h : Heap) (L : List Loc) : Prop := v = some (.int (1 : Int32)) ∧ Fr n0 L ∧ h = h0
set_option maxRecDepth 65536 in
set_option maxHeartbeats 40000000 in
theorem rm1_t (l : Launch) (Z : State) (a0 : Array Value) (hw : ∀ d ∈ tables_1, d.before a0 Z = true) (ws : List Jvm.Cond) (a1 : Addr) (w2 : Int32) (h0 : Heap) (n0 : Nat) (Z0 : n0 ≤ h0.size) (F_stage_a1 : Fld Z h0 a1 "com/example/charge_ledger/chargeledger/model/PaymentStatus" "stage" "I" (.int w2)) (hd0 : w2 = (5 : Int32)) :
    MetFree l (⟨"com/example/charge_ledger/chargeledger/model/PaymentStatus", "hasEnded", "()Z"⟩ : MethodName) (head1 (Jvm.Cond.code (⟨"com/example/charge_ledger/chargeledger/model/PaymentStatus", "hasEnded", "()Z"⟩ : MethodName) prog_8_method_5_code 1 (some .boolean) :: ws) ({ frames := 0, cells := 0, slots := 0, locals := 0 } : Room)) (fun a U => a = #[(.ref a1)] ∧ Z.Warmed39 U.vm ∧ U.heap = h0) (fun _ _ _ _ _ => True) (fun _ U o U' => ∃ v L, o = .returned v ∧ Qm1_t Z a1 w2 h0 n0 v U'.heap L ∧ FrameEnd U o U' L ({ frames := 0, cells := 0, slots := 0, locals := 0 } : Room).cells ({ frames := 0, cells := 0, slots := 0, locals := 0 } : Room).slots) := by
  refine MetFree.of_bodySF (plainFor_of_name pn_1) hisR ?_
  intro p e s m args below meth c s₁ Bd hml0 hP hK
  obtain ⟨rfl, hZ, hh⟩ := hP
  have hx := Bd.exec
  have hby := Bd.bytes
  have hml : c.maxLocals = 1 := hml0
  have hown : s.vm.findClass "com/example/charge_ledger/chargeledger/model/PaymentStatus" = some m.cls := findClass_of_methodNamed Bd.named
  have hnm := (name_of_methodNamed Bd.named Bd.method).1
  have X0 : Stand p l e ({ frames := 0, cells := 0, slots := 0, locals := 0 } : Room) s m #[(.ref a1)] below meth c s₁ [] 0 0 := Stand.of_body Bd
  have e0 : s₁.heap = h0 := by rw [← hh, Bd.state]; rfl
  have N0 := Fr.nil n0
  refine Go.en (ef_1 m a1) ?_
  show Go p e below _ (s₁.setTop (mkF m 0 #[.val (.ref a1)] []))
  refine Go.st (fun _ kk => XS.aloadN X0.here hx rfl (hb hby d1_0) rfl rfl  kk) ?_
  show Go p e below _ (s₁.setTop (mkF m 1 #[.val (.ref a1)] [(.ref a1)]))
  obtain ⟨T3, X3, e3, st3⟩ := getF X0 hx hZ hown (host := "") (Or.inl (hw _ (List.mem_of_getElem? (i := 20) rfl))) Via.refl e0 F_stage_a1 (g := (mkF m 1 #[.val (.ref a1)] [(.ref a1)])) rfl rfl (hb hby d1_1)
  refine Go.st st3 ?_
  show Go p e below _ (T3.setTop (mkF m 4 #[.val (.ref a1)] [(.int w2)]))
  refine Go.st (fun _ kk => XS.iconst X3.here hx rfl (hb hby d1_4) kk) ?_
  show Go p e below _ (T3.setTop (mkF m 5 #[.val (.ref a1)] [(.int (5 : Int32)), (.int w2)]))
  refine Go.st (fun _ kk => XS.icmpNo X3.here hx rfl (hb hby d1_5) rfl (teq hd0).2 kk) ?_
  show Go p e below _ (T3.setTop (mkF m 8 #[.val (.ref a1)] []))
  refine Go.st (fun _ kk => XS.iconst X3.here hx rfl (hb hby d1_8) kk) ?_
  show Go p e below _ (T3.setTop (mkF m 9 #[.val (.ref a1)] [(.int (1 : Int32))]))
  refine Go.st (fun _ kk => XS.goto X3.here hx rfl (pc0 := 9) (pc' := 13) rfl (hb hby d1_9) (by decide) (by decide) kk) ?_
  show Go p e below _ (T3.setTop (mkF m 13 #[.val (.ref a1)] [(.int (1 : Int32))]))
  exact Go.ret (Q := Qm1_t Z a1 w2 h0 n0) X3 (v := some (.int (1 : Int32))) (fun h => by rw [Bd.returns] at h; cases h) Bd.notSynchronized (fun fs hr => retN X3 hx (t := .boolean) Bd.returns (by simp) (hb hby d1_13) hr) e3 ⟨rfl, N0, rfl⟩ (by decide) (by decide)
def Qm1_f (Z : State) (a1 : Addr) (w2 : Int32) (h0 : Heap) (n0 : Nat) (v : Option Value) (h : Heap) (L : List Loc) : Prop := v = some (.int (0 : Int32)) ∧ Fr n0 L ∧ h = h0
set_option maxRecDepth 65536 in
set_option maxHeartbeats 40000000 in
theorem rm1_f (l : Launch) (Z : State) (a0 : Array Value) (hw : ∀ d ∈ tables_1, d.before a0 Z = true) (ws : List Jvm.Cond) (a1 : Addr) (w2 : Int32) (h0 : Heap) (n0 : Nat) (Z0 : n0 ≤ h0.size) (F_stage_a1 : Fld Z h0 a1 "com/example/charge_ledger/chargeledger/model/PaymentStatus" "stage" "I" (.int w2)) (hd0 : ¬ (w2 = (5 : Int32))) :
    MetFree l (⟨"com/example/charge_ledger/chargeledger/model/PaymentStatus", "hasEnded", "()Z"⟩ : MethodName) (head1 (Jvm.Cond.code (⟨"com/example/charge_ledger/chargeledger/model/PaymentStatus", "hasEnded", "()Z"⟩ : MethodName) prog_8_method_5_code 1 (some .boolean) :: ws) ({ frames := 0, cells := 0, slots := 0, locals := 0 } : Room)) (fun a U => a = #[(.ref a1)] ∧ Z.Warmed39 U.vm ∧ U.heap = h0) (fun _ _ _ _ _ => True) (fun _ U o U' => ∃ v L, o = .returned v ∧ Qm1_f Z a1 w2 h0 n0 v U'.heap L ∧ FrameEnd U o U' L ({ frames := 0, cells := 0, slots := 0, locals := 0 } : Room).cells ({ frames := 0, cells := 0, slots := 0, locals := 0 } : Room).slots) := by
  refine MetFree.of_bodySF (plainFor_of_name pn_1) hisR ?_
  intro p e s m args below meth c s₁ Bd hml0 hP hK
  obtain ⟨rfl, hZ, hh⟩ := hP
  have hx := Bd.exec
  have hby := Bd.bytes
  have hml : c.maxLocals = 1 := hml0
  have hown : s.vm.findClass "com/example/charge_ledger/chargeledger/model/PaymentStatus" = some m.cls := findClass_of_methodNamed Bd.named
  have hnm := (name_of_methodNamed Bd.named Bd.method).1
  have X0 : Stand p l e ({ frames := 0, cells := 0, slots := 0, locals := 0 } : Room) s m #[(.ref a1)] below meth c s₁ [] 0 0 := Stand.of_body Bd
  have e0 : s₁.heap = h0 := by rw [← hh, Bd.state]; rfl
  have N0 := Fr.nil n0
  refine Go.en (ef_1 m a1) ?_
  show Go p e below _ (s₁.setTop (mkF m 0 #[.val (.ref a1)] []))
  refine Go.st (fun _ kk => XS.aloadN X0.here hx rfl (hb hby d1_0) rfl rfl  kk) ?_
  show Go p e below _ (s₁.setTop (mkF m 1 #[.val (.ref a1)] [(.ref a1)]))
  obtain ⟨T3, X3, e3, st3⟩ := getF X0 hx hZ hown (host := "") (Or.inl (hw _ (List.mem_of_getElem? (i := 20) rfl))) Via.refl e0 F_stage_a1 (g := (mkF m 1 #[.val (.ref a1)] [(.ref a1)])) rfl rfl (hb hby d1_1)
  refine Go.st st3 ?_
  show Go p e below _ (T3.setTop (mkF m 4 #[.val (.ref a1)] [(.int w2)]))
  refine Go.st (fun _ kk => XS.iconst X3.here hx rfl (hb hby d1_4) kk) ?_
  show Go p e below _ (T3.setTop (mkF m 5 #[.val (.ref a1)] [(.int (5 : Int32)), (.int w2)]))
  refine Go.st (fun _ kk => XS.icmpYes X3.here hx rfl (pc0 := 5) (pc' := 12) rfl (hb hby d1_5) rfl (feq hd0).2 (by decide) (by decide) kk) ?_
  show Go p e below _ (T3.setTop (mkF m 12 #[.val (.ref a1)] []))
  refine Go.st (fun _ kk => XS.iconst X3.here hx rfl (hb hby d1_12) kk) ?_
  show Go p e below _ (T3.setTop (mkF m 13 #[.val (.ref a1)] [(.int (0 : Int32))]))
  exact Go.ret (Q := Qm1_f Z a1 w2 h0 n0) X3 (v := some (.int (0 : Int32))) (fun h => by rw [Bd.returns] at h; cases h) Bd.notSynchronized (fun fs hr => retN X3 hx (t := .boolean) Bd.returns (by simp) (hb hby d1_13) hr) e3 ⟨rfl, N0, rfl⟩ (by decide) (by decide)
def Qm2_o (Z : State) (a1 : Addr) (w2 : Int32) (h0 : Heap) (n0 : Nat) (v : Option Value) (h : Heap) (L : List Loc) : Prop := v = some (.int w2) ∧ Fr n0 L ∧ h = h0
set_option maxRecDepth 65536 in
set_option maxHeartbeats 40000000 in
theorem rm2_o (l : Launch) (Z : State) (a0 : Array Value) (hw : ∀ d ∈ tables_1, d.before a0 Z = true) (ws : List Jvm.Cond) (a1 : Addr) (w2 : Int32) (h0 : Heap) (n0 : Nat) (Z0 : n0 ≤ h0.size) (F_stage_a1 : Fld Z h0 a1 "com/example/charge_ledger/chargeledger/model/PaymentStatus" "stage" "I" (.int w2)) :
    MetFree l (⟨"com/example/charge_ledger/chargeledger/model/PaymentStatus", "getStage", "()I"⟩ : MethodName) (head1 (Jvm.Cond.code (⟨"com/example/charge_ledger/chargeledger/model/PaymentStatus", "getStage", "()I"⟩ : MethodName) prog_8_method_4_code 1 (some .int) :: ws) ({ frames := 0, cells := 0, slots := 0, locals := 0 } : Room)) (fun a U => a = #[(.ref a1)] ∧ Z.Warmed39 U.vm ∧ U.heap = h0) (fun _ _ _ _ _ => True) (fun _ U o U' => ∃ v L, o = .returned v ∧ Qm2_o Z a1 w2 h0 n0 v U'.heap L ∧ FrameEnd U o U' L ({ frames := 0, cells := 0, slots := 0, locals := 0 } : Room).cells ({ frames := 0, cells := 0, slots := 0, locals := 0 } : Room).slots) := by
  refine MetFree.of_bodySF (plainFor_of_name pn_2) hisR ?_
  intro p e s m args below meth c s₁ Bd hml0 hP hK
  obtain ⟨rfl, hZ, hh⟩ := hP
  have hx := Bd.exec
  have hby := Bd.bytes
  have hml : c.maxLocals = 1 := hml0
  have hown : s.vm.findClass "com/example/charge_ledger/chargeledger/model/PaymentStatus" = some m.cls := findClass_of_methodNamed Bd.named
  have hnm := (name_of_methodNamed Bd.named Bd.method).1
  have X0 : Stand p l e ({ frames := 0, cells := 0, slots := 0, locals := 0 } : Room) s m #[(.ref a1)] below meth c s₁ [] 0 0 := Stand.of_body Bd
  have e0 : s₁.heap = h0 := by rw [← hh, Bd.state]; rfl
  have N0 := Fr.nil n0
  refine Go.en (ef_2 m a1) ?_
  show Go p e below _ (s₁.setTop (mkF m 0 #[.val (.ref a1)] []))
  refine Go.st (fun _ kk => XS.aloadN X0.here hx rfl (hb hby d2_0) rfl rfl  kk) ?_
  show Go p e below _ (s₁.setTop (mkF m 1 #[.val (.ref a1)] [(.ref a1)]))
  obtain ⟨T3, X3, e3, st3⟩ := getF X0 hx hZ hown (host := "") (Or.inl (hw _ (List.mem_of_getElem? (i := 20) rfl))) Via.refl e0 F_stage_a1 (g := (mkF m 1 #[.val (.ref a1)] [(.ref a1)])) rfl rfl (hb hby d2_1)
  refine Go.st st3 ?_
  show Go p e below _ (T3.setTop (mkF m 4 #[.val (.ref a1)] [(.int w2)]))
  exact Go.ret (Q := Qm2_o Z a1 w2 h0 n0) X3 (v := some (.int w2)) (fun h => by rw [Bd.returns] at h; cases h) Bd.notSynchronized (fun fs hr => retOut X3 hx Bd.returns rfl (Or.inl ⟨rfl, Or.inl rfl, _, rfl⟩) (hb hby d2_4) hr) e3 ⟨rfl, N0, rfl⟩ (by decide) (by decide)
def Q0 (n0 : Nat) (v : Option Value) (h : Heap) (L : List Loc) : Prop := v = some (.int (1 : Int32)) ∧ Fr n0 L
set_option maxRecDepth 65536 in
set_option maxHeartbeats 40000000 in
theorem rm0 (l : Launch) (Z : State) (a0 : Array Value) (hw : ∀ d ∈ tables_1, d.before a0 Z = true) (ws : List Jvm.Cond) (p1 : Int32) (w_REQUIRES_PAYMENT_METHOD : Addr) (w_PROCESSING : Addr) (w_SUCCEEDED : Addr) (w_FAILED : Addr) (w_CANCELED : Addr) (h0 : Heap) (n0 : Nat) (Z0 : n0 ≤ h0.size) (S_REQUIRES_PAYMENT_METHOD : Sta Z h0 "com/example/charge_ledger/chargeledger/model/PaymentStatus" "REQUIRES_PAYMENT_METHOD" "Lcom/example/charge_ledger/chargeledger/model/PaymentStatus;" (.ref w_REQUIRES_PAYMENT_METHOD)) (E_w_REQUIRES_PAYMENT_METHOD : Exa Z h0 w_REQUIRES_PAYMENT_METHOD "com/example/charge_ledger/chargeledger/model/PaymentStatus") (S_PROCESSING : Sta Z h0 "com/example/charge_ledger/chargeledger/model/PaymentStatus" "PROCESSING" "Lcom/example/charge_ledger/chargeledger/model/PaymentStatus;" (.ref w_PROCESSING)) (E_w_PROCESSING : Exa Z h0 w_PROCESSING "com/example/charge_ledger/chargeledger/model/PaymentStatus") (S_SUCCEEDED : Sta Z h0 "com/example/charge_ledger/chargeledger/model/PaymentStatus" "SUCCEEDED" "Lcom/example/charge_ledger/chargeledger/model/PaymentStatus;" (.ref w_SUCCEEDED)) (E_w_SUCCEEDED : Exa Z h0 w_SUCCEEDED "com/example/charge_ledger/chargeledger/model/PaymentStatus") (S_FAILED : Sta Z h0 "com/example/charge_ledger/chargeledger/model/PaymentStatus" "FAILED" "Lcom/example/charge_ledger/chargeledger/model/PaymentStatus;" (.ref w_FAILED)) (E_w_FAILED : Exa Z h0 w_FAILED "com/example/charge_ledger/chargeledger/model/PaymentStatus") (S_CANCELED : Sta Z h0 "com/example/charge_ledger/chargeledger/model/PaymentStatus" "CANCELED" "Lcom/example/charge_ledger/chargeledger/model/PaymentStatus;" (.ref w_CANCELED)) (E_w_CANCELED : Exa Z h0 w_CANCELED "com/example/charge_ledger/chargeledger/model/PaymentStatus") (F_stage_w_REQUIRES_PAYMENT_METHOD : Fld Z h0 w_REQUIRES_PAYMENT_METHOD "com/example/charge_ledger/chargeledger/model/PaymentStatus" "stage" "I" (.int (0 : Int32))) (F_stage_w_FAILED : Fld Z h0 w_FAILED "com/example/charge_ledger/chargeledger/model/PaymentStatus" "stage" "I" (.int (0 : Int32))) (F_stage_w_PROCESSING : Fld Z h0 w_PROCESSING "com/example/charge_ledger/chargeledger/model/PaymentStatus" "stage" "I" (.int (3 : Int32))) (F_stage_w_CANCELED : Fld Z h0 w_CANCELED "com/example/charge_ledger/chargeledger/model/PaymentStatus" "stage" "I" (.int (5 : Int32))) (F_stage_w_SUCCEEDED : Fld Z h0 w_SUCCEEDED "com/example/charge_ledger/chargeledger/model/PaymentStatus" "stage" "I" (.int (5 : Int32))) :
    MetFree l x (head1 (Jvm.Cond.code x code maxLocals ret :: ws) room_1) (fun a U => a = #[(.int p1)] ∧ Z.Warmed39 U.vm ∧ U.heap = h0) (fun _ _ _ _ _ => True) (fun _ U o U' => ∃ v L, o = .returned v ∧ Q0 n0 v U'.heap L ∧ FrameEnd U o U' L room_1.cells room_1.slots) := by
  refine MetFree.of_bodySF (plainFor_of_name pn_0) hisR ?_
  intro p e s m args below meth c s₁ Bd hml0 hP hK
  obtain ⟨rfl, hZ, hh⟩ := hP
  have hx := Bd.exec
  have hby := Bd.bytes
  have hml : c.maxLocals = 7 := hml0
  have hown : s.vm.findClass "com/example/charge_ledger/chargeledger/model/PaymentStatusHasEndedPinLaw" = some m.cls := findClass_of_methodNamed Bd.named
  have hnm := (name_of_methodNamed Bd.named Bd.method).1
  have X0 : Stand p l e room_1 s m #[(.int p1)] below meth c s₁ [] 0 0 := Stand.of_body Bd
  have e0 : s₁.heap = h0 := by rw [← hh, Bd.state]; rfl
  have N0 := Fr.nil n0
  refine Go.en (ef_0 m p1) ?_
  show Go p e below _ (s₁.setTop (mkF m 0 #[.val (.int p1), .unset, .unset, .unset, .unset, .unset, .unset] []))
  refine Go.st (fun _ kk => XS.iconst X0.here hx rfl (hb hby at_0) kk) ?_
  show Go p e below _ (s₁.setTop (mkF m 1 #[.val (.int p1), .unset, .unset, .unset, .unset, .unset, .unset] [(.int (5 : Int32))]))
  obtain ⟨T2, h2, k2, X2, e2, E2, A2, O2, st2⟩ := newR X0 hx hZ hown (hw _ (List.mem_of_getElem? (i := 0) rfl)) (hw _ (List.mem_of_getElem? (i := 1) rfl)) e0 (g := (mkF m 1 #[.val (.int p1), .unset, .unset, .unset, .unset, .unset, .unset] [(.int (5 : Int32))])) rfl (hb hby at_1) rfl (by decide) (cap := 5) (by decide) (by decide) (by decide) (by decide)
  obtain ⟨b2, g2⟩ : ∃ z, z = h0.size := ⟨_, rfl⟩
  rw [← g2] at A2 st2
  refine Go.st st2 ?_
  have g_b2 : n0 ≤ b2 := Nat.le_trans Z0 (Nat.le_of_eq g2.symm)
  have sz_b2 : h0.size ≤ b2 := Nat.le_of_eq g2.symm
  have K2 : Keep h0 h2 [] := (Keep.refl h0 []).ext E2
  have V_b2 : Arv Z h2 b2 k2 (.object "com/example/charge_ledger/chargeledger/model/PaymentStatus") (5 : Int32) [.null, .null, .null, .null, .null] .null := (Arv.new A2 (by decide)).pad (pad_rep [] .null 5)
  show Go p e below _ (T2.setTop (mkF m 4 #[.val (.int p1), .unset, .unset, .unset, .unset, .unset, .unset] [(.ref b2)]))
  refine Go.st (fun _ kk => XS.dup X2.here hx rfl (hb hby at_4) rfl rfl kk) ?_
  show Go p e below _ (T2.setTop (mkF m 5 #[.val (.int p1), .unset, .unset, .unset, .unset, .unset, .unset] [(.ref b2), (.ref b2)]))
  refine Go.st (fun _ kk => XS.iconst X2.here hx rfl (hb hby at_5) kk) ?_
  show Go p e below _ (T2.setTop (mkF m 6 #[.val (.int p1), .unset, .unset, .unset, .unset, .unset, .unset] [(.int (0 : Int32)), (.ref b2), (.ref b2)]))
  have f_3 := (staKeep0 S_REQUIRES_PAYMENT_METHOD K2)
  obtain ⟨T4, X4, e4, st4⟩ := getS2 X2 hx hZ hown (host := "") (Or.inl (hw _ (List.mem_of_getElem? (i := 2) rfl))) Via.refl e2 f_3 (g := (mkF m 6 #[.val (.int p1), .unset, .unset, .unset, .unset, .unset, .unset] [(.int (0 : Int32)), (.ref b2), (.ref b2)])) rfl (hb hby at_6)
  refine Go.st st4 ?_
  show Go p e below _ (T4.setTop (mkF m 9 #[.val (.int p1), .unset, .unset, .unset, .unset, .unset, .unset] [(.ref w_REQUIRES_PAYMENT_METHOD), (.int (0 : Int32)), (.ref b2), (.ref b2)]))
  obtain ⟨clq5, Arq5, caq5, saq5, naq5, haq5, gaq5⟩ := V_b2
  have inq5 : ¬ ((0 : Int32) < 0 ∨ clq5.slots.size ≤ ((0 : Int32)).toNatClampNeg) := inb_of saq5 ⟨by decide, by decide⟩
  have f_6 := (E_w_REQUIRES_PAYMENT_METHOD.keep K2)
  obtain ⟨T7, h7, X7, e7, W7, st7⟩ := stR X4 hx hZ e4 Arq5 (j := (0 : Int32)) inq5 rfl (Sto.ofV Arq5 caq5 O2 (Ins.self f_6)) (g := (mkF m 9 #[.val (.int p1), .unset, .unset, .unset, .unset, .unset, .unset] [(.ref w_REQUIRES_PAYMENT_METHOD), (.int (0 : Int32)), (.ref b2), (.ref b2)])) rfl rfl (hb hby at_9)
  refine Go.st st7 ?_
  have K7 : Keep h0 h7 [] := K2.wr W7 (Or.inr sz_b2)
  have V7 : Arv Z h7 b2 k2 (.object "com/example/charge_ledger/chargeledger/model/PaymentStatus") (5 : Int32) [(.ref w_REQUIRES_PAYMENT_METHOD), .null, .null, .null, .null] .null := Arv.set Arq5 caq5 saq5 naq5 haq5 gaq5 rfl W7 0 rfl (Nat.le_of_ble_eq_true rfl)
  have N7 := Fr.snoc X7 N0 g_b2
  show Go p e below _ (T7.setTop (mkF m 10 #[.val (.int p1), .unset, .unset, .unset, .unset, .unset, .unset] [(.ref b2)]))
  refine Go.st (fun _ kk => XS.dup X7.here hx rfl (hb hby at_10) rfl rfl kk) ?_
  show Go p e below _ (T7.setTop (mkF m 11 #[.val (.int p1), .unset, .unset, .unset, .unset, .unset, .unset] [(.ref b2), (.ref b2)]))
  refine Go.st (fun _ kk => XS.iconst X7.here hx rfl (hb hby at_11) kk) ?_
  show Go p e below _ (T7.setTop (mkF m 12 #[.val (.int p1), .unset, .unset, .unset, .unset, .unset, .unset] [(.int (1 : Int32)), (.ref b2), (.ref b2)]))
  have f_8 := (staKeep0 S_PROCESSING K7)
  obtain ⟨T9, X9, e9, st9⟩ := getS2 X7 hx hZ hown (host := "") (Or.inl (hw _ (List.mem_of_getElem? (i := 6) rfl))) Via.refl e7 f_8 (g := (mkF m 12 #[.val (.int p1), .unset, .unset, .unset, .unset, .unset, .unset] [(.int (1 : Int32)), (.ref b2), (.ref b2)])) rfl (hb hby at_12)
  refine Go.st st9 ?_
  show Go p e below _ (T9.setTop (mkF m 15 #[.val (.int p1), .unset, .unset, .unset, .unset, .unset, .unset] [(.ref w_PROCESSING), (.int (1 : Int32)), (.ref b2), (.ref b2)]))
  obtain ⟨clq10, Arq10, caq10, saq10, naq10, haq10, gaq10⟩ := V7
  have inq10 : ¬ ((1 : Int32) < 0 ∨ clq10.slots.size ≤ ((1 : Int32)).toNatClampNeg) := inb_of saq10 ⟨by decide, by decide⟩
  have f_11 := (E_w_PROCESSING.keep K7)
  obtain ⟨T12, h12, X12, e12, W12, st12⟩ := stR X9 hx hZ e9 Arq10 (j := (1 : Int32)) inq10 rfl (Sto.ofV Arq10 caq10 O2 (Ins.self f_11)) (g := (mkF m 15 #[.val (.int p1), .unset, .unset, .unset, .unset, .unset, .unset] [(.ref w_PROCESSING), (.int (1 : Int32)), (.ref b2), (.ref b2)])) rfl rfl (hb hby at_15)
  refine Go.st st12 ?_
  have K12 : Keep h0 h12 [] := K7.wr W12 (Or.inr sz_b2)
  have V12 : Arv Z h12 b2 k2 (.object "com/example/charge_ledger/chargeledger/model/PaymentStatus") (5 : Int32) [(.ref w_REQUIRES_PAYMENT_METHOD), (.ref w_PROCESSING), .null, .null, .null] .null := Arv.set Arq10 caq10 saq10 naq10 haq10 gaq10 rfl W12 1 rfl (Nat.le_of_ble_eq_true rfl)
  have N12 := Fr.snoc X12 N7 g_b2
  show Go p e below _ (T12.setTop (mkF m 16 #[.val (.int p1), .unset, .unset, .unset, .unset, .unset, .unset] [(.ref b2)]))
  refine Go.st (fun _ kk => XS.dup X12.here hx rfl (hb hby at_16) rfl rfl kk) ?_
  show Go p e below _ (T12.setTop (mkF m 17 #[.val (.int p1), .unset, .unset, .unset, .unset, .unset, .unset] [(.ref b2), (.ref b2)]))
  refine Go.st (fun _ kk => XS.iconst X12.here hx rfl (hb hby at_17) kk) ?_
  show Go p e below _ (T12.setTop (mkF m 18 #[.val (.int p1), .unset, .unset, .unset, .unset, .unset, .unset] [(.int (2 : Int32)), (.ref b2), (.ref b2)]))
  have f_13 := (staKeep0 S_SUCCEEDED K12)
  obtain ⟨T14, X14, e14, st14⟩ := getS2 X12 hx hZ hown (host := "") (Or.inl (hw _ (List.mem_of_getElem? (i := 8) rfl))) Via.refl e12 f_13 (g := (mkF m 18 #[.val (.int p1), .unset, .unset, .unset, .unset, .unset, .unset] [(.int (2 : Int32)), (.ref b2), (.ref b2)])) rfl (hb hby at_18)
  refine Go.st st14 ?_
  show Go p e below _ (T14.setTop (mkF m 21 #[.val (.int p1), .unset, .unset, .unset, .unset, .unset, .unset] [(.ref w_SUCCEEDED), (.int (2 : Int32)), (.ref b2), (.ref b2)]))
  obtain ⟨clq15, Arq15, caq15, saq15, naq15, haq15, gaq15⟩ := V12
  have inq15 : ¬ ((2 : Int32) < 0 ∨ clq15.slots.size ≤ ((2 : Int32)).toNatClampNeg) := inb_of saq15 ⟨by decide, by decide⟩
  have f_16 := (E_w_SUCCEEDED.keep K12)
  obtain ⟨T17, h17, X17, e17, W17, st17⟩ := stR X14 hx hZ e14 Arq15 (j := (2 : Int32)) inq15 rfl (Sto.ofV Arq15 caq15 O2 (Ins.self f_16)) (g := (mkF m 21 #[.val (.int p1), .unset, .unset, .unset, .unset, .unset, .unset] [(.ref w_SUCCEEDED), (.int (2 : Int32)), (.ref b2), (.ref b2)])) rfl rfl (hb hby at_21)
  refine Go.st st17 ?_
  have K17 : Keep h0 h17 [] := K12.wr W17 (Or.inr sz_b2)
  have V17 : Arv Z h17 b2 k2 (.object "com/example/charge_ledger/chargeledger/model/PaymentStatus") (5 : Int32) [(.ref w_REQUIRES_PAYMENT_METHOD), (.ref w_PROCESSING), (.ref w_SUCCEEDED), .null, .null] .null := Arv.set Arq15 caq15 saq15 naq15 haq15 gaq15 rfl W17 2 rfl (Nat.le_of_ble_eq_true rfl)
  have N17 := Fr.snoc X17 N12 g_b2
  show Go p e below _ (T17.setTop (mkF m 22 #[.val (.int p1), .unset, .unset, .unset, .unset, .unset, .unset] [(.ref b2)]))
  refine Go.st (fun _ kk => XS.dup X17.here hx rfl (hb hby at_22) rfl rfl kk) ?_
  show Go p e below _ (T17.setTop (mkF m 23 #[.val (.int p1), .unset, .unset, .unset, .unset, .unset, .unset] [(.ref b2), (.ref b2)]))
  refine Go.st (fun _ kk => XS.iconst X17.here hx rfl (hb hby at_23) kk) ?_
  show Go p e below _ (T17.setTop (mkF m 24 #[.val (.int p1), .unset, .unset, .unset, .unset, .unset, .unset] [(.int (3 : Int32)), (.ref b2), (.ref b2)]))
  have f_18 := (staKeep0 S_FAILED K17)
  obtain ⟨T19, X19, e19, st19⟩ := getS2 X17 hx hZ hown (host := "") (Or.inl (hw _ (List.mem_of_getElem? (i := 10) rfl))) Via.refl e17 f_18 (g := (mkF m 24 #[.val (.int p1), .unset, .unset, .unset, .unset, .unset, .unset] [(.int (3 : Int32)), (.ref b2), (.ref b2)])) rfl (hb hby at_24)
  refine Go.st st19 ?_
  show Go p e below _ (T19.setTop (mkF m 27 #[.val (.int p1), .unset, .unset, .unset, .unset, .unset, .unset] [(.ref w_FAILED), (.int (3 : Int32)), (.ref b2), (.ref b2)]))
  obtain ⟨clq20, Arq20, caq20, saq20, naq20, haq20, gaq20⟩ := V17
  have inq20 : ¬ ((3 : Int32) < 0 ∨ clq20.slots.size ≤ ((3 : Int32)).toNatClampNeg) := inb_of saq20 ⟨by decide, by decide⟩
  have f_21 := (E_w_FAILED.keep K17)
  obtain ⟨T22, h22, X22, e22, W22, st22⟩ := stR X19 hx hZ e19 Arq20 (j := (3 : Int32)) inq20 rfl (Sto.ofV Arq20 caq20 O2 (Ins.self f_21)) (g := (mkF m 27 #[.val (.int p1), .unset, .unset, .unset, .unset, .unset, .unset] [(.ref w_FAILED), (.int (3 : Int32)), (.ref b2), (.ref b2)])) rfl rfl (hb hby at_27)
  refine Go.st st22 ?_
  have K22 : Keep h0 h22 [] := K17.wr W22 (Or.inr sz_b2)
  have V22 : Arv Z h22 b2 k2 (.object "com/example/charge_ledger/chargeledger/model/PaymentStatus") (5 : Int32) [(.ref w_REQUIRES_PAYMENT_METHOD), (.ref w_PROCESSING), (.ref w_SUCCEEDED), (.ref w_FAILED), .null] .null := Arv.set Arq20 caq20 saq20 naq20 haq20 gaq20 rfl W22 3 rfl (Nat.le_of_ble_eq_true rfl)
  have N22 := Fr.snoc X22 N17 g_b2
  show Go p e below _ (T22.setTop (mkF m 28 #[.val (.int p1), .unset, .unset, .unset, .unset, .unset, .unset] [(.ref b2)]))
  refine Go.st (fun _ kk => XS.dup X22.here hx rfl (hb hby at_28) rfl rfl kk) ?_
  show Go p e below _ (T22.setTop (mkF m 29 #[.val (.int p1), .unset, .unset, .unset, .unset, .unset, .unset] [(.ref b2), (.ref b2)]))
  refine Go.st (fun _ kk => XS.iconst X22.here hx rfl (hb hby at_29) kk) ?_
  show Go p e below _ (T22.setTop (mkF m 30 #[.val (.int p1), .unset, .unset, .unset, .unset, .unset, .unset] [(.int (4 : Int32)), (.ref b2), (.ref b2)]))
  have f_23 := (staKeep0 S_CANCELED K22)
  obtain ⟨T24, X24, e24, st24⟩ := getS2 X22 hx hZ hown (host := "") (Or.inl (hw _ (List.mem_of_getElem? (i := 12) rfl))) Via.refl e22 f_23 (g := (mkF m 30 #[.val (.int p1), .unset, .unset, .unset, .unset, .unset, .unset] [(.int (4 : Int32)), (.ref b2), (.ref b2)])) rfl (hb hby at_30)
  refine Go.st st24 ?_
  show Go p e below _ (T24.setTop (mkF m 33 #[.val (.int p1), .unset, .unset, .unset, .unset, .unset, .unset] [(.ref w_CANCELED), (.int (4 : Int32)), (.ref b2), (.ref b2)]))
  obtain ⟨clq25, Arq25, caq25, saq25, naq25, haq25, gaq25⟩ := V22
  have inq25 : ¬ ((4 : Int32) < 0 ∨ clq25.slots.size ≤ ((4 : Int32)).toNatClampNeg) := inb_of saq25 ⟨by decide, by decide⟩
  have f_26 := (E_w_CANCELED.keep K22)
  obtain ⟨T27, h27, X27, e27, W27, st27⟩ := stR X24 hx hZ e24 Arq25 (j := (4 : Int32)) inq25 rfl (Sto.ofV Arq25 caq25 O2 (Ins.self f_26)) (g := (mkF m 33 #[.val (.int p1), .unset, .unset, .unset, .unset, .unset, .unset] [(.ref w_CANCELED), (.int (4 : Int32)), (.ref b2), (.ref b2)])) rfl rfl (hb hby at_33)
  refine Go.st st27 ?_
  have K27 : Keep h0 h27 [] := K22.wr W27 (Or.inr sz_b2)
  have V27 : Arv Z h27 b2 k2 (.object "com/example/charge_ledger/chargeledger/model/PaymentStatus") (5 : Int32) [(.ref w_REQUIRES_PAYMENT_METHOD), (.ref w_PROCESSING), (.ref w_SUCCEEDED), (.ref w_FAILED), (.ref w_CANCELED)] .null := Arv.set Arq25 caq25 saq25 naq25 haq25 gaq25 rfl W27 4 rfl (Nat.le_of_ble_eq_true rfl)
  have N27 := Fr.snoc X27 N22 g_b2
  show Go p e below _ (T27.setTop (mkF m 34 #[.val (.int p1), .unset, .unset, .unset, .unset, .unset, .unset] [(.ref b2)]))
  refine Go.st (fun _ kk => XS.astoreN X27.here hx rfl (hb hby at_34) rfl rfl (l' := #[.val (.int p1), .val (.ref b2), .unset, .unset, .unset, .unset, .unset]) rfl kk) ?_
  show Go p e below _ (T27.setTop (mkF m 35 #[.val (.int p1), .val (.ref b2), .unset, .unset, .unset, .unset, .unset] []))
  refine Go.st (fun _ kk => XS.iloadN X27.here hx rfl (hb hby at_35) rfl  kk) ?_
  show Go p e below _ (T27.setTop (mkF m 36 #[.val (.int p1), .val (.ref b2), .unset, .unset, .unset, .unset, .unset] [(.int p1)]))
  refine Go.st (fun _ kk => X27.ldcInt hx hown (mvT hZ (hw _ (List.mem_of_getElem? (i := 14) rfl))) (g := (mkF m 36 #[.val (.int p1), .val (.ref b2), .unset, .unset, .unset, .unset, .unset] [(.int p1)])) rfl (hb hby at_36) _ kk) ?_
  show Go p e below _ (T27.setTop (mkF m 38 #[.val (.int p1), .val (.ref b2), .unset, .unset, .unset, .unset, .unset] [(.int (2147483647 : Int32)), (.int p1)]))
  refine Go.st (fun _ kk => XS.iand X27.here hx rfl (hb hby at_38) rfl kk) ?_
  show Go p e below _ (T27.setTop (mkF m 39 #[.val (.int p1), .val (.ref b2), .unset, .unset, .unset, .unset, .unset] [(.int (p1 &&& (2147483647 : Int32)))]))
  refine Go.st (fun _ kk => XS.iconst X27.here hx rfl (hb hby at_39) kk) ?_
  show Go p e below _ (T27.setTop (mkF m 40 #[.val (.int p1), .val (.ref b2), .unset, .unset, .unset, .unset, .unset] [(.int (5 : Int32)), (.int (p1 &&& (2147483647 : Int32)))]))
  refine Go.st (fun _ kk => iremM (g := (mkF m 40 #[.val (.int p1), .val (.ref b2), .unset, .unset, .unset, .unset, .unset] [(.int (5 : Int32)), (.int (p1 &&& (2147483647 : Int32)))])) X27 hx rfl (hb hby at_40) rfl (by decide : ¬ ((5 : Int32) = (0 : Int32))) kk) ?_
  show Go p e below _ (T27.setTop (mkF m 41 #[.val (.int p1), .val (.ref b2), .unset, .unset, .unset, .unset, .unset] [(.int ((p1 &&& (2147483647 : Int32)) % (5 : Int32)))]))
  rcases (own_k p1 : ((p1 &&& (2147483647 : Int32)) % (5 : Int32)) = (0 : Int32) ∨ ((p1 &&& (2147483647 : Int32)) % (5 : Int32)) = (1 : Int32) ∨ ((p1 &&& (2147483647 : Int32)) % (5 : Int32)) = (2 : Int32) ∨ ((p1 &&& (2147483647 : Int32)) % (5 : Int32)) = (3 : Int32) ∨ ((p1 &&& (2147483647 : Int32)) % (5 : Int32)) = (4 : Int32)) with hk28 | hk29 | hk30 | hk31 | hk32
  · skip
    rw [hk28]
    show Go p e below _ (T27.setTop (mkF m 41 #[.val (.int p1), .val (.ref b2), .unset, .unset, .unset, .unset, .unset] [(.int (0 : Int32))]))
    refine Go.st (fun _ kk => XS.istoreN X27.here hx rfl (hb hby at_41) rfl (l' := #[.val (.int p1), .val (.ref b2), .val (.int (0 : Int32)), .unset, .unset, .unset, .unset]) rfl kk) ?_
    show Go p e below _ (T27.setTop (mkF m 42 #[.val (.int p1), .val (.ref b2), .val (.int (0 : Int32)), .unset, .unset, .unset, .unset] []))
    refine Go.st (fun _ kk => XS.aloadN X27.here hx rfl (hb hby at_42) rfl rfl  kk) ?_
    show Go p e below _ (T27.setTop (mkF m 43 #[.val (.int p1), .val (.ref b2), .val (.int (0 : Int32)), .unset, .unset, .unset, .unset] [(.ref b2)]))
    refine Go.st (fun _ kk => XS.iloadN X27.here hx rfl (hb hby at_43) rfl  kk) ?_
    show Go p e below _ (T27.setTop (mkF m 44 #[.val (.int p1), .val (.ref b2), .val (.int (0 : Int32)), .unset, .unset, .unset, .unset] [(.int (0 : Int32)), (.ref b2)]))
    obtain ⟨clq33, Arq33, caq33, saq33, naq33, haq33, gaq33⟩ := V27
    have inq33 : ¬ ((0 : Int32) < 0 ∨ clq33.slots.size ≤ ((0 : Int32)).toNatClampNeg) := inb_of saq33 ⟨by decide, by decide⟩
    have atq33 : clq33.slots[((0 : Int32)).toNatClampNeg]? = some (.ref w_REQUIRES_PAYMENT_METHOD) := haq33.at inq33 rfl
    refine Go.st (fun _ kk => X27.aaload hx (j := (0 : Int32)) (v := (.ref w_REQUIRES_PAYMENT_METHOD)) (by rw [e27]; exact Arq33.1) (State.isArrayOf_alike hZ.alike Arq33.2.1) rfl Arq33.2.2 inq33 atq33 (g := (mkF m 44 #[.val (.int p1), .val (.ref b2), .val (.int (0 : Int32)), .unset, .unset, .unset, .unset] [(.int (0 : Int32)), (.ref b2)])) rfl rfl (hb hby at_44) _ kk) ?_
    show Go p e below _ (T27.setTop (mkF m 45 #[.val (.int p1), .val (.ref b2), .val (.int (0 : Int32)), .unset, .unset, .unset, .unset] [(.ref w_REQUIRES_PAYMENT_METHOD)]))
    refine Go.st (fun _ kk => XS.astoreN X27.here hx rfl (hb hby at_45) rfl rfl (l' := #[.val (.int p1), .val (.ref b2), .val (.int (0 : Int32)), .val (.ref w_REQUIRES_PAYMENT_METHOD), .unset, .unset, .unset]) rfl kk) ?_
    show Go p e below _ (T27.setTop (mkF m 46 #[.val (.int p1), .val (.ref b2), .val (.int (0 : Int32)), .val (.ref w_REQUIRES_PAYMENT_METHOD), .unset, .unset, .unset] []))
    refine Go.st (fun _ kk => XS.iloadN X27.here hx rfl (hb hby at_46) rfl  kk) ?_
    show Go p e below _ (T27.setTop (mkF m 47 #[.val (.int p1), .val (.ref b2), .val (.int (0 : Int32)), .val (.ref w_REQUIRES_PAYMENT_METHOD), .unset, .unset, .unset] [(.int (0 : Int32))]))
    refine Go.st (fun _ kk => XS.iconst X27.here hx rfl (hb hby at_47) kk) ?_
    show Go p e below _ (T27.setTop (mkF m 48 #[.val (.int p1), .val (.ref b2), .val (.int (0 : Int32)), .val (.ref w_REQUIRES_PAYMENT_METHOD), .unset, .unset, .unset] [(.int (2 : Int32)), (.int (0 : Int32))]))
    refine Go.st (fun _ kk => XS.icmpNo X27.here hx rfl (hb hby at_48) rfl (feq (by decide : ¬ ((0 : Int32) = (2 : Int32)))).1 kk) ?_
    show Go p e below _ (T27.setTop (mkF m 51 #[.val (.int p1), .val (.ref b2), .val (.int (0 : Int32)), .val (.ref w_REQUIRES_PAYMENT_METHOD), .unset, .unset, .unset] []))
    refine Go.st (fun _ kk => XS.iloadN X27.here hx rfl (hb hby at_51) rfl  kk) ?_
    show Go p e below _ (T27.setTop (mkF m 52 #[.val (.int p1), .val (.ref b2), .val (.int (0 : Int32)), .val (.ref w_REQUIRES_PAYMENT_METHOD), .unset, .unset, .unset] [(.int (0 : Int32))]))
    refine Go.st (fun _ kk => XS.iconst X27.here hx rfl (hb hby at_52) kk) ?_
    show Go p e below _ (T27.setTop (mkF m 53 #[.val (.int p1), .val (.ref b2), .val (.int (0 : Int32)), .val (.ref w_REQUIRES_PAYMENT_METHOD), .unset, .unset, .unset] [(.int (4 : Int32)), (.int (0 : Int32))]))
    refine Go.st (fun _ kk => XS.icmpYes X27.here hx rfl (pc0 := 53) (pc' := 60) rfl (hb hby at_53) rfl (feq (by decide : ¬ ((0 : Int32) = (4 : Int32)))).2 (by decide) (by decide) kk) ?_
    show Go p e below _ (T27.setTop (mkF m 60 #[.val (.int p1), .val (.ref b2), .val (.int (0 : Int32)), .val (.ref w_REQUIRES_PAYMENT_METHOD), .unset, .unset, .unset] []))
    refine Go.st (fun _ kk => XS.iconst X27.here hx rfl (hb hby at_60) kk) ?_
    show Go p e below _ (T27.setTop (mkF m 61 #[.val (.int p1), .val (.ref b2), .val (.int (0 : Int32)), .val (.ref w_REQUIRES_PAYMENT_METHOD), .unset, .unset, .unset] [(.int (0 : Int32))]))
    refine Go.st (fun _ kk => XS.istore X27.here hx rfl (hb hby at_61) rfl (l' := #[.val (.int p1), .val (.ref b2), .val (.int (0 : Int32)), .val (.ref w_REQUIRES_PAYMENT_METHOD), .val (.int (0 : Int32)), .unset, .unset]) rfl kk) ?_
    show Go p e below _ (T27.setTop (mkF m 63 #[.val (.int p1), .val (.ref b2), .val (.int (0 : Int32)), .val (.ref w_REQUIRES_PAYMENT_METHOD), .val (.int (0 : Int32)), .unset, .unset] []))
    refine Go.st (fun _ kk => XS.aloadN X27.here hx rfl (hb hby at_63) rfl rfl  kk) ?_
    show Go p e below _ (T27.setTop (mkF m 64 #[.val (.int p1), .val (.ref b2), .val (.int (0 : Int32)), .val (.ref w_REQUIRES_PAYMENT_METHOD), .val (.int (0 : Int32)), .unset, .unset] [(.ref w_REQUIRES_PAYMENT_METHOD)]))
    have f_34 := (Exa.wr W27 (Exa.wr W22 (Exa.wr W17 (Exa.wr W12 (Exa.wr W7 f_6)))))
    have f_35 := (F_stage_w_REQUIRES_PAYMENT_METHOD.keep K27 nin0)
    obtain ⟨cq36, kq36, q36a, q36b, q36c⟩ := isOf hZ e27 f_34
    obtain ⟨_, _, ⟨T36, L36, k36, n36⟩, -, X36, ⟨Lc36, hQ36, l36, y36, z36⟩, st36⟩ := X27.virtualBack hx (y := (⟨"com/example/charge_ledger/chargeledger/model/PaymentStatus", "hasEnded", "()Z"⟩ : MethodName)) (z := (⟨"com/example/charge_ledger/chargeledger/model/PaymentStatus", "hasEnded", "()Z"⟩ : MethodName)) hown (mvT hZ (hw _ (List.mem_of_getElem? (i := 15) rfl))) (mvT hZ (hw _ (List.mem_of_getElem? (i := 16) rfl))) (notFace_of_selects (args := #[]) (mvT hZ (hw _ (List.mem_of_getElem? (i := 18) rfl)))) (mvT hZ (hw _ (List.mem_of_getElem? (i := 18) rfl))) (mvT hZ (hw _ (List.mem_of_getElem? (i := 17) rfl))) (by decide) (backOf (W := 0) (rm1_f l Z a0 hw [] w_REQUIRES_PAYMENT_METHOD (0 : Int32) h27 n0 (Nat.le_trans Z0 K27.1) f_35 (by decide : ¬ ((0 : Int32) = (5 : Int32)))) hZ (hw _ (List.mem_of_getElem? (i := 19) rfl)) (hw _ (List.mem_of_getElem? (i := 3) rfl)) (by decide) (by decide)) q36a q36c (g := (mkF m 64 #[.val (.int p1), .val (.ref b2), .val (.int (0 : Int32)), .val (.ref w_REQUIRES_PAYMENT_METHOD), .val (.int (0 : Int32)), .unset, .unset] [(.ref w_REQUIRES_PAYMENT_METHOD)])) rfl (by rw [hml]; rfl) (Steps.refl _) (argsL := []) (rest := []) (lenOf pd_0 rfl) rfl (by show 2 * 0 + _ ≤ _; exact Nat.le_of_eq rfl) (hb hby at_64) (fun _ _ => ⟨rfl, e27, (by decide : 1 + 0 ≤ _), (by decide : 5 + 0 ≤ _)⟩)
    dsimp only [Pt.U, Pt.locs, Pt.cells, Pt.slots] at X36 l36 y36 z36 st36 hQ36
    subst l36 y36 z36
    obtain ⟨rfl, N36q, eq36⟩ := hQ36
    have N36 := Fr.app N27 N36q
    refine Go.tr st36 ?_
    show Go p e below _ (T36.setTop (mkF m 67 #[.val (.int p1), .val (.ref b2), .val (.int (0 : Int32)), .val (.ref w_REQUIRES_PAYMENT_METHOD), .val (.int (0 : Int32)), .unset, .unset] [(.int (0 : Int32))]))
    refine Go.st (fun _ kk => XS.istore X36.here hx rfl (hb hby at_67) rfl (l' := #[.val (.int p1), .val (.ref b2), .val (.int (0 : Int32)), .val (.ref w_REQUIRES_PAYMENT_METHOD), .val (.int (0 : Int32)), .val (.int (0 : Int32)), .unset]) rfl kk) ?_
    show Go p e below _ (T36.setTop (mkF m 69 #[.val (.int p1), .val (.ref b2), .val (.int (0 : Int32)), .val (.ref w_REQUIRES_PAYMENT_METHOD), .val (.int (0 : Int32)), .val (.int (0 : Int32)), .unset] []))
    refine Go.st (fun _ kk => XS.iload X36.here hx rfl (hb hby at_69) rfl  kk) ?_
    show Go p e below _ (T36.setTop (mkF m 71 #[.val (.int p1), .val (.ref b2), .val (.int (0 : Int32)), .val (.ref w_REQUIRES_PAYMENT_METHOD), .val (.int (0 : Int32)), .val (.int (0 : Int32)), .unset] [(.int (0 : Int32))]))
    refine Go.st (fun _ kk => XS.iload X36.here hx rfl (hb hby at_71) rfl  kk) ?_
    show Go p e below _ (T36.setTop (mkF m 73 #[.val (.int p1), .val (.ref b2), .val (.int (0 : Int32)), .val (.ref w_REQUIRES_PAYMENT_METHOD), .val (.int (0 : Int32)), .val (.int (0 : Int32)), .unset] [(.int (0 : Int32)), (.int (0 : Int32))]))
    refine Go.st (fun _ kk => XS.icmpYes X36.here hx rfl (pc0 := 73) (pc' := 78) rfl (hb hby at_73) rfl (teq (by decide : ((0 : Int32) = (0 : Int32)))).1 (by decide) (by decide) kk) ?_
    show Go p e below _ (T36.setTop (mkF m 78 #[.val (.int p1), .val (.ref b2), .val (.int (0 : Int32)), .val (.ref w_REQUIRES_PAYMENT_METHOD), .val (.int (0 : Int32)), .val (.int (0 : Int32)), .unset] []))
    refine Go.st (fun _ kk => XS.aloadN X36.here hx rfl (hb hby at_78) rfl rfl  kk) ?_
    show Go p e below _ (T36.setTop (mkF m 79 #[.val (.int p1), .val (.ref b2), .val (.int (0 : Int32)), .val (.ref w_REQUIRES_PAYMENT_METHOD), .val (.int (0 : Int32)), .val (.int (0 : Int32)), .unset] [(.ref w_REQUIRES_PAYMENT_METHOD)]))
    obtain ⟨cq37, kq37, q37a, q37b, q37c⟩ := isOf hZ eq36 f_34
    obtain ⟨_, _, ⟨T37, L37, k37, n37⟩, -, X37, ⟨Lc37, hQ37, l37, y37, z37⟩, st37⟩ := X36.virtualBack hx (y := (⟨"com/example/charge_ledger/chargeledger/model/PaymentStatus", "getStage", "()I"⟩ : MethodName)) (z := (⟨"com/example/charge_ledger/chargeledger/model/PaymentStatus", "getStage", "()I"⟩ : MethodName)) hown (mvT hZ (hw _ (List.mem_of_getElem? (i := 22) rfl))) (mvT hZ (hw _ (List.mem_of_getElem? (i := 23) rfl))) (notFace_of_selects (args := #[]) (mvT hZ (hw _ (List.mem_of_getElem? (i := 25) rfl)))) (mvT hZ (hw _ (List.mem_of_getElem? (i := 25) rfl))) (mvT hZ (hw _ (List.mem_of_getElem? (i := 24) rfl))) (by decide) (backOf (W := 0) (rm2_o l Z a0 hw [] w_REQUIRES_PAYMENT_METHOD (0 : Int32) h27 n0 (Nat.le_trans Z0 K27.1) f_35) hZ (hw _ (List.mem_of_getElem? (i := 26) rfl)) (hw _ (List.mem_of_getElem? (i := 3) rfl)) (by decide) (by decide)) q37a q37c (g := (mkF m 79 #[.val (.int p1), .val (.ref b2), .val (.int (0 : Int32)), .val (.ref w_REQUIRES_PAYMENT_METHOD), .val (.int (0 : Int32)), .val (.int (0 : Int32)), .unset] [(.ref w_REQUIRES_PAYMENT_METHOD)])) rfl (by rw [hml]; rfl) (Steps.refl _) (argsL := []) (rest := []) (lenOf pd_1 rfl) rfl (by show 2 * 0 + _ ≤ _; exact Nat.le_of_eq rfl) (hb hby at_79) (fun _ _ => ⟨rfl, eq36, (by decide : 1 + 0 ≤ _), (by decide : 5 + 0 ≤ _)⟩)
    dsimp only [Pt.U, Pt.locs, Pt.cells, Pt.slots] at X37 l37 y37 z37 st37 hQ37
    subst l37 y37 z37
    obtain ⟨rfl, N37q, eq37⟩ := hQ37
    have N37 := Fr.app N36 N37q
    refine Go.tr st37 ?_
    show Go p e below _ (T37.setTop (mkF m 82 #[.val (.int p1), .val (.ref b2), .val (.int (0 : Int32)), .val (.ref w_REQUIRES_PAYMENT_METHOD), .val (.int (0 : Int32)), .val (.int (0 : Int32)), .unset] [(.int (0 : Int32))]))
    refine Go.st (fun _ kk => XS.istore X37.here hx rfl (hb hby at_82) rfl (l' := #[.val (.int p1), .val (.ref b2), .val (.int (0 : Int32)), .val (.ref w_REQUIRES_PAYMENT_METHOD), .val (.int (0 : Int32)), .val (.int (0 : Int32)), .val (.int (0 : Int32))]) rfl kk) ?_
    show Go p e below _ (T37.setTop (mkF m 84 #[.val (.int p1), .val (.ref b2), .val (.int (0 : Int32)), .val (.ref w_REQUIRES_PAYMENT_METHOD), .val (.int (0 : Int32)), .val (.int (0 : Int32)), .val (.int (0 : Int32))] []))
    refine Go.st (fun _ kk => XS.iload X37.here hx rfl (hb hby at_84) rfl  kk) ?_
    show Go p e below _ (T37.setTop (mkF m 86 #[.val (.int p1), .val (.ref b2), .val (.int (0 : Int32)), .val (.ref w_REQUIRES_PAYMENT_METHOD), .val (.int (0 : Int32)), .val (.int (0 : Int32)), .val (.int (0 : Int32))] [(.int (0 : Int32))]))
    refine Go.st (fun _ kk => XS.ifYes X37.here hx rfl (pc0 := 86) (pc' := 101) rfl (hb hby at_86) rfl ((if0 _ _).trans (teq (by decide : ((0 : Int32) = (0 : Int32)))).1) (by decide) (by decide) kk) ?_
    show Go p e below _ (T37.setTop (mkF m 101 #[.val (.int p1), .val (.ref b2), .val (.int (0 : Int32)), .val (.ref w_REQUIRES_PAYMENT_METHOD), .val (.int (0 : Int32)), .val (.int (0 : Int32)), .val (.int (0 : Int32))] []))
    refine Go.st (fun _ kk => XS.iload X37.here hx rfl (hb hby at_101) rfl  kk) ?_
    show Go p e below _ (T37.setTop (mkF m 103 #[.val (.int p1), .val (.ref b2), .val (.int (0 : Int32)), .val (.ref w_REQUIRES_PAYMENT_METHOD), .val (.int (0 : Int32)), .val (.int (0 : Int32)), .val (.int (0 : Int32))] [(.int (0 : Int32))]))
    refine Go.st (fun _ kk => XS.iconst X37.here hx rfl (hb hby at_103) kk) ?_
    show Go p e below _ (T37.setTop (mkF m 104 #[.val (.int p1), .val (.ref b2), .val (.int (0 : Int32)), .val (.ref w_REQUIRES_PAYMENT_METHOD), .val (.int (0 : Int32)), .val (.int (0 : Int32)), .val (.int (0 : Int32))] [(.int (5 : Int32)), (.int (0 : Int32))]))
    refine Go.st (fun _ kk => XS.icmpNo X37.here hx rfl (hb hby at_104) rfl (tlt (by decide : ((0 : Int32) < (5 : Int32)))).2.1 kk) ?_
    show Go p e below _ (T37.setTop (mkF m 107 #[.val (.int p1), .val (.ref b2), .val (.int (0 : Int32)), .val (.ref w_REQUIRES_PAYMENT_METHOD), .val (.int (0 : Int32)), .val (.int (0 : Int32)), .val (.int (0 : Int32))] []))
    refine Go.st (fun _ kk => XS.iconst X37.here hx rfl (hb hby at_107) kk) ?_
    show Go p e below _ (T37.setTop (mkF m 108 #[.val (.int p1), .val (.ref b2), .val (.int (0 : Int32)), .val (.ref w_REQUIRES_PAYMENT_METHOD), .val (.int (0 : Int32)), .val (.int (0 : Int32)), .val (.int (0 : Int32))] [(.int (1 : Int32))]))
    refine Go.st (fun _ kk => XS.goto X37.here hx rfl (pc0 := 108) (pc' := 112) rfl (hb hby at_108) (by decide) (by decide) kk) ?_
    show Go p e below _ (T37.setTop (mkF m 112 #[.val (.int p1), .val (.ref b2), .val (.int (0 : Int32)), .val (.ref w_REQUIRES_PAYMENT_METHOD), .val (.int (0 : Int32)), .val (.int (0 : Int32)), .val (.int (0 : Int32))] [(.int (1 : Int32))]))
    exact Go.ret (Q := Q0 n0) X37 (v := some (.int (1 : Int32))) (fun h => by rw [Bd.returns] at h; cases h) Bd.notSynchronized (fun fs hr => retN X37 hx (t := .boolean) Bd.returns (by simp) (hb hby at_112) hr) eq37 ⟨rfl, N37⟩ (by decide) (by decide)
  · skip
    rw [hk29]
    show Go p e below _ (T27.setTop (mkF m 41 #[.val (.int p1), .val (.ref b2), .unset, .unset, .unset, .unset, .unset] [(.int (1 : Int32))]))
    refine Go.st (fun _ kk => XS.istoreN X27.here hx rfl (hb hby at_41) rfl (l' := #[.val (.int p1), .val (.ref b2), .val (.int (1 : Int32)), .unset, .unset, .unset, .unset]) rfl kk) ?_
    show Go p e below _ (T27.setTop (mkF m 42 #[.val (.int p1), .val (.ref b2), .val (.int (1 : Int32)), .unset, .unset, .unset, .unset] []))
    refine Go.st (fun _ kk => XS.aloadN X27.here hx rfl (hb hby at_42) rfl rfl  kk) ?_
    show Go p e below _ (T27.setTop (mkF m 43 #[.val (.int p1), .val (.ref b2), .val (.int (1 : Int32)), .unset, .unset, .unset, .unset] [(.ref b2)]))
    refine Go.st (fun _ kk => XS.iloadN X27.here hx rfl (hb hby at_43) rfl  kk) ?_
    show Go p e below _ (T27.setTop (mkF m 44 #[.val (.int p1), .val (.ref b2), .val (.int (1 : Int32)), .unset, .unset, .unset, .unset] [(.int (1 : Int32)), (.ref b2)]))
    obtain ⟨clq38, Arq38, caq38, saq38, naq38, haq38, gaq38⟩ := V27
    have inq38 : ¬ ((1 : Int32) < 0 ∨ clq38.slots.size ≤ ((1 : Int32)).toNatClampNeg) := inb_of saq38 ⟨by decide, by decide⟩
    have atq38 : clq38.slots[((1 : Int32)).toNatClampNeg]? = some (.ref w_PROCESSING) := haq38.at inq38 rfl
    refine Go.st (fun _ kk => X27.aaload hx (j := (1 : Int32)) (v := (.ref w_PROCESSING)) (by rw [e27]; exact Arq38.1) (State.isArrayOf_alike hZ.alike Arq38.2.1) rfl Arq38.2.2 inq38 atq38 (g := (mkF m 44 #[.val (.int p1), .val (.ref b2), .val (.int (1 : Int32)), .unset, .unset, .unset, .unset] [(.int (1 : Int32)), (.ref b2)])) rfl rfl (hb hby at_44) _ kk) ?_
    show Go p e below _ (T27.setTop (mkF m 45 #[.val (.int p1), .val (.ref b2), .val (.int (1 : Int32)), .unset, .unset, .unset, .unset] [(.ref w_PROCESSING)]))
    refine Go.st (fun _ kk => XS.astoreN X27.here hx rfl (hb hby at_45) rfl rfl (l' := #[.val (.int p1), .val (.ref b2), .val (.int (1 : Int32)), .val (.ref w_PROCESSING), .unset, .unset, .unset]) rfl kk) ?_
    show Go p e below _ (T27.setTop (mkF m 46 #[.val (.int p1), .val (.ref b2), .val (.int (1 : Int32)), .val (.ref w_PROCESSING), .unset, .unset, .unset] []))
    refine Go.st (fun _ kk => XS.iloadN X27.here hx rfl (hb hby at_46) rfl  kk) ?_
    show Go p e below _ (T27.setTop (mkF m 47 #[.val (.int p1), .val (.ref b2), .val (.int (1 : Int32)), .val (.ref w_PROCESSING), .unset, .unset, .unset] [(.int (1 : Int32))]))
    refine Go.st (fun _ kk => XS.iconst X27.here hx rfl (hb hby at_47) kk) ?_
    show Go p e below _ (T27.setTop (mkF m 48 #[.val (.int p1), .val (.ref b2), .val (.int (1 : Int32)), .val (.ref w_PROCESSING), .unset, .unset, .unset] [(.int (2 : Int32)), (.int (1 : Int32))]))
    refine Go.st (fun _ kk => XS.icmpNo X27.here hx rfl (hb hby at_48) rfl (feq (by decide : ¬ ((1 : Int32) = (2 : Int32)))).1 kk) ?_
    show Go p e below _ (T27.setTop (mkF m 51 #[.val (.int p1), .val (.ref b2), .val (.int (1 : Int32)), .val (.ref w_PROCESSING), .unset, .unset, .unset] []))
    refine Go.st (fun _ kk => XS.iloadN X27.here hx rfl (hb hby at_51) rfl  kk) ?_
    show Go p e below _ (T27.setTop (mkF m 52 #[.val (.int p1), .val (.ref b2), .val (.int (1 : Int32)), .val (.ref w_PROCESSING), .unset, .unset, .unset] [(.int (1 : Int32))]))
    refine Go.st (fun _ kk => XS.iconst X27.here hx rfl (hb hby at_52) kk) ?_
    show Go p e below _ (T27.setTop (mkF m 53 #[.val (.int p1), .val (.ref b2), .val (.int (1 : Int32)), .val (.ref w_PROCESSING), .unset, .unset, .unset] [(.int (4 : Int32)), (.int (1 : Int32))]))
    refine Go.st (fun _ kk => XS.icmpYes X27.here hx rfl (pc0 := 53) (pc' := 60) rfl (hb hby at_53) rfl (feq (by decide : ¬ ((1 : Int32) = (4 : Int32)))).2 (by decide) (by decide) kk) ?_
    show Go p e below _ (T27.setTop (mkF m 60 #[.val (.int p1), .val (.ref b2), .val (.int (1 : Int32)), .val (.ref w_PROCESSING), .unset, .unset, .unset] []))
    refine Go.st (fun _ kk => XS.iconst X27.here hx rfl (hb hby at_60) kk) ?_
    show Go p e below _ (T27.setTop (mkF m 61 #[.val (.int p1), .val (.ref b2), .val (.int (1 : Int32)), .val (.ref w_PROCESSING), .unset, .unset, .unset] [(.int (0 : Int32))]))
    refine Go.st (fun _ kk => XS.istore X27.here hx rfl (hb hby at_61) rfl (l' := #[.val (.int p1), .val (.ref b2), .val (.int (1 : Int32)), .val (.ref w_PROCESSING), .val (.int (0 : Int32)), .unset, .unset]) rfl kk) ?_
    show Go p e below _ (T27.setTop (mkF m 63 #[.val (.int p1), .val (.ref b2), .val (.int (1 : Int32)), .val (.ref w_PROCESSING), .val (.int (0 : Int32)), .unset, .unset] []))
    refine Go.st (fun _ kk => XS.aloadN X27.here hx rfl (hb hby at_63) rfl rfl  kk) ?_
    show Go p e below _ (T27.setTop (mkF m 64 #[.val (.int p1), .val (.ref b2), .val (.int (1 : Int32)), .val (.ref w_PROCESSING), .val (.int (0 : Int32)), .unset, .unset] [(.ref w_PROCESSING)]))
    have f_39 := (Exa.wr W27 (Exa.wr W22 (Exa.wr W17 (Exa.wr W12 f_11))))
    have f_40 := (F_stage_w_PROCESSING.keep K27 nin0)
    obtain ⟨cq41, kq41, q41a, q41b, q41c⟩ := isOf hZ e27 f_39
    obtain ⟨_, _, ⟨T41, L41, k41, n41⟩, -, X41, ⟨Lc41, hQ41, l41, y41, z41⟩, st41⟩ := X27.virtualBack hx (y := (⟨"com/example/charge_ledger/chargeledger/model/PaymentStatus", "hasEnded", "()Z"⟩ : MethodName)) (z := (⟨"com/example/charge_ledger/chargeledger/model/PaymentStatus", "hasEnded", "()Z"⟩ : MethodName)) hown (mvT hZ (hw _ (List.mem_of_getElem? (i := 15) rfl))) (mvT hZ (hw _ (List.mem_of_getElem? (i := 16) rfl))) (notFace_of_selects (args := #[]) (mvT hZ (hw _ (List.mem_of_getElem? (i := 18) rfl)))) (mvT hZ (hw _ (List.mem_of_getElem? (i := 18) rfl))) (mvT hZ (hw _ (List.mem_of_getElem? (i := 17) rfl))) (by decide) (backOf (W := 0) (rm1_f l Z a0 hw [] w_PROCESSING (3 : Int32) h27 n0 (Nat.le_trans Z0 K27.1) f_40 (by decide : ¬ ((3 : Int32) = (5 : Int32)))) hZ (hw _ (List.mem_of_getElem? (i := 19) rfl)) (hw _ (List.mem_of_getElem? (i := 3) rfl)) (by decide) (by decide)) q41a q41c (g := (mkF m 64 #[.val (.int p1), .val (.ref b2), .val (.int (1 : Int32)), .val (.ref w_PROCESSING), .val (.int (0 : Int32)), .unset, .unset] [(.ref w_PROCESSING)])) rfl (by rw [hml]; rfl) (Steps.refl _) (argsL := []) (rest := []) (lenOf pd_0 rfl) rfl (by show 2 * 0 + _ ≤ _; exact Nat.le_of_eq rfl) (hb hby at_64) (fun _ _ => ⟨rfl, e27, (by decide : 1 + 0 ≤ _), (by decide : 5 + 0 ≤ _)⟩)
    dsimp only [Pt.U, Pt.locs, Pt.cells, Pt.slots] at X41 l41 y41 z41 st41 hQ41
    subst l41 y41 z41
    obtain ⟨rfl, N41q, eq41⟩ := hQ41
    have N41 := Fr.app N27 N41q
    refine Go.tr st41 ?_
    show Go p e below _ (T41.setTop (mkF m 67 #[.val (.int p1), .val (.ref b2), .val (.int (1 : Int32)), .val (.ref w_PROCESSING), .val (.int (0 : Int32)), .unset, .unset] [(.int (0 : Int32))]))
    refine Go.st (fun _ kk => XS.istore X41.here hx rfl (hb hby at_67) rfl (l' := #[.val (.int p1), .val (.ref b2), .val (.int (1 : Int32)), .val (.ref w_PROCESSING), .val (.int (0 : Int32)), .val (.int (0 : Int32)), .unset]) rfl kk) ?_
    show Go p e below _ (T41.setTop (mkF m 69 #[.val (.int p1), .val (.ref b2), .val (.int (1 : Int32)), .val (.ref w_PROCESSING), .val (.int (0 : Int32)), .val (.int (0 : Int32)), .unset] []))
    refine Go.st (fun _ kk => XS.iload X41.here hx rfl (hb hby at_69) rfl  kk) ?_
    show Go p e below _ (T41.setTop (mkF m 71 #[.val (.int p1), .val (.ref b2), .val (.int (1 : Int32)), .val (.ref w_PROCESSING), .val (.int (0 : Int32)), .val (.int (0 : Int32)), .unset] [(.int (0 : Int32))]))
    refine Go.st (fun _ kk => XS.iload X41.here hx rfl (hb hby at_71) rfl  kk) ?_
    show Go p e below _ (T41.setTop (mkF m 73 #[.val (.int p1), .val (.ref b2), .val (.int (1 : Int32)), .val (.ref w_PROCESSING), .val (.int (0 : Int32)), .val (.int (0 : Int32)), .unset] [(.int (0 : Int32)), (.int (0 : Int32))]))
    refine Go.st (fun _ kk => XS.icmpYes X41.here hx rfl (pc0 := 73) (pc' := 78) rfl (hb hby at_73) rfl (teq (by decide : ((0 : Int32) = (0 : Int32)))).1 (by decide) (by decide) kk) ?_
    show Go p e below _ (T41.setTop (mkF m 78 #[.val (.int p1), .val (.ref b2), .val (.int (1 : Int32)), .val (.ref w_PROCESSING), .val (.int (0 : Int32)), .val (.int (0 : Int32)), .unset] []))
    refine Go.st (fun _ kk => XS.aloadN X41.here hx rfl (hb hby at_78) rfl rfl  kk) ?_
    show Go p e below _ (T41.setTop (mkF m 79 #[.val (.int p1), .val (.ref b2), .val (.int (1 : Int32)), .val (.ref w_PROCESSING), .val (.int (0 : Int32)), .val (.int (0 : Int32)), .unset] [(.ref w_PROCESSING)]))
    obtain ⟨cq42, kq42, q42a, q42b, q42c⟩ := isOf hZ eq41 f_39
    obtain ⟨_, _, ⟨T42, L42, k42, n42⟩, -, X42, ⟨Lc42, hQ42, l42, y42, z42⟩, st42⟩ := X41.virtualBack hx (y := (⟨"com/example/charge_ledger/chargeledger/model/PaymentStatus", "getStage", "()I"⟩ : MethodName)) (z := (⟨"com/example/charge_ledger/chargeledger/model/PaymentStatus", "getStage", "()I"⟩ : MethodName)) hown (mvT hZ (hw _ (List.mem_of_getElem? (i := 22) rfl))) (mvT hZ (hw _ (List.mem_of_getElem? (i := 23) rfl))) (notFace_of_selects (args := #[]) (mvT hZ (hw _ (List.mem_of_getElem? (i := 25) rfl)))) (mvT hZ (hw _ (List.mem_of_getElem? (i := 25) rfl))) (mvT hZ (hw _ (List.mem_of_getElem? (i := 24) rfl))) (by decide) (backOf (W := 0) (rm2_o l Z a0 hw [] w_PROCESSING (3 : Int32) h27 n0 (Nat.le_trans Z0 K27.1) f_40) hZ (hw _ (List.mem_of_getElem? (i := 26) rfl)) (hw _ (List.mem_of_getElem? (i := 3) rfl)) (by decide) (by decide)) q42a q42c (g := (mkF m 79 #[.val (.int p1), .val (.ref b2), .val (.int (1 : Int32)), .val (.ref w_PROCESSING), .val (.int (0 : Int32)), .val (.int (0 : Int32)), .unset] [(.ref w_PROCESSING)])) rfl (by rw [hml]; rfl) (Steps.refl _) (argsL := []) (rest := []) (lenOf pd_1 rfl) rfl (by show 2 * 0 + _ ≤ _; exact Nat.le_of_eq rfl) (hb hby at_79) (fun _ _ => ⟨rfl, eq41, (by decide : 1 + 0 ≤ _), (by decide : 5 + 0 ≤ _)⟩)
    dsimp only [Pt.U, Pt.locs, Pt.cells, Pt.slots] at X42 l42 y42 z42 st42 hQ42
    subst l42 y42 z42
    obtain ⟨rfl, N42q, eq42⟩ := hQ42
    have N42 := Fr.app N41 N42q
    refine Go.tr st42 ?_
    show Go p e below _ (T42.setTop (mkF m 82 #[.val (.int p1), .val (.ref b2), .val (.int (1 : Int32)), .val (.ref w_PROCESSING), .val (.int (0 : Int32)), .val (.int (0 : Int32)), .unset] [(.int (3 : Int32))]))
    refine Go.st (fun _ kk => XS.istore X42.here hx rfl (hb hby at_82) rfl (l' := #[.val (.int p1), .val (.ref b2), .val (.int (1 : Int32)), .val (.ref w_PROCESSING), .val (.int (0 : Int32)), .val (.int (0 : Int32)), .val (.int (3 : Int32))]) rfl kk) ?_
    show Go p e below _ (T42.setTop (mkF m 84 #[.val (.int p1), .val (.ref b2), .val (.int (1 : Int32)), .val (.ref w_PROCESSING), .val (.int (0 : Int32)), .val (.int (0 : Int32)), .val (.int (3 : Int32))] []))
    refine Go.st (fun _ kk => XS.iload X42.here hx rfl (hb hby at_84) rfl  kk) ?_
    show Go p e below _ (T42.setTop (mkF m 86 #[.val (.int p1), .val (.ref b2), .val (.int (1 : Int32)), .val (.ref w_PROCESSING), .val (.int (0 : Int32)), .val (.int (0 : Int32)), .val (.int (3 : Int32))] [(.int (0 : Int32))]))
    refine Go.st (fun _ kk => XS.ifYes X42.here hx rfl (pc0 := 86) (pc' := 101) rfl (hb hby at_86) rfl ((if0 _ _).trans (teq (by decide : ((0 : Int32) = (0 : Int32)))).1) (by decide) (by decide) kk) ?_
    show Go p e below _ (T42.setTop (mkF m 101 #[.val (.int p1), .val (.ref b2), .val (.int (1 : Int32)), .val (.ref w_PROCESSING), .val (.int (0 : Int32)), .val (.int (0 : Int32)), .val (.int (3 : Int32))] []))
    refine Go.st (fun _ kk => XS.iload X42.here hx rfl (hb hby at_101) rfl  kk) ?_
    show Go p e below _ (T42.setTop (mkF m 103 #[.val (.int p1), .val (.ref b2), .val (.int (1 : Int32)), .val (.ref w_PROCESSING), .val (.int (0 : Int32)), .val (.int (0 : Int32)), .val (.int (3 : Int32))] [(.int (3 : Int32))]))
    refine Go.st (fun _ kk => XS.iconst X42.here hx rfl (hb hby at_103) kk) ?_
    show Go p e below _ (T42.setTop (mkF m 104 #[.val (.int p1), .val (.ref b2), .val (.int (1 : Int32)), .val (.ref w_PROCESSING), .val (.int (0 : Int32)), .val (.int (0 : Int32)), .val (.int (3 : Int32))] [(.int (5 : Int32)), (.int (3 : Int32))]))
    refine Go.st (fun _ kk => XS.icmpNo X42.here hx rfl (hb hby at_104) rfl (tlt (by decide : ((3 : Int32) < (5 : Int32)))).2.1 kk) ?_
    show Go p e below _ (T42.setTop (mkF m 107 #[.val (.int p1), .val (.ref b2), .val (.int (1 : Int32)), .val (.ref w_PROCESSING), .val (.int (0 : Int32)), .val (.int (0 : Int32)), .val (.int (3 : Int32))] []))
    refine Go.st (fun _ kk => XS.iconst X42.here hx rfl (hb hby at_107) kk) ?_
    show Go p e below _ (T42.setTop (mkF m 108 #[.val (.int p1), .val (.ref b2), .val (.int (1 : Int32)), .val (.ref w_PROCESSING), .val (.int (0 : Int32)), .val (.int (0 : Int32)), .val (.int (3 : Int32))] [(.int (1 : Int32))]))
    refine Go.st (fun _ kk => XS.goto X42.here hx rfl (pc0 := 108) (pc' := 112) rfl (hb hby at_108) (by decide) (by decide) kk) ?_
    show Go p e below _ (T42.setTop (mkF m 112 #[.val (.int p1), .val (.ref b2), .val (.int (1 : Int32)), .val (.ref w_PROCESSING), .val (.int (0 : Int32)), .val (.int (0 : Int32)), .val (.int (3 : Int32))] [(.int (1 : Int32))]))
    exact Go.ret (Q := Q0 n0) X42 (v := some (.int (1 : Int32))) (fun h => by rw [Bd.returns] at h; cases h) Bd.notSynchronized (fun fs hr => retN X42 hx (t := .boolean) Bd.returns (by simp) (hb hby at_112) hr) eq42 ⟨rfl, N42⟩ (by decide) (by decide)
  · skip
    rw [hk30]
    show Go p e below _ (T27.setTop (mkF m 41 #[.val (.int p1), .val (.ref b2), .unset, .unset, .unset, .unset, .unset] [(.int (2 : Int32))]))
    refine Go.st (fun _ kk => XS.istoreN X27.here hx rfl (hb hby at_41) rfl (l' := #[.val (.int p1), .val (.ref b2), .val (.int (2 : Int32)), .unset, .unset, .unset, .unset]) rfl kk) ?_
    show Go p e below _ (T27.setTop (mkF m 42 #[.val (.int p1), .val (.ref b2), .val (.int (2 : Int32)), .unset, .unset, .unset, .unset] []))
    refine Go.st (fun _ kk => XS.aloadN X27.here hx rfl (hb hby at_42) rfl rfl  kk) ?_
    show Go p e below _ (T27.setTop (mkF m 43 #[.val (.int p1), .val (.ref b2), .val (.int (2 : Int32)), .unset, .unset, .unset, .unset] [(.ref b2)]))
    refine Go.st (fun _ kk => XS.iloadN X27.here hx rfl (hb hby at_43) rfl  kk) ?_
    show Go p e below _ (T27.setTop (mkF m 44 #[.val (.int p1), .val (.ref b2), .val (.int (2 : Int32)), .unset, .unset, .unset, .unset] [(.int (2 : Int32)), (.ref b2)]))
    obtain ⟨clq43, Arq43, caq43, saq43, naq43, haq43, gaq43⟩ := V27
    have inq43 : ¬ ((2 : Int32) < 0 ∨ clq43.slots.size ≤ ((2 : Int32)).toNatClampNeg) := inb_of saq43 ⟨by decide, by decide⟩
    have atq43 : clq43.slots[((2 : Int32)).toNatClampNeg]? = some (.ref w_SUCCEEDED) := haq43.at inq43 rfl
    refine Go.st (fun _ kk => X27.aaload hx (j := (2 : Int32)) (v := (.ref w_SUCCEEDED)) (by rw [e27]; exact Arq43.1) (State.isArrayOf_alike hZ.alike Arq43.2.1) rfl Arq43.2.2 inq43 atq43 (g := (mkF m 44 #[.val (.int p1), .val (.ref b2), .val (.int (2 : Int32)), .unset, .unset, .unset, .unset] [(.int (2 : Int32)), (.ref b2)])) rfl rfl (hb hby at_44) _ kk) ?_
    show Go p e below _ (T27.setTop (mkF m 45 #[.val (.int p1), .val (.ref b2), .val (.int (2 : Int32)), .unset, .unset, .unset, .unset] [(.ref w_SUCCEEDED)]))
    refine Go.st (fun _ kk => XS.astoreN X27.here hx rfl (hb hby at_45) rfl rfl (l' := #[.val (.int p1), .val (.ref b2), .val (.int (2 : Int32)), .val (.ref w_SUCCEEDED), .unset, .unset, .unset]) rfl kk) ?_
    show Go p e below _ (T27.setTop (mkF m 46 #[.val (.int p1), .val (.ref b2), .val (.int (2 : Int32)), .val (.ref w_SUCCEEDED), .unset, .unset, .unset] []))
    refine Go.st (fun _ kk => XS.iloadN X27.here hx rfl (hb hby at_46) rfl  kk) ?_
    show Go p e below _ (T27.setTop (mkF m 47 #[.val (.int p1), .val (.ref b2), .val (.int (2 : Int32)), .val (.ref w_SUCCEEDED), .unset, .unset, .unset] [(.int (2 : Int32))]))
    refine Go.st (fun _ kk => XS.iconst X27.here hx rfl (hb hby at_47) kk) ?_
    show Go p e below _ (T27.setTop (mkF m 48 #[.val (.int p1), .val (.ref b2), .val (.int (2 : Int32)), .val (.ref w_SUCCEEDED), .unset, .unset, .unset] [(.int (2 : Int32)), (.int (2 : Int32))]))
    refine Go.st (fun _ kk => XS.icmpYes X27.here hx rfl (pc0 := 48) (pc' := 56) rfl (hb hby at_48) rfl (teq (by decide : ((2 : Int32) = (2 : Int32)))).1 (by decide) (by decide) kk) ?_
    show Go p e below _ (T27.setTop (mkF m 56 #[.val (.int p1), .val (.ref b2), .val (.int (2 : Int32)), .val (.ref w_SUCCEEDED), .unset, .unset, .unset] []))
    refine Go.st (fun _ kk => XS.iconst X27.here hx rfl (hb hby at_56) kk) ?_
    show Go p e below _ (T27.setTop (mkF m 57 #[.val (.int p1), .val (.ref b2), .val (.int (2 : Int32)), .val (.ref w_SUCCEEDED), .unset, .unset, .unset] [(.int (1 : Int32))]))
    refine Go.st (fun _ kk => XS.goto X27.here hx rfl (pc0 := 57) (pc' := 61) rfl (hb hby at_57) (by decide) (by decide) kk) ?_
    show Go p e below _ (T27.setTop (mkF m 61 #[.val (.int p1), .val (.ref b2), .val (.int (2 : Int32)), .val (.ref w_SUCCEEDED), .unset, .unset, .unset] [(.int (1 : Int32))]))
    refine Go.st (fun _ kk => XS.istore X27.here hx rfl (hb hby at_61) rfl (l' := #[.val (.int p1), .val (.ref b2), .val (.int (2 : Int32)), .val (.ref w_SUCCEEDED), .val (.int (1 : Int32)), .unset, .unset]) rfl kk) ?_
    show Go p e below _ (T27.setTop (mkF m 63 #[.val (.int p1), .val (.ref b2), .val (.int (2 : Int32)), .val (.ref w_SUCCEEDED), .val (.int (1 : Int32)), .unset, .unset] []))
    refine Go.st (fun _ kk => XS.aloadN X27.here hx rfl (hb hby at_63) rfl rfl  kk) ?_
    show Go p e below _ (T27.setTop (mkF m 64 #[.val (.int p1), .val (.ref b2), .val (.int (2 : Int32)), .val (.ref w_SUCCEEDED), .val (.int (1 : Int32)), .unset, .unset] [(.ref w_SUCCEEDED)]))
    have f_44 := (Exa.wr W27 (Exa.wr W22 (Exa.wr W17 f_16)))
    have f_45 := (F_stage_w_SUCCEEDED.keep K27 nin0)
    obtain ⟨cq46, kq46, q46a, q46b, q46c⟩ := isOf hZ e27 f_44
    obtain ⟨_, _, ⟨T46, L46, k46, n46⟩, -, X46, ⟨Lc46, hQ46, l46, y46, z46⟩, st46⟩ := X27.virtualBack hx (y := (⟨"com/example/charge_ledger/chargeledger/model/PaymentStatus", "hasEnded", "()Z"⟩ : MethodName)) (z := (⟨"com/example/charge_ledger/chargeledger/model/PaymentStatus", "hasEnded", "()Z"⟩ : MethodName)) hown (mvT hZ (hw _ (List.mem_of_getElem? (i := 15) rfl))) (mvT hZ (hw _ (List.mem_of_getElem? (i := 16) rfl))) (notFace_of_selects (args := #[]) (mvT hZ (hw _ (List.mem_of_getElem? (i := 18) rfl)))) (mvT hZ (hw _ (List.mem_of_getElem? (i := 18) rfl))) (mvT hZ (hw _ (List.mem_of_getElem? (i := 17) rfl))) (by decide) (backOf (W := 0) (rm1_t l Z a0 hw [] w_SUCCEEDED (5 : Int32) h27 n0 (Nat.le_trans Z0 K27.1) f_45 (by decide : ((5 : Int32) = (5 : Int32)))) hZ (hw _ (List.mem_of_getElem? (i := 19) rfl)) (hw _ (List.mem_of_getElem? (i := 3) rfl)) (by decide) (by decide)) q46a q46c (g := (mkF m 64 #[.val (.int p1), .val (.ref b2), .val (.int (2 : Int32)), .val (.ref w_SUCCEEDED), .val (.int (1 : Int32)), .unset, .unset] [(.ref w_SUCCEEDED)])) rfl (by rw [hml]; rfl) (Steps.refl _) (argsL := []) (rest := []) (lenOf pd_0 rfl) rfl (by show 2 * 0 + _ ≤ _; exact Nat.le_of_eq rfl) (hb hby at_64) (fun _ _ => ⟨rfl, e27, (by decide : 1 + 0 ≤ _), (by decide : 5 + 0 ≤ _)⟩)
    dsimp only [Pt.U, Pt.locs, Pt.cells, Pt.slots] at X46 l46 y46 z46 st46 hQ46
    subst l46 y46 z46
    obtain ⟨rfl, N46q, eq46⟩ := hQ46
    have N46 := Fr.app N27 N46q
    refine Go.tr st46 ?_
    show Go p e below _ (T46.setTop (mkF m 67 #[.val (.int p1), .val (.ref b2), .val (.int (2 : Int32)), .val (.ref w_SUCCEEDED), .val (.int (1 : Int32)), .unset, .unset] [(.int (1 : Int32))]))
    refine Go.st (fun _ kk => XS.istore X46.here hx rfl (hb hby at_67) rfl (l' := #[.val (.int p1), .val (.ref b2), .val (.int (2 : Int32)), .val (.ref w_SUCCEEDED), .val (.int (1 : Int32)), .val (.int (1 : Int32)), .unset]) rfl kk) ?_
    show Go p e below _ (T46.setTop (mkF m 69 #[.val (.int p1), .val (.ref b2), .val (.int (2 : Int32)), .val (.ref w_SUCCEEDED), .val (.int (1 : Int32)), .val (.int (1 : Int32)), .unset] []))
    refine Go.st (fun _ kk => XS.iload X46.here hx rfl (hb hby at_69) rfl  kk) ?_
    show Go p e below _ (T46.setTop (mkF m 71 #[.val (.int p1), .val (.ref b2), .val (.int (2 : Int32)), .val (.ref w_SUCCEEDED), .val (.int (1 : Int32)), .val (.int (1 : Int32)), .unset] [(.int (1 : Int32))]))
    refine Go.st (fun _ kk => XS.iload X46.here hx rfl (hb hby at_71) rfl  kk) ?_
    show Go p e below _ (T46.setTop (mkF m 73 #[.val (.int p1), .val (.ref b2), .val (.int (2 : Int32)), .val (.ref w_SUCCEEDED), .val (.int (1 : Int32)), .val (.int (1 : Int32)), .unset] [(.int (1 : Int32)), (.int (1 : Int32))]))
    refine Go.st (fun _ kk => XS.icmpYes X46.here hx rfl (pc0 := 73) (pc' := 78) rfl (hb hby at_73) rfl (teq (by decide : ((1 : Int32) = (1 : Int32)))).1 (by decide) (by decide) kk) ?_
    show Go p e below _ (T46.setTop (mkF m 78 #[.val (.int p1), .val (.ref b2), .val (.int (2 : Int32)), .val (.ref w_SUCCEEDED), .val (.int (1 : Int32)), .val (.int (1 : Int32)), .unset] []))
    refine Go.st (fun _ kk => XS.aloadN X46.here hx rfl (hb hby at_78) rfl rfl  kk) ?_
    show Go p e below _ (T46.setTop (mkF m 79 #[.val (.int p1), .val (.ref b2), .val (.int (2 : Int32)), .val (.ref w_SUCCEEDED), .val (.int (1 : Int32)), .val (.int (1 : Int32)), .unset] [(.ref w_SUCCEEDED)]))
    obtain ⟨cq47, kq47, q47a, q47b, q47c⟩ := isOf hZ eq46 f_44
    obtain ⟨_, _, ⟨T47, L47, k47, n47⟩, -, X47, ⟨Lc47, hQ47, l47, y47, z47⟩, st47⟩ := X46.virtualBack hx (y := (⟨"com/example/charge_ledger/chargeledger/model/PaymentStatus", "getStage", "()I"⟩ : MethodName)) (z := (⟨"com/example/charge_ledger/chargeledger/model/PaymentStatus", "getStage", "()I"⟩ : MethodName)) hown (mvT hZ (hw _ (List.mem_of_getElem? (i := 22) rfl))) (mvT hZ (hw _ (List.mem_of_getElem? (i := 23) rfl))) (notFace_of_selects (args := #[]) (mvT hZ (hw _ (List.mem_of_getElem? (i := 25) rfl)))) (mvT hZ (hw _ (List.mem_of_getElem? (i := 25) rfl))) (mvT hZ (hw _ (List.mem_of_getElem? (i := 24) rfl))) (by decide) (backOf (W := 0) (rm2_o l Z a0 hw [] w_SUCCEEDED (5 : Int32) h27 n0 (Nat.le_trans Z0 K27.1) f_45) hZ (hw _ (List.mem_of_getElem? (i := 26) rfl)) (hw _ (List.mem_of_getElem? (i := 3) rfl)) (by decide) (by decide)) q47a q47c (g := (mkF m 79 #[.val (.int p1), .val (.ref b2), .val (.int (2 : Int32)), .val (.ref w_SUCCEEDED), .val (.int (1 : Int32)), .val (.int (1 : Int32)), .unset] [(.ref w_SUCCEEDED)])) rfl (by rw [hml]; rfl) (Steps.refl _) (argsL := []) (rest := []) (lenOf pd_1 rfl) rfl (by show 2 * 0 + _ ≤ _; exact Nat.le_of_eq rfl) (hb hby at_79) (fun _ _ => ⟨rfl, eq46, (by decide : 1 + 0 ≤ _), (by decide : 5 + 0 ≤ _)⟩)
    dsimp only [Pt.U, Pt.locs, Pt.cells, Pt.slots] at X47 l47 y47 z47 st47 hQ47
    subst l47 y47 z47
    obtain ⟨rfl, N47q, eq47⟩ := hQ47
    have N47 := Fr.app N46 N47q
    refine Go.tr st47 ?_
    show Go p e below _ (T47.setTop (mkF m 82 #[.val (.int p1), .val (.ref b2), .val (.int (2 : Int32)), .val (.ref w_SUCCEEDED), .val (.int (1 : Int32)), .val (.int (1 : Int32)), .unset] [(.int (5 : Int32))]))
    refine Go.st (fun _ kk => XS.istore X47.here hx rfl (hb hby at_82) rfl (l' := #[.val (.int p1), .val (.ref b2), .val (.int (2 : Int32)), .val (.ref w_SUCCEEDED), .val (.int (1 : Int32)), .val (.int (1 : Int32)), .val (.int (5 : Int32))]) rfl kk) ?_
    show Go p e below _ (T47.setTop (mkF m 84 #[.val (.int p1), .val (.ref b2), .val (.int (2 : Int32)), .val (.ref w_SUCCEEDED), .val (.int (1 : Int32)), .val (.int (1 : Int32)), .val (.int (5 : Int32))] []))
    refine Go.st (fun _ kk => XS.iload X47.here hx rfl (hb hby at_84) rfl  kk) ?_
    show Go p e below _ (T47.setTop (mkF m 86 #[.val (.int p1), .val (.ref b2), .val (.int (2 : Int32)), .val (.ref w_SUCCEEDED), .val (.int (1 : Int32)), .val (.int (1 : Int32)), .val (.int (5 : Int32))] [(.int (1 : Int32))]))
    refine Go.st (fun _ kk => XS.ifNo X47.here hx rfl (hb hby at_86) rfl ((if0 _ _).trans (feq (by decide : ¬ ((1 : Int32) = (0 : Int32)))).1) kk) ?_
    show Go p e below _ (T47.setTop (mkF m 89 #[.val (.int p1), .val (.ref b2), .val (.int (2 : Int32)), .val (.ref w_SUCCEEDED), .val (.int (1 : Int32)), .val (.int (1 : Int32)), .val (.int (5 : Int32))] []))
    refine Go.st (fun _ kk => XS.iload X47.here hx rfl (hb hby at_89) rfl  kk) ?_
    show Go p e below _ (T47.setTop (mkF m 91 #[.val (.int p1), .val (.ref b2), .val (.int (2 : Int32)), .val (.ref w_SUCCEEDED), .val (.int (1 : Int32)), .val (.int (1 : Int32)), .val (.int (5 : Int32))] [(.int (5 : Int32))]))
    refine Go.st (fun _ kk => XS.iconst X47.here hx rfl (hb hby at_91) kk) ?_
    show Go p e below _ (T47.setTop (mkF m 92 #[.val (.int p1), .val (.ref b2), .val (.int (2 : Int32)), .val (.ref w_SUCCEEDED), .val (.int (1 : Int32)), .val (.int (1 : Int32)), .val (.int (5 : Int32))] [(.int (5 : Int32)), (.int (5 : Int32))]))
    refine Go.st (fun _ kk => XS.icmpNo X47.here hx rfl (hb hby at_92) rfl (teq (by decide : ((5 : Int32) = (5 : Int32)))).2 kk) ?_
    show Go p e below _ (T47.setTop (mkF m 95 #[.val (.int p1), .val (.ref b2), .val (.int (2 : Int32)), .val (.ref w_SUCCEEDED), .val (.int (1 : Int32)), .val (.int (1 : Int32)), .val (.int (5 : Int32))] []))
    refine Go.st (fun _ kk => XS.iconst X47.here hx rfl (hb hby at_95) kk) ?_
    show Go p e below _ (T47.setTop (mkF m 96 #[.val (.int p1), .val (.ref b2), .val (.int (2 : Int32)), .val (.ref w_SUCCEEDED), .val (.int (1 : Int32)), .val (.int (1 : Int32)), .val (.int (5 : Int32))] [(.int (1 : Int32))]))
    refine Go.st (fun _ kk => XS.goto X47.here hx rfl (pc0 := 96) (pc' := 100) rfl (hb hby at_96) (by decide) (by decide) kk) ?_
    show Go p e below _ (T47.setTop (mkF m 100 #[.val (.int p1), .val (.ref b2), .val (.int (2 : Int32)), .val (.ref w_SUCCEEDED), .val (.int (1 : Int32)), .val (.int (1 : Int32)), .val (.int (5 : Int32))] [(.int (1 : Int32))]))
    exact Go.ret (Q := Q0 n0) X47 (v := some (.int (1 : Int32))) (fun h => by rw [Bd.returns] at h; cases h) Bd.notSynchronized (fun fs hr => retN X47 hx (t := .boolean) Bd.returns (by simp) (hb hby at_100) hr) eq47 ⟨rfl, N47⟩ (by decide) (by decide)
  · skip
    rw [hk31]
    show Go p e below _ (T27.setTop (mkF m 41 #[.val (.int p1), .val (.ref b2), .unset, .unset, .unset, .unset, .unset] [(.int (3 : Int32))]))
    refine Go.st (fun _ kk => XS.istoreN X27.here hx rfl (hb hby at_41) rfl (l' := #[.val (.int p1), .val (.ref b2), .val (.int (3 : Int32)), .unset, .unset, .unset, .unset]) rfl kk) ?_
    show Go p e below _ (T27.setTop (mkF m 42 #[.val (.int p1), .val (.ref b2), .val (.int (3 : Int32)), .unset, .unset, .unset, .unset] []))
    refine Go.st (fun _ kk => XS.aloadN X27.here hx rfl (hb hby at_42) rfl rfl  kk) ?_
    show Go p e below _ (T27.setTop (mkF m 43 #[.val (.int p1), .val (.ref b2), .val (.int (3 : Int32)), .unset, .unset, .unset, .unset] [(.ref b2)]))
    refine Go.st (fun _ kk => XS.iloadN X27.here hx rfl (hb hby at_43) rfl  kk) ?_
    show Go p e below _ (T27.setTop (mkF m 44 #[.val (.int p1), .val (.ref b2), .val (.int (3 : Int32)), .unset, .unset, .unset, .unset] [(.int (3 : Int32)), (.ref b2)]))
    obtain ⟨clq48, Arq48, caq48, saq48, naq48, haq48, gaq48⟩ := V27
    have inq48 : ¬ ((3 : Int32) < 0 ∨ clq48.slots.size ≤ ((3 : Int32)).toNatClampNeg) := inb_of saq48 ⟨by decide, by decide⟩
    have atq48 : clq48.slots[((3 : Int32)).toNatClampNeg]? = some (.ref w_FAILED) := haq48.at inq48 rfl
    refine Go.st (fun _ kk => X27.aaload hx (j := (3 : Int32)) (v := (.ref w_FAILED)) (by rw [e27]; exact Arq48.1) (State.isArrayOf_alike hZ.alike Arq48.2.1) rfl Arq48.2.2 inq48 atq48 (g := (mkF m 44 #[.val (.int p1), .val (.ref b2), .val (.int (3 : Int32)), .unset, .unset, .unset, .unset] [(.int (3 : Int32)), (.ref b2)])) rfl rfl (hb hby at_44) _ kk) ?_
    show Go p e below _ (T27.setTop (mkF m 45 #[.val (.int p1), .val (.ref b2), .val (.int (3 : Int32)), .unset, .unset, .unset, .unset] [(.ref w_FAILED)]))
    refine Go.st (fun _ kk => XS.astoreN X27.here hx rfl (hb hby at_45) rfl rfl (l' := #[.val (.int p1), .val (.ref b2), .val (.int (3 : Int32)), .val (.ref w_FAILED), .unset, .unset, .unset]) rfl kk) ?_
    show Go p e below _ (T27.setTop (mkF m 46 #[.val (.int p1), .val (.ref b2), .val (.int (3 : Int32)), .val (.ref w_FAILED), .unset, .unset, .unset] []))
    refine Go.st (fun _ kk => XS.iloadN X27.here hx rfl (hb hby at_46) rfl  kk) ?_
    show Go p e below _ (T27.setTop (mkF m 47 #[.val (.int p1), .val (.ref b2), .val (.int (3 : Int32)), .val (.ref w_FAILED), .unset, .unset, .unset] [(.int (3 : Int32))]))
    refine Go.st (fun _ kk => XS.iconst X27.here hx rfl (hb hby at_47) kk) ?_
    show Go p e below _ (T27.setTop (mkF m 48 #[.val (.int p1), .val (.ref b2), .val (.int (3 : Int32)), .val (.ref w_FAILED), .unset, .unset, .unset] [(.int (2 : Int32)), (.int (3 : Int32))]))
    refine Go.st (fun _ kk => XS.icmpNo X27.here hx rfl (hb hby at_48) rfl (feq (by decide : ¬ ((3 : Int32) = (2 : Int32)))).1 kk) ?_
    show Go p e below _ (T27.setTop (mkF m 51 #[.val (.int p1), .val (.ref b2), .val (.int (3 : Int32)), .val (.ref w_FAILED), .unset, .unset, .unset] []))
    refine Go.st (fun _ kk => XS.iloadN X27.here hx rfl (hb hby at_51) rfl  kk) ?_
    show Go p e below _ (T27.setTop (mkF m 52 #[.val (.int p1), .val (.ref b2), .val (.int (3 : Int32)), .val (.ref w_FAILED), .unset, .unset, .unset] [(.int (3 : Int32))]))
    refine Go.st (fun _ kk => XS.iconst X27.here hx rfl (hb hby at_52) kk) ?_
    show Go p e below _ (T27.setTop (mkF m 53 #[.val (.int p1), .val (.ref b2), .val (.int (3 : Int32)), .val (.ref w_FAILED), .unset, .unset, .unset] [(.int (4 : Int32)), (.int (3 : Int32))]))
    refine Go.st (fun _ kk => XS.icmpYes X27.here hx rfl (pc0 := 53) (pc' := 60) rfl (hb hby at_53) rfl (feq (by decide : ¬ ((3 : Int32) = (4 : Int32)))).2 (by decide) (by decide) kk) ?_
    show Go p e below _ (T27.setTop (mkF m 60 #[.val (.int p1), .val (.ref b2), .val (.int (3 : Int32)), .val (.ref w_FAILED), .unset, .unset, .unset] []))
    refine Go.st (fun _ kk => XS.iconst X27.here hx rfl (hb hby at_60) kk) ?_
    show Go p e below _ (T27.setTop (mkF m 61 #[.val (.int p1), .val (.ref b2), .val (.int (3 : Int32)), .val (.ref w_FAILED), .unset, .unset, .unset] [(.int (0 : Int32))]))
    refine Go.st (fun _ kk => XS.istore X27.here hx rfl (hb hby at_61) rfl (l' := #[.val (.int p1), .val (.ref b2), .val (.int (3 : Int32)), .val (.ref w_FAILED), .val (.int (0 : Int32)), .unset, .unset]) rfl kk) ?_
    show Go p e below _ (T27.setTop (mkF m 63 #[.val (.int p1), .val (.ref b2), .val (.int (3 : Int32)), .val (.ref w_FAILED), .val (.int (0 : Int32)), .unset, .unset] []))
    refine Go.st (fun _ kk => XS.aloadN X27.here hx rfl (hb hby at_63) rfl rfl  kk) ?_
    show Go p e below _ (T27.setTop (mkF m 64 #[.val (.int p1), .val (.ref b2), .val (.int (3 : Int32)), .val (.ref w_FAILED), .val (.int (0 : Int32)), .unset, .unset] [(.ref w_FAILED)]))
    have f_49 := (Exa.wr W27 (Exa.wr W22 f_21))
    have f_50 := (F_stage_w_FAILED.keep K27 nin0)
    obtain ⟨cq51, kq51, q51a, q51b, q51c⟩ := isOf hZ e27 f_49
    obtain ⟨_, _, ⟨T51, L51, k51, n51⟩, -, X51, ⟨Lc51, hQ51, l51, y51, z51⟩, st51⟩ := X27.virtualBack hx (y := (⟨"com/example/charge_ledger/chargeledger/model/PaymentStatus", "hasEnded", "()Z"⟩ : MethodName)) (z := (⟨"com/example/charge_ledger/chargeledger/model/PaymentStatus", "hasEnded", "()Z"⟩ : MethodName)) hown (mvT hZ (hw _ (List.mem_of_getElem? (i := 15) rfl))) (mvT hZ (hw _ (List.mem_of_getElem? (i := 16) rfl))) (notFace_of_selects (args := #[]) (mvT hZ (hw _ (List.mem_of_getElem? (i := 18) rfl)))) (mvT hZ (hw _ (List.mem_of_getElem? (i := 18) rfl))) (mvT hZ (hw _ (List.mem_of_getElem? (i := 17) rfl))) (by decide) (backOf (W := 0) (rm1_f l Z a0 hw [] w_FAILED (0 : Int32) h27 n0 (Nat.le_trans Z0 K27.1) f_50 (by decide : ¬ ((0 : Int32) = (5 : Int32)))) hZ (hw _ (List.mem_of_getElem? (i := 19) rfl)) (hw _ (List.mem_of_getElem? (i := 3) rfl)) (by decide) (by decide)) q51a q51c (g := (mkF m 64 #[.val (.int p1), .val (.ref b2), .val (.int (3 : Int32)), .val (.ref w_FAILED), .val (.int (0 : Int32)), .unset, .unset] [(.ref w_FAILED)])) rfl (by rw [hml]; rfl) (Steps.refl _) (argsL := []) (rest := []) (lenOf pd_0 rfl) rfl (by show 2 * 0 + _ ≤ _; exact Nat.le_of_eq rfl) (hb hby at_64) (fun _ _ => ⟨rfl, e27, (by decide : 1 + 0 ≤ _), (by decide : 5 + 0 ≤ _)⟩)
    dsimp only [Pt.U, Pt.locs, Pt.cells, Pt.slots] at X51 l51 y51 z51 st51 hQ51
    subst l51 y51 z51
    obtain ⟨rfl, N51q, eq51⟩ := hQ51
    have N51 := Fr.app N27 N51q
    refine Go.tr st51 ?_
    show Go p e below _ (T51.setTop (mkF m 67 #[.val (.int p1), .val (.ref b2), .val (.int (3 : Int32)), .val (.ref w_FAILED), .val (.int (0 : Int32)), .unset, .unset] [(.int (0 : Int32))]))
    refine Go.st (fun _ kk => XS.istore X51.here hx rfl (hb hby at_67) rfl (l' := #[.val (.int p1), .val (.ref b2), .val (.int (3 : Int32)), .val (.ref w_FAILED), .val (.int (0 : Int32)), .val (.int (0 : Int32)), .unset]) rfl kk) ?_
    show Go p e below _ (T51.setTop (mkF m 69 #[.val (.int p1), .val (.ref b2), .val (.int (3 : Int32)), .val (.ref w_FAILED), .val (.int (0 : Int32)), .val (.int (0 : Int32)), .unset] []))
    refine Go.st (fun _ kk => XS.iload X51.here hx rfl (hb hby at_69) rfl  kk) ?_
    show Go p e below _ (T51.setTop (mkF m 71 #[.val (.int p1), .val (.ref b2), .val (.int (3 : Int32)), .val (.ref w_FAILED), .val (.int (0 : Int32)), .val (.int (0 : Int32)), .unset] [(.int (0 : Int32))]))
    refine Go.st (fun _ kk => XS.iload X51.here hx rfl (hb hby at_71) rfl  kk) ?_
    show Go p e below _ (T51.setTop (mkF m 73 #[.val (.int p1), .val (.ref b2), .val (.int (3 : Int32)), .val (.ref w_FAILED), .val (.int (0 : Int32)), .val (.int (0 : Int32)), .unset] [(.int (0 : Int32)), (.int (0 : Int32))]))
    refine Go.st (fun _ kk => XS.icmpYes X51.here hx rfl (pc0 := 73) (pc' := 78) rfl (hb hby at_73) rfl (teq (by decide : ((0 : Int32) = (0 : Int32)))).1 (by decide) (by decide) kk) ?_
    show Go p e below _ (T51.setTop (mkF m 78 #[.val (.int p1), .val (.ref b2), .val (.int (3 : Int32)), .val (.ref w_FAILED), .val (.int (0 : Int32)), .val (.int (0 : Int32)), .unset] []))
    refine Go.st (fun _ kk => XS.aloadN X51.here hx rfl (hb hby at_78) rfl rfl  kk) ?_
    show Go p e below _ (T51.setTop (mkF m 79 #[.val (.int p1), .val (.ref b2), .val (.int (3 : Int32)), .val (.ref w_FAILED), .val (.int (0 : Int32)), .val (.int (0 : Int32)), .unset] [(.ref w_FAILED)]))
    obtain ⟨cq52, kq52, q52a, q52b, q52c⟩ := isOf hZ eq51 f_49
    obtain ⟨_, _, ⟨T52, L52, k52, n52⟩, -, X52, ⟨Lc52, hQ52, l52, y52, z52⟩, st52⟩ := X51.virtualBack hx (y := (⟨"com/example/charge_ledger/chargeledger/model/PaymentStatus", "getStage", "()I"⟩ : MethodName)) (z := (⟨"com/example/charge_ledger/chargeledger/model/PaymentStatus", "getStage", "()I"⟩ : MethodName)) hown (mvT hZ (hw _ (List.mem_of_getElem? (i := 22) rfl))) (mvT hZ (hw _ (List.mem_of_getElem? (i := 23) rfl))) (notFace_of_selects (args := #[]) (mvT hZ (hw _ (List.mem_of_getElem? (i := 25) rfl)))) (mvT hZ (hw _ (List.mem_of_getElem? (i := 25) rfl))) (mvT hZ (hw _ (List.mem_of_getElem? (i := 24) rfl))) (by decide) (backOf (W := 0) (rm2_o l Z a0 hw [] w_FAILED (0 : Int32) h27 n0 (Nat.le_trans Z0 K27.1) f_50) hZ (hw _ (List.mem_of_getElem? (i := 26) rfl)) (hw _ (List.mem_of_getElem? (i := 3) rfl)) (by decide) (by decide)) q52a q52c (g := (mkF m 79 #[.val (.int p1), .val (.ref b2), .val (.int (3 : Int32)), .val (.ref w_FAILED), .val (.int (0 : Int32)), .val (.int (0 : Int32)), .unset] [(.ref w_FAILED)])) rfl (by rw [hml]; rfl) (Steps.refl _) (argsL := []) (rest := []) (lenOf pd_1 rfl) rfl (by show 2 * 0 + _ ≤ _; exact Nat.le_of_eq rfl) (hb hby at_79) (fun _ _ => ⟨rfl, eq51, (by decide : 1 + 0 ≤ _), (by decide : 5 + 0 ≤ _)⟩)
    dsimp only [Pt.U, Pt.locs, Pt.cells, Pt.slots] at X52 l52 y52 z52 st52 hQ52
    subst l52 y52 z52
    obtain ⟨rfl, N52q, eq52⟩ := hQ52
    have N52 := Fr.app N51 N52q
    refine Go.tr st52 ?_
    show Go p e below _ (T52.setTop (mkF m 82 #[.val (.int p1), .val (.ref b2), .val (.int (3 : Int32)), .val (.ref w_FAILED), .val (.int (0 : Int32)), .val (.int (0 : Int32)), .unset] [(.int (0 : Int32))]))
    refine Go.st (fun _ kk => XS.istore X52.here hx rfl (hb hby at_82) rfl (l' := #[.val (.int p1), .val (.ref b2), .val (.int (3 : Int32)), .val (.ref w_FAILED), .val (.int (0 : Int32)), .val (.int (0 : Int32)), .val (.int (0 : Int32))]) rfl kk) ?_
    show Go p e below _ (T52.setTop (mkF m 84 #[.val (.int p1), .val (.ref b2), .val (.int (3 : Int32)), .val (.ref w_FAILED), .val (.int (0 : Int32)), .val (.int (0 : Int32)), .val (.int (0 : Int32))] []))
    refine Go.st (fun _ kk => XS.iload X52.here hx rfl (hb hby at_84) rfl  kk) ?_
    show Go p e below _ (T52.setTop (mkF m 86 #[.val (.int p1), .val (.ref b2), .val (.int (3 : Int32)), .val (.ref w_FAILED), .val (.int (0 : Int32)), .val (.int (0 : Int32)), .val (.int (0 : Int32))] [(.int (0 : Int32))]))
    refine Go.st (fun _ kk => XS.ifYes X52.here hx rfl (pc0 := 86) (pc' := 101) rfl (hb hby at_86) rfl ((if0 _ _).trans (teq (by decide : ((0 : Int32) = (0 : Int32)))).1) (by decide) (by decide) kk) ?_
    show Go p e below _ (T52.setTop (mkF m 101 #[.val (.int p1), .val (.ref b2), .val (.int (3 : Int32)), .val (.ref w_FAILED), .val (.int (0 : Int32)), .val (.int (0 : Int32)), .val (.int (0 : Int32))] []))
    refine Go.st (fun _ kk => XS.iload X52.here hx rfl (hb hby at_101) rfl  kk) ?_
    show Go p e below _ (T52.setTop (mkF m 103 #[.val (.int p1), .val (.ref b2), .val (.int (3 : Int32)), .val (.ref w_FAILED), .val (.int (0 : Int32)), .val (.int (0 : Int32)), .val (.int (0 : Int32))] [(.int (0 : Int32))]))
    refine Go.st (fun _ kk => XS.iconst X52.here hx rfl (hb hby at_103) kk) ?_
    show Go p e below _ (T52.setTop (mkF m 104 #[.val (.int p1), .val (.ref b2), .val (.int (3 : Int32)), .val (.ref w_FAILED), .val (.int (0 : Int32)), .val (.int (0 : Int32)), .val (.int (0 : Int32))] [(.int (5 : Int32)), (.int (0 : Int32))]))
    refine Go.st (fun _ kk => XS.icmpNo X52.here hx rfl (hb hby at_104) rfl (tlt (by decide : ((0 : Int32) < (5 : Int32)))).2.1 kk) ?_
    show Go p e below _ (T52.setTop (mkF m 107 #[.val (.int p1), .val (.ref b2), .val (.int (3 : Int32)), .val (.ref w_FAILED), .val (.int (0 : Int32)), .val (.int (0 : Int32)), .val (.int (0 : Int32))] []))
    refine Go.st (fun _ kk => XS.iconst X52.here hx rfl (hb hby at_107) kk) ?_
    show Go p e below _ (T52.setTop (mkF m 108 #[.val (.int p1), .val (.ref b2), .val (.int (3 : Int32)), .val (.ref w_FAILED), .val (.int (0 : Int32)), .val (.int (0 : Int32)), .val (.int (0 : Int32))] [(.int (1 : Int32))]))
    refine Go.st (fun _ kk => XS.goto X52.here hx rfl (pc0 := 108) (pc' := 112) rfl (hb hby at_108) (by decide) (by decide) kk) ?_
    show Go p e below _ (T52.setTop (mkF m 112 #[.val (.int p1), .val (.ref b2), .val (.int (3 : Int32)), .val (.ref w_FAILED), .val (.int (0 : Int32)), .val (.int (0 : Int32)), .val (.int (0 : Int32))] [(.int (1 : Int32))]))
    exact Go.ret (Q := Q0 n0) X52 (v := some (.int (1 : Int32))) (fun h => by rw [Bd.returns] at h; cases h) Bd.notSynchronized (fun fs hr => retN X52 hx (t := .boolean) Bd.returns (by simp) (hb hby at_112) hr) eq52 ⟨rfl, N52⟩ (by decide) (by decide)
  · skip
    rw [hk32]
    show Go p e below _ (T27.setTop (mkF m 41 #[.val (.int p1), .val (.ref b2), .unset, .unset, .unset, .unset, .unset] [(.int (4 : Int32))]))
    refine Go.st (fun _ kk => XS.istoreN X27.here hx rfl (hb hby at_41) rfl (l' := #[.val (.int p1), .val (.ref b2), .val (.int (4 : Int32)), .unset, .unset, .unset, .unset]) rfl kk) ?_
    show Go p e below _ (T27.setTop (mkF m 42 #[.val (.int p1), .val (.ref b2), .val (.int (4 : Int32)), .unset, .unset, .unset, .unset] []))
    refine Go.st (fun _ kk => XS.aloadN X27.here hx rfl (hb hby at_42) rfl rfl  kk) ?_
    show Go p e below _ (T27.setTop (mkF m 43 #[.val (.int p1), .val (.ref b2), .val (.int (4 : Int32)), .unset, .unset, .unset, .unset] [(.ref b2)]))
    refine Go.st (fun _ kk => XS.iloadN X27.here hx rfl (hb hby at_43) rfl  kk) ?_
    show Go p e below _ (T27.setTop (mkF m 44 #[.val (.int p1), .val (.ref b2), .val (.int (4 : Int32)), .unset, .unset, .unset, .unset] [(.int (4 : Int32)), (.ref b2)]))
    obtain ⟨clq53, Arq53, caq53, saq53, naq53, haq53, gaq53⟩ := V27
    have inq53 : ¬ ((4 : Int32) < 0 ∨ clq53.slots.size ≤ ((4 : Int32)).toNatClampNeg) := inb_of saq53 ⟨by decide, by decide⟩
    have atq53 : clq53.slots[((4 : Int32)).toNatClampNeg]? = some (.ref w_CANCELED) := haq53.at inq53 rfl
    refine Go.st (fun _ kk => X27.aaload hx (j := (4 : Int32)) (v := (.ref w_CANCELED)) (by rw [e27]; exact Arq53.1) (State.isArrayOf_alike hZ.alike Arq53.2.1) rfl Arq53.2.2 inq53 atq53 (g := (mkF m 44 #[.val (.int p1), .val (.ref b2), .val (.int (4 : Int32)), .unset, .unset, .unset, .unset] [(.int (4 : Int32)), (.ref b2)])) rfl rfl (hb hby at_44) _ kk) ?_
    show Go p e below _ (T27.setTop (mkF m 45 #[.val (.int p1), .val (.ref b2), .val (.int (4 : Int32)), .unset, .unset, .unset, .unset] [(.ref w_CANCELED)]))
    refine Go.st (fun _ kk => XS.astoreN X27.here hx rfl (hb hby at_45) rfl rfl (l' := #[.val (.int p1), .val (.ref b2), .val (.int (4 : Int32)), .val (.ref w_CANCELED), .unset, .unset, .unset]) rfl kk) ?_
    show Go p e below _ (T27.setTop (mkF m 46 #[.val (.int p1), .val (.ref b2), .val (.int (4 : Int32)), .val (.ref w_CANCELED), .unset, .unset, .unset] []))
    refine Go.st (fun _ kk => XS.iloadN X27.here hx rfl (hb hby at_46) rfl  kk) ?_
    show Go p e below _ (T27.setTop (mkF m 47 #[.val (.int p1), .val (.ref b2), .val (.int (4 : Int32)), .val (.ref w_CANCELED), .unset, .unset, .unset] [(.int (4 : Int32))]))
    refine Go.st (fun _ kk => XS.iconst X27.here hx rfl (hb hby at_47) kk) ?_
    show Go p e below _ (T27.setTop (mkF m 48 #[.val (.int p1), .val (.ref b2), .val (.int (4 : Int32)), .val (.ref w_CANCELED), .unset, .unset, .unset] [(.int (2 : Int32)), (.int (4 : Int32))]))
    refine Go.st (fun _ kk => XS.icmpNo X27.here hx rfl (hb hby at_48) rfl (feq (by decide : ¬ ((4 : Int32) = (2 : Int32)))).1 kk) ?_
    show Go p e below _ (T27.setTop (mkF m 51 #[.val (.int p1), .val (.ref b2), .val (.int (4 : Int32)), .val (.ref w_CANCELED), .unset, .unset, .unset] []))
    refine Go.st (fun _ kk => XS.iloadN X27.here hx rfl (hb hby at_51) rfl  kk) ?_
    show Go p e below _ (T27.setTop (mkF m 52 #[.val (.int p1), .val (.ref b2), .val (.int (4 : Int32)), .val (.ref w_CANCELED), .unset, .unset, .unset] [(.int (4 : Int32))]))
    refine Go.st (fun _ kk => XS.iconst X27.here hx rfl (hb hby at_52) kk) ?_
    show Go p e below _ (T27.setTop (mkF m 53 #[.val (.int p1), .val (.ref b2), .val (.int (4 : Int32)), .val (.ref w_CANCELED), .unset, .unset, .unset] [(.int (4 : Int32)), (.int (4 : Int32))]))
    refine Go.st (fun _ kk => XS.icmpNo X27.here hx rfl (hb hby at_53) rfl (teq (by decide : ((4 : Int32) = (4 : Int32)))).2 kk) ?_
    show Go p e below _ (T27.setTop (mkF m 56 #[.val (.int p1), .val (.ref b2), .val (.int (4 : Int32)), .val (.ref w_CANCELED), .unset, .unset, .unset] []))
    refine Go.st (fun _ kk => XS.iconst X27.here hx rfl (hb hby at_56) kk) ?_
    show Go p e below _ (T27.setTop (mkF m 57 #[.val (.int p1), .val (.ref b2), .val (.int (4 : Int32)), .val (.ref w_CANCELED), .unset, .unset, .unset] [(.int (1 : Int32))]))
    refine Go.st (fun _ kk => XS.goto X27.here hx rfl (pc0 := 57) (pc' := 61) rfl (hb hby at_57) (by decide) (by decide) kk) ?_
    show Go p e below _ (T27.setTop (mkF m 61 #[.val (.int p1), .val (.ref b2), .val (.int (4 : Int32)), .val (.ref w_CANCELED), .unset, .unset, .unset] [(.int (1 : Int32))]))
    refine Go.st (fun _ kk => XS.istore X27.here hx rfl (hb hby at_61) rfl (l' := #[.val (.int p1), .val (.ref b2), .val (.int (4 : Int32)), .val (.ref w_CANCELED), .val (.int (1 : Int32)), .unset, .unset]) rfl kk) ?_
    show Go p e below _ (T27.setTop (mkF m 63 #[.val (.int p1), .val (.ref b2), .val (.int (4 : Int32)), .val (.ref w_CANCELED), .val (.int (1 : Int32)), .unset, .unset] []))
    refine Go.st (fun _ kk => XS.aloadN X27.here hx rfl (hb hby at_63) rfl rfl  kk) ?_
    show Go p e below _ (T27.setTop (mkF m 64 #[.val (.int p1), .val (.ref b2), .val (.int (4 : Int32)), .val (.ref w_CANCELED), .val (.int (1 : Int32)), .unset, .unset] [(.ref w_CANCELED)]))
    have f_54 := (Exa.wr W27 f_26)
    have f_55 := (F_stage_w_CANCELED.keep K27 nin0)
    obtain ⟨cq56, kq56, q56a, q56b, q56c⟩ := isOf hZ e27 f_54
    obtain ⟨_, _, ⟨T56, L56, k56, n56⟩, -, X56, ⟨Lc56, hQ56, l56, y56, z56⟩, st56⟩ := X27.virtualBack hx (y := (⟨"com/example/charge_ledger/chargeledger/model/PaymentStatus", "hasEnded", "()Z"⟩ : MethodName)) (z := (⟨"com/example/charge_ledger/chargeledger/model/PaymentStatus", "hasEnded", "()Z"⟩ : MethodName)) hown (mvT hZ (hw _ (List.mem_of_getElem? (i := 15) rfl))) (mvT hZ (hw _ (List.mem_of_getElem? (i := 16) rfl))) (notFace_of_selects (args := #[]) (mvT hZ (hw _ (List.mem_of_getElem? (i := 18) rfl)))) (mvT hZ (hw _ (List.mem_of_getElem? (i := 18) rfl))) (mvT hZ (hw _ (List.mem_of_getElem? (i := 17) rfl))) (by decide) (backOf (W := 0) (rm1_t l Z a0 hw [] w_CANCELED (5 : Int32) h27 n0 (Nat.le_trans Z0 K27.1) f_55 (by decide : ((5 : Int32) = (5 : Int32)))) hZ (hw _ (List.mem_of_getElem? (i := 19) rfl)) (hw _ (List.mem_of_getElem? (i := 3) rfl)) (by decide) (by decide)) q56a q56c (g := (mkF m 64 #[.val (.int p1), .val (.ref b2), .val (.int (4 : Int32)), .val (.ref w_CANCELED), .val (.int (1 : Int32)), .unset, .unset] [(.ref w_CANCELED)])) rfl (by rw [hml]; rfl) (Steps.refl _) (argsL := []) (rest := []) (lenOf pd_0 rfl) rfl (by show 2 * 0 + _ ≤ _; exact Nat.le_of_eq rfl) (hb hby at_64) (fun _ _ => ⟨rfl, e27, (by decide : 1 + 0 ≤ _), (by decide : 5 + 0 ≤ _)⟩)
    dsimp only [Pt.U, Pt.locs, Pt.cells, Pt.slots] at X56 l56 y56 z56 st56 hQ56
    subst l56 y56 z56
    obtain ⟨rfl, N56q, eq56⟩ := hQ56
    have N56 := Fr.app N27 N56q
    refine Go.tr st56 ?_
    show Go p e below _ (T56.setTop (mkF m 67 #[.val (.int p1), .val (.ref b2), .val (.int (4 : Int32)), .val (.ref w_CANCELED), .val (.int (1 : Int32)), .unset, .unset] [(.int (1 : Int32))]))
    refine Go.st (fun _ kk => XS.istore X56.here hx rfl (hb hby at_67) rfl (l' := #[.val (.int p1), .val (.ref b2), .val (.int (4 : Int32)), .val (.ref w_CANCELED), .val (.int (1 : Int32)), .val (.int (1 : Int32)), .unset]) rfl kk) ?_
    show Go p e below _ (T56.setTop (mkF m 69 #[.val (.int p1), .val (.ref b2), .val (.int (4 : Int32)), .val (.ref w_CANCELED), .val (.int (1 : Int32)), .val (.int (1 : Int32)), .unset] []))
    refine Go.st (fun _ kk => XS.iload X56.here hx rfl (hb hby at_69) rfl  kk) ?_
    show Go p e below _ (T56.setTop (mkF m 71 #[.val (.int p1), .val (.ref b2), .val (.int (4 : Int32)), .val (.ref w_CANCELED), .val (.int (1 : Int32)), .val (.int (1 : Int32)), .unset] [(.int (1 : Int32))]))
    refine Go.st (fun _ kk => XS.iload X56.here hx rfl (hb hby at_71) rfl  kk) ?_
    show Go p e below _ (T56.setTop (mkF m 73 #[.val (.int p1), .val (.ref b2), .val (.int (4 : Int32)), .val (.ref w_CANCELED), .val (.int (1 : Int32)), .val (.int (1 : Int32)), .unset] [(.int (1 : Int32)), (.int (1 : Int32))]))
    refine Go.st (fun _ kk => XS.icmpYes X56.here hx rfl (pc0 := 73) (pc' := 78) rfl (hb hby at_73) rfl (teq (by decide : ((1 : Int32) = (1 : Int32)))).1 (by decide) (by decide) kk) ?_
    show Go p e below _ (T56.setTop (mkF m 78 #[.val (.int p1), .val (.ref b2), .val (.int (4 : Int32)), .val (.ref w_CANCELED), .val (.int (1 : Int32)), .val (.int (1 : Int32)), .unset] []))
    refine Go.st (fun _ kk => XS.aloadN X56.here hx rfl (hb hby at_78) rfl rfl  kk) ?_
    show Go p e below _ (T56.setTop (mkF m 79 #[.val (.int p1), .val (.ref b2), .val (.int (4 : Int32)), .val (.ref w_CANCELED), .val (.int (1 : Int32)), .val (.int (1 : Int32)), .unset] [(.ref w_CANCELED)]))
    obtain ⟨cq57, kq57, q57a, q57b, q57c⟩ := isOf hZ eq56 f_54
    obtain ⟨_, _, ⟨T57, L57, k57, n57⟩, -, X57, ⟨Lc57, hQ57, l57, y57, z57⟩, st57⟩ := X56.virtualBack hx (y := (⟨"com/example/charge_ledger/chargeledger/model/PaymentStatus", "getStage", "()I"⟩ : MethodName)) (z := (⟨"com/example/charge_ledger/chargeledger/model/PaymentStatus", "getStage", "()I"⟩ : MethodName)) hown (mvT hZ (hw _ (List.mem_of_getElem? (i := 22) rfl))) (mvT hZ (hw _ (List.mem_of_getElem? (i := 23) rfl))) (notFace_of_selects (args := #[]) (mvT hZ (hw _ (List.mem_of_getElem? (i := 25) rfl)))) (mvT hZ (hw _ (List.mem_of_getElem? (i := 25) rfl))) (mvT hZ (hw _ (List.mem_of_getElem? (i := 24) rfl))) (by decide) (backOf (W := 0) (rm2_o l Z a0 hw [] w_CANCELED (5 : Int32) h27 n0 (Nat.le_trans Z0 K27.1) f_55) hZ (hw _ (List.mem_of_getElem? (i := 26) rfl)) (hw _ (List.mem_of_getElem? (i := 3) rfl)) (by decide) (by decide)) q57a q57c (g := (mkF m 79 #[.val (.int p1), .val (.ref b2), .val (.int (4 : Int32)), .val (.ref w_CANCELED), .val (.int (1 : Int32)), .val (.int (1 : Int32)), .unset] [(.ref w_CANCELED)])) rfl (by rw [hml]; rfl) (Steps.refl _) (argsL := []) (rest := []) (lenOf pd_1 rfl) rfl (by show 2 * 0 + _ ≤ _; exact Nat.le_of_eq rfl) (hb hby at_79) (fun _ _ => ⟨rfl, eq56, (by decide : 1 + 0 ≤ _), (by decide : 5 + 0 ≤ _)⟩)
    dsimp only [Pt.U, Pt.locs, Pt.cells, Pt.slots] at X57 l57 y57 z57 st57 hQ57
    subst l57 y57 z57
    obtain ⟨rfl, N57q, eq57⟩ := hQ57
    have N57 := Fr.app N56 N57q
    refine Go.tr st57 ?_
    show Go p e below _ (T57.setTop (mkF m 82 #[.val (.int p1), .val (.ref b2), .val (.int (4 : Int32)), .val (.ref w_CANCELED), .val (.int (1 : Int32)), .val (.int (1 : Int32)), .unset] [(.int (5 : Int32))]))
    refine Go.st (fun _ kk => XS.istore X57.here hx rfl (hb hby at_82) rfl (l' := #[.val (.int p1), .val (.ref b2), .val (.int (4 : Int32)), .val (.ref w_CANCELED), .val (.int (1 : Int32)), .val (.int (1 : Int32)), .val (.int (5 : Int32))]) rfl kk) ?_
    show Go p e below _ (T57.setTop (mkF m 84 #[.val (.int p1), .val (.ref b2), .val (.int (4 : Int32)), .val (.ref w_CANCELED), .val (.int (1 : Int32)), .val (.int (1 : Int32)), .val (.int (5 : Int32))] []))
    refine Go.st (fun _ kk => XS.iload X57.here hx rfl (hb hby at_84) rfl  kk) ?_
    show Go p e below _ (T57.setTop (mkF m 86 #[.val (.int p1), .val (.ref b2), .val (.int (4 : Int32)), .val (.ref w_CANCELED), .val (.int (1 : Int32)), .val (.int (1 : Int32)), .val (.int (5 : Int32))] [(.int (1 : Int32))]))
    refine Go.st (fun _ kk => XS.ifNo X57.here hx rfl (hb hby at_86) rfl ((if0 _ _).trans (feq (by decide : ¬ ((1 : Int32) = (0 : Int32)))).1) kk) ?_
    show Go p e below _ (T57.setTop (mkF m 89 #[.val (.int p1), .val (.ref b2), .val (.int (4 : Int32)), .val (.ref w_CANCELED), .val (.int (1 : Int32)), .val (.int (1 : Int32)), .val (.int (5 : Int32))] []))
    refine Go.st (fun _ kk => XS.iload X57.here hx rfl (hb hby at_89) rfl  kk) ?_
    show Go p e below _ (T57.setTop (mkF m 91 #[.val (.int p1), .val (.ref b2), .val (.int (4 : Int32)), .val (.ref w_CANCELED), .val (.int (1 : Int32)), .val (.int (1 : Int32)), .val (.int (5 : Int32))] [(.int (5 : Int32))]))
    refine Go.st (fun _ kk => XS.iconst X57.here hx rfl (hb hby at_91) kk) ?_
    show Go p e below _ (T57.setTop (mkF m 92 #[.val (.int p1), .val (.ref b2), .val (.int (4 : Int32)), .val (.ref w_CANCELED), .val (.int (1 : Int32)), .val (.int (1 : Int32)), .val (.int (5 : Int32))] [(.int (5 : Int32)), (.int (5 : Int32))]))
    refine Go.st (fun _ kk => XS.icmpNo X57.here hx rfl (hb hby at_92) rfl (teq (by decide : ((5 : Int32) = (5 : Int32)))).2 kk) ?_
    show Go p e below _ (T57.setTop (mkF m 95 #[.val (.int p1), .val (.ref b2), .val (.int (4 : Int32)), .val (.ref w_CANCELED), .val (.int (1 : Int32)), .val (.int (1 : Int32)), .val (.int (5 : Int32))] []))
    refine Go.st (fun _ kk => XS.iconst X57.here hx rfl (hb hby at_95) kk) ?_
    show Go p e below _ (T57.setTop (mkF m 96 #[.val (.int p1), .val (.ref b2), .val (.int (4 : Int32)), .val (.ref w_CANCELED), .val (.int (1 : Int32)), .val (.int (1 : Int32)), .val (.int (5 : Int32))] [(.int (1 : Int32))]))
    refine Go.st (fun _ kk => XS.goto X57.here hx rfl (pc0 := 96) (pc' := 100) rfl (hb hby at_96) (by decide) (by decide) kk) ?_
    show Go p e below _ (T57.setTop (mkF m 100 #[.val (.int p1), .val (.ref b2), .val (.int (4 : Int32)), .val (.ref w_CANCELED), .val (.int (1 : Int32)), .val (.int (1 : Int32)), .val (.int (5 : Int32))] [(.int (1 : Int32))]))
    exact Go.ret (Q := Q0 n0) X57 (v := some (.int (1 : Int32))) (fun h => by rw [Bd.returns] at h; cases h) Bd.notSynchronized (fun fs hr => retN X57 hx (t := .boolean) Bd.returns (by simp) (hb hby at_100) hr) eq57 ⟨rfl, N57⟩ (by decide) (by decide)
set_option maxRecDepth 65536 in
set_option maxHeartbeats 40000000 in
theorem comes_1 {Post : Tables → Env → Array Value → State → Outcome → State → Prop} (hpost : ∀ tb e args s v u, (limb_1_1.after args s (.returned v) u = true ∧ limb_1_2.after args s (.returned v) u = true ∧ True) → FrameEnd s (.returned v) u (Jvm.fieldLocs frame_1_writes args s ++ Jvm.arrayLocs frame_1_arrays args s ++ Jvm.staticLocs frame_1_statics s) 16 128 → Post tb e args s (.returned v) u) :
    ArmFor flags0 classFile x code maxLocals ret World_1 tables_1 room_1 Calls_1 rest_1 Pre_1 Post := by
  intro l hfl _ _ p e ha hc hk s m args below hf hA hF happ hP
  obtain ⟨hcalls, hrest, hpre⟩ := hP
  obtain ⟨-, -, -, hnamed, -, -, -, hat⟩ := (Spec.applies_iff hf).mp happ
  obtain ⟨hg, hn⟩ := and_e (Cond.before_iff.mp (show (Jvm.Cond.and given_1 narrow_1).before args s = true from hpre))
  obtain ⟨hcount, hg⟩ := and_e hg
  have hg0 := hg
  obtain ⟨w0, rfl⟩ : ∃ w0 : Value, args = #[w0] := by
    have hs : args.size = 1 := by simpa [Cond.value, given_1] using hcount
    obtain ⟨L⟩ := args
    match L, hs with
    | [w0], _ => exact ⟨w0, rfl⟩
  have hw := fun d (hd : d ∈ tables_1) => atoms_spec (ws := Jvm.Cond.code x code maxLocals ret :: tables_1) hat d (List.mem_cons_of_mem _ hd)
  have hfit : Fit s := fun {y c} hc i hi => by
    obtain ⟨ha, rfl⟩ := Array.getElem?_eq_some_iff.mp hc
    have q := List.all_eq_true.mp ((Array.all_eq_true_iff_forall_mem.mp hF) _ (Array.getElem_mem ha)) i (List.mem_range.mpr hi)
    simpa [Array.getElem?_eq_getElem hi] using q
  obtain ⟨i0, ei0⟩ := is_v hg0
  obtain rfl : w0 = (.int i0) := Option.some.inj ei0
  obtain ⟨hn0, hn⟩ := and_e hn
  obtain ⟨hn1, hn⟩ := and_e hn
  obtain ⟨hn2, hn⟩ := and_e hn
  obtain ⟨hn3, hn⟩ := and_e hn
  obtain ⟨hn4, hn⟩ := and_e hn
  obtain ⟨hn5, hn⟩ := and_e hn
  obtain ⟨hn6, hn⟩ := and_e hn
  obtain ⟨hn7, hn⟩ := and_e hn
  obtain ⟨hn8, hn⟩ := and_e hn
  have hn9 := hn
  obtain ⟨w_REQUIRES_PAYMENT_METHOD, ev_REQUIRES_PAYMENT_METHOD⟩ := exa_v hn0
  have S_REQUIRES_PAYMENT_METHOD := Sta.start ev_REQUIRES_PAYMENT_METHOD (Or.inr ⟨(hw _ (List.mem_of_getElem? (i := 3) rfl)), (hw _ (List.mem_of_getElem? (i := 4) rfl))⟩)
  have E_w_REQUIRES_PAYMENT_METHOD := Exa.start ev_REQUIRES_PAYMENT_METHOD hn0
  obtain ⟨w_PROCESSING, ev_PROCESSING⟩ := exa_v hn1
  have S_PROCESSING := Sta.start ev_PROCESSING (Or.inr ⟨(hw _ (List.mem_of_getElem? (i := 3) rfl)), (hw _ (List.mem_of_getElem? (i := 7) rfl))⟩)
  have E_w_PROCESSING := Exa.start ev_PROCESSING hn1
  obtain ⟨w_SUCCEEDED, ev_SUCCEEDED⟩ := exa_v hn2
  have S_SUCCEEDED := Sta.start ev_SUCCEEDED (Or.inr ⟨(hw _ (List.mem_of_getElem? (i := 3) rfl)), (hw _ (List.mem_of_getElem? (i := 9) rfl))⟩)
  have E_w_SUCCEEDED := Exa.start ev_SUCCEEDED hn2
  obtain ⟨w_FAILED, ev_FAILED⟩ := exa_v hn3
  have S_FAILED := Sta.start ev_FAILED (Or.inr ⟨(hw _ (List.mem_of_getElem? (i := 3) rfl)), (hw _ (List.mem_of_getElem? (i := 11) rfl))⟩)
  have E_w_FAILED := Exa.start ev_FAILED hn3
  obtain ⟨w_CANCELED, ev_CANCELED⟩ := exa_v hn4
  have S_CANCELED := Sta.start ev_CANCELED (Or.inr ⟨(hw _ (List.mem_of_getElem? (i := 3) rfl)), (hw _ (List.mem_of_getElem? (i := 13) rfl))⟩)
  have E_w_CANCELED := Exa.start ev_CANCELED hn4
  have F_stage_w_REQUIRES_PAYMENT_METHOD := fldStart ev_REQUIRES_PAYMENT_METHOD hn5
  have F_stage_w_FAILED := fldStart ev_FAILED hn6
  have F_stage_w_PROCESSING := fldStart ev_PROCESSING hn7
  have F_stage_w_CANCELED := fldStart ev_CANCELED hn8
  have F_stage_w_SUCCEEDED := fldStart ev_SUCCEEDED hn9
  obtain ⟨n, o, h1, h2, h3, _, L, rfl, ⟨rfl, N⟩, hq⟩ := rm0 l s _ hw tables_1 i0 w_REQUIRES_PAYMENT_METHOD w_PROCESSING w_SUCCEEDED w_FAILED w_CANCELED s.heap s.heap.size (Nat.le_refl _) S_REQUIRES_PAYMENT_METHOD E_w_REQUIRES_PAYMENT_METHOD S_PROCESSING E_w_PROCESSING S_SUCCEEDED E_w_SUCCEEDED S_FAILED E_w_FAILED S_CANCELED E_w_CANCELED F_stage_w_REQUIRES_PAYMENT_METHOD F_stage_w_FAILED F_stage_w_PROCESSING F_stage_w_CANCELED F_stage_w_SUCCEEDED p e ha hc hk s m _ below hf ((Spec.applies_iff_loose hf).mp happ).1 ⟨rfl, State.Warmed39.refl s, rfl⟩ trivial
  refine ⟨n, _, h1, h2, h3, hpost _ _ _ _ _ _ ⟨Cond.after_iff.mpr rfl, Cond.after_iff.mpr (eq_i res_at (Term.int_eval (1)) rfl), trivial⟩ ⟨hq.1, hq.2.1, (hq.2.2.sift fun y hy => Or.inr (N y hy)).mono (by decide) (by decide)⟩⟩
theorem main_1_1 : Claimed_1_1 := comes_1 fun _ _ _ _ _ _ h hF => ⟨h.1, hF⟩
theorem main_1_2 : Claimed_1_2 := comes_1 fun _ _ _ _ _ _ h hF => ⟨h.2.1, hF⟩
end Jvm.Pilot.@@N@@
namespace Jvm.Pilot.@@N@@
open Jvm Jvm.ClassFile Sem Op Lib Jvm.Free Jvm.Stand Jvm.Pilot.@@N@@.Jvm.D
/-! MADE BY PROGRAM (witnessworld.py) out of the Statement's table words and the real class files: 13 classes; the members and pool entries that the words name. The judged class is class 1, her method 1. -/
namespace start1
open Jvm.ClassFile
def u (s : String) : CpInfo := .utf8 (stringToUtf16 s)
/-- a pool by its gaps: so many unusable entries, then the entry; so many at the end -/
def gap : Nat → List CpInfo → List CpInfo
  | 0, r => r
  | n + 1, r => .unusable :: gap n r
def poolList (es : List (Nat × CpInfo)) (last : Nat) : List CpInfo := es.foldr (fun e r => gap e.1 (e.2 :: r)) (gap last [])
def pool (es : List (Nat × CpInfo)) (last : Nat) : Array CpInfo := ⟨poolList es last⟩
def fileOf (pool : Array CpInfo) (this : Nat) (attrs : Array Attribute := #[]) (ms : Array MethodInfo := #[]) (fl : Nat := 33) (sup : Nat := 0) (ifs : Array Nat := #[]) (fds : Array FieldInfo := #[]) : ClassFile where
  minorVersion := 0
  majorVersion := 65
  constantPool := pool
  accessFlags := fl
  thisClass := this
  superClass := sup
  interfaces := ifs
  fields := fds
  methods := ms
  attributes := attrs
def plain (name : String) (sup : Option ClassId) : Class where
  name := name
  kind := .ordinary
  loader := none
  accessFlags := 33
  super := sup
  interfaces := #[]
  cf := none
  fields := #[]
  methods := #[]
  instanceTypes := #[]
  staticTypes := #[]
  resolved := #[]
  callSites := []
  init := .initialized
  statics := none
  mirror := none

def pool0 : Array CpInfo := pool [(5, u "<init>"), (0, u "()V"), (1, .class_ 10), (1, u "java/lang/Object")] 113

def k0m0 : Method := { name := "<init>", desc := "()V", sig := { parameters := [], returnType := none }, accessFlags := 1, code := none }
/-- java/lang/Object -/
def k0 : Class := { plain "java/lang/Object" none with
  accessFlags := 33
  interfaces := #[]
  cf := some (fileOf pool0 8 #[] #[{ accessFlags := 1, nameIndex := 5, descriptorIndex := 6, attributes := #[] }] 33 0 #[] #[])
  fields := #[]
  methods := #[k0m0]
  instanceTypes := #[]
  staticTypes := #[]
  resolved := Array.replicate 124 none
  statics := none }

def pool1 : Array CpInfo := pool [(2, .class_ 4), (1, u "java/lang/Object"), (0, u "<init>"), (0, u "()V"), (0, .class_ 8), (0, u "com/example/charge_ledger/chargeledger/model/PaymentStatus"), (0, .fieldref 7 10), (0, .nameAndType 11 12), (0, u "REQUIRES_PAYMENT_METHOD"), (0, u "Lcom/example/charge_ledger/chargeledger/model/PaymentStatus;"), (0, .fieldref 7 14), (0, .nameAndType 15 12), (0, u "PROCESSING"), (0, .fieldref 7 17), (0, .nameAndType 18 12), (0, u "SUCCEEDED"), (0, .fieldref 7 20), (0, .nameAndType 21 12), (0, u "FAILED"), (0, .fieldref 7 23), (0, .nameAndType 24 12), (0, u "CANCELED"), (0, .integer 2147483647), (0, .methodref 7 27), (0, .nameAndType 28 29), (0, u "hasEnded"), (0, u "()Z"), (0, .methodref 7 31), (0, .nameAndType 32 33), (0, u "getStage"), (0, u "()I"), (0, .class_ 35), (0, u "com/example/charge_ledger/chargeledger/model/PaymentStatusHasEndedPinLaw"), (2, u "law"), (0, u "(I)Z")] 5

def k1m0 : Method := { name := "<init>", desc := "()V", sig := { parameters := [], returnType := none }, accessFlags := 1, code := none }
def k1c1 : Code := { maxStack := 4, maxLocals := 7, code := code, exceptionTable := #[], attributes := #[] }
def k1m1 : Method := { name := "law", desc := "(I)Z", sig := { parameters := [.int], returnType := some .boolean }, accessFlags := 9, code := some k1c1 }
/-- com/example/charge_ledger/chargeledger/model/PaymentStatusHasEndedPinLaw -/
def k1 : Class := { plain "com/example/charge_ledger/chargeledger/model/PaymentStatusHasEndedPinLaw" (some 0) with
  accessFlags := 49
  interfaces := #[]
  cf := some (fileOf pool1 34 #[] #[{ accessFlags := 1, nameIndex := 5, descriptorIndex := 6, attributes := #[] }, { accessFlags := 9, nameIndex := 38, descriptorIndex := 39, attributes := #[] }] 49 2 #[] #[])
  fields := #[]
  methods := #[k1m0, k1m1]
  instanceTypes := #[]
  staticTypes := #[]
  resolved := Array.replicate 45 none
  statics := none }

def pool2 : Array CpInfo := pool [(1, .class_ 2), (0, u "java/lang/constant/Constable"), (0, .class_ 4), (0, u "java/lang/Object")] 6

/-- java/lang/constant/Constable -/
def k2 : Class := { plain "java/lang/constant/Constable" (some 0) with
  accessFlags := 1537
  interfaces := #[]
  cf := some (fileOf pool2 1 #[] #[] 1537 3 #[] #[])
  fields := #[]
  methods := #[]
  instanceTypes := #[]
  staticTypes := #[]
  resolved := Array.replicate 11 none
  statics := none }

def pool3 : Array CpInfo := pool [(1, .class_ 2), (0, u "java/lang/Comparable"), (0, .class_ 4), (0, u "java/lang/Object")] 7

/-- java/lang/Comparable -/
def k3 : Class := { plain "java/lang/Comparable" (some 0) with
  accessFlags := 1537
  interfaces := #[]
  cf := some (fileOf pool3 1 #[] #[] 1537 3 #[] #[])
  fields := #[]
  methods := #[]
  instanceTypes := #[]
  staticTypes := #[]
  resolved := Array.replicate 12 none
  statics := none }

def pool4 : Array CpInfo := pool [(1, .class_ 2), (0, u "java/io/Serializable"), (0, .class_ 4), (0, u "java/lang/Object")] 2

/-- java/io/Serializable -/
def k4 : Class := { plain "java/io/Serializable" (some 0) with
  accessFlags := 1537
  interfaces := #[]
  cf := some (fileOf pool4 1 #[] #[] 1537 3 #[] #[])
  fields := #[]
  methods := #[]
  instanceTypes := #[]
  staticTypes := #[]
  resolved := Array.replicate 7 none
  statics := none }

def pool5 : Array CpInfo := pool [(2, .class_ 4), (1, u "java/lang/Enum"), (0, u "name"), (0, u "Ljava/lang/String;"), (2, u "ordinal"), (0, u "I"), (1, .class_ 14), (1, u "java/lang/Object"), (4, u "hash"), (86, .class_ 108), (1, u "java/lang/Enum$EnumDesc"), (2, .class_ 112), (0, u "java/lang/constant/Constable"), (0, .class_ 114), (0, u "java/lang/Comparable"), (0, .class_ 116), (0, u "java/io/Serializable")] 87

/-- java/lang/Enum -/
def k5 : Class := { plain "java/lang/Enum" (some 0) with
  accessFlags := 1057
  interfaces := #[2, 3, 4]
  cf := some (fileOf pool5 2 #[.nestMembers #[106]] #[] 1057 12 #[111, 113, 115] #[{ accessFlags := 18, nameIndex := 5, descriptorIndex := 6, attributes := #[] }, { accessFlags := 18, nameIndex := 9, descriptorIndex := 10, attributes := #[] }, { accessFlags := 2, nameIndex := 19, descriptorIndex := 10, attributes := #[] }])
  fields := #[{ name := "name", type := (.object "java/lang/String"), accessFlags := 18, slot := 0, constantValue := 0 }, { name := "ordinal", type := .int, accessFlags := 18, slot := 1, constantValue := 0 }, { name := "hash", type := .int, accessFlags := 2, slot := 2, constantValue := 0 }]
  methods := #[]
  instanceTypes := #[(.object "java/lang/String"), .int, .int]
  staticTypes := #[]
  resolved := Array.replicate 204 none
  statics := none }

def pool6 : Array CpInfo := pool [(1, .class_ 2), (0, u "com/example/charge_ledger/chargeledger/model/PaymentStatus"), (2, u "REQUIRES_PAYMENT_METHOD"), (0, u "Lcom/example/charge_ledger/chargeledger/model/PaymentStatus;"), (2, u "PROCESSING"), (2, u "SUCCEEDED"), (2, u "FAILED"), (2, u "CANCELED"), (2, u "$VALUES"), (0, u "[Lcom/example/charge_ledger/chargeledger/model/PaymentStatus;"), (6, .class_ 31), (1, u "java/lang/Enum"), (6, .fieldref 1 39), (0, .nameAndType 40 41), (0, u "stage"), (0, u "I"), (2, u "rank"), (12, u "ENDED"), (9, u "getStage"), (0, u "()I"), (0, u "hasEnded"), (0, u "()Z")] 8

def k6c0 : Code := { maxStack := 1, maxLocals := 1, code := prog_8_method_4_code, exceptionTable := #[], attributes := #[] }
def k6m0 : Method := { name := "getStage", desc := "()I", sig := { parameters := [], returnType := some .int }, accessFlags := 0, code := some k6c0 }
def k6c1 : Code := { maxStack := 2, maxLocals := 1, code := prog_8_method_5_code, exceptionTable := #[], attributes := #[] }
def k6m1 : Method := { name := "hasEnded", desc := "()Z", sig := { parameters := [], returnType := some .boolean }, accessFlags := 0, code := some k6c1 }
/-- com/example/charge_ledger/chargeledger/model/PaymentStatus -/
def k6 : Class := { plain "com/example/charge_ledger/chargeledger/model/PaymentStatus" (some 5) with
  accessFlags := 16433
  interfaces := #[]
  cf := some (fileOf pool6 1 #[] #[{ accessFlags := 0, nameIndex := 67, descriptorIndex := 68, attributes := #[] }, { accessFlags := 0, nameIndex := 69, descriptorIndex := 70, attributes := #[] }] 16433 29 #[] #[{ accessFlags := 16409, nameIndex := 5, descriptorIndex := 6, attributes := #[] }, { accessFlags := 16409, nameIndex := 9, descriptorIndex := 6, attributes := #[] }, { accessFlags := 16409, nameIndex := 12, descriptorIndex := 6, attributes := #[] }, { accessFlags := 16409, nameIndex := 15, descriptorIndex := 6, attributes := #[] }, { accessFlags := 16409, nameIndex := 18, descriptorIndex := 6, attributes := #[] }, { accessFlags := 26, nameIndex := 57, descriptorIndex := 41, attributes := #[] }, { accessFlags := 18, nameIndex := 40, descriptorIndex := 41, attributes := #[] }, { accessFlags := 18, nameIndex := 44, descriptorIndex := 41, attributes := #[] }, { accessFlags := 4122, nameIndex := 21, descriptorIndex := 22, attributes := #[] }])
  fields := #[{ name := "REQUIRES_PAYMENT_METHOD", type := (.object "com/example/charge_ledger/chargeledger/model/PaymentStatus"), accessFlags := 16409, slot := 0, constantValue := 0 }, { name := "PROCESSING", type := (.object "com/example/charge_ledger/chargeledger/model/PaymentStatus"), accessFlags := 16409, slot := 1, constantValue := 0 }, { name := "SUCCEEDED", type := (.object "com/example/charge_ledger/chargeledger/model/PaymentStatus"), accessFlags := 16409, slot := 2, constantValue := 0 }, { name := "FAILED", type := (.object "com/example/charge_ledger/chargeledger/model/PaymentStatus"), accessFlags := 16409, slot := 3, constantValue := 0 }, { name := "CANCELED", type := (.object "com/example/charge_ledger/chargeledger/model/PaymentStatus"), accessFlags := 16409, slot := 4, constantValue := 0 }, { name := "ENDED", type := .int, accessFlags := 26, slot := 5, constantValue := 0 }, { name := "stage", type := .int, accessFlags := 18, slot := 3, constantValue := 0 }, { name := "rank", type := .int, accessFlags := 18, slot := 4, constantValue := 0 }, { name := "$VALUES", type := (.array (.object "com/example/charge_ledger/chargeledger/model/PaymentStatus")), accessFlags := 4122, slot := 6, constantValue := 0 }]
  methods := #[k6m0, k6m1]
  instanceTypes := #[(.object "java/lang/String"), .int, .int, .int, .int]
  staticTypes := #[(.object "com/example/charge_ledger/chargeledger/model/PaymentStatus"), (.object "com/example/charge_ledger/chargeledger/model/PaymentStatus"), (.object "com/example/charge_ledger/chargeledger/model/PaymentStatus"), (.object "com/example/charge_ledger/chargeledger/model/PaymentStatus"), (.object "com/example/charge_ledger/chargeledger/model/PaymentStatus"), .int, (.array (.object "com/example/charge_ledger/chargeledger/model/PaymentStatus"))]
  resolved := Array.replicate 79 none
  statics := some 0 }

def pool7 : Array CpInfo := pool [(1, u "java/lang/Cloneable"), (0, .class_ 1), (0, u "java/lang/Object"), (0, .class_ 3)] 3

/-- java/lang/Cloneable -/
def k7 : Class := { plain "java/lang/Cloneable" (some 0) with
  accessFlags := 1537
  interfaces := #[]
  cf := some (fileOf pool7 2 #[] #[] 1537 4 #[] #[])
  fields := #[]
  methods := #[]
  instanceTypes := #[]
  staticTypes := #[]
  resolved := Array.replicate 8 none
  statics := none }

/-- the primitive byte -/
def k8 : Class := { plain "byte" none with kind := .primitive 'B', accessFlags := 0x411 }
/-- [B -/
def k9 : Class := { plain "[B" (some 0) with kind := .array 8 .byte, interfaces := #[7, 4], accessFlags := 1041 }

/-- the primitive int -/
def k10 : Class := { plain "int" none with kind := .primitive 'I', accessFlags := 0x411 }
/-- [I -/
def k11 : Class := { plain "[I" (some 0) with kind := .array 10 .int, interfaces := #[7, 4], accessFlags := 1041 }

/-- [Lcom/example/charge_ledger/chargeledger/model/PaymentStatus; -/
def k12 : Class := { plain "[Lcom/example/charge_ledger/chargeledger/model/PaymentStatus;" (some 0) with kind := .array 6 (.object "com/example/charge_ledger/chargeledger/model/PaymentStatus"), interfaces := #[7, 4], accessFlags := 1041 }

def heap : Heap := #[{ cls := 6, slots := #[.ref 1, .ref 2, .ref 3, .ref 4, .ref 5, .int 0, .null], vm := .statics 6 },
  { cls := 6, slots := #[.null, .int 0, .int 0, .int 0, .int 0], vm := .none },
  { cls := 6, slots := #[.null, .int 0, .int 0, .int 3, .int 0], vm := .none },
  { cls := 6, slots := #[.null, .int 0, .int 0, .int 5, .int 0], vm := .none },
  { cls := 6, slots := #[.null, .int 0, .int 0, .int 0, .int 0], vm := .none },
  { cls := 6, slots := #[.null, .int 0, .int 0, .int 5, .int 0], vm := .none }]
def classes : Array Class := #[k0, k1, k2, k3, k4, k5, k6, k7, k8, k9, k10, k11, k12]
def interned : List (Array UInt16 × Addr) := []
def slotsUsed : Nat := 32
def theMethod : MethodId := ⟨1, 1⟩
def args0 : Array Value := #[.int 5]
def aboutOver (below : List Frame) : State where
  vm := { classes := classes, interned := interned.toArray }
  heap := heap
  slotsUsed := slotsUsed
  threads := #[{ frames := .invoking theMethod args0 :: below }]
def below0 : List Frame := [.native { method := ⟨0, 0⟩, args := #[] }]
def about1 : State := aboutOver below0
def p0 : Program := .bare "" "" ""
def e0 : Env := launch0.env 0 0 0
theorem w_frames : about1.frames = Frame.invoking theMethod args0 :: below0 := rfl
set_option maxRecDepth 65536 in
theorem w_args : argsFit about1.vm theMethod args0 = true := by decide +kernel
set_option maxRecDepth 65536 in
theorem w_heap : heapFits about1 = true := by decide +kernel
set_option maxRecDepth 65536 in
theorem w_runnable : about1.curStatus? = some .runnable := by decide +kernel
set_option maxRecDepth 65536 in
theorem w_alone : about1.alone = true := by decide +kernel
set_option maxRecDepth 65536 in
theorem w_named : about1.methodNamed? x = some theMethod := by decide +kernel
set_option maxRecDepth 65536 in
theorem w_hears : about1.hears theMethod below0 = true := by decide +kernel
set_option maxRecDepth 65536 in
theorem w_ripe : about1.ripe theMethod args0 below0 = true := by decide +kernel
theorem w_running : about1.status = .running := rfl
set_option maxRecDepth 65536 in
theorem w_room : about1.hasRoom e0.platform room_1 = true :=
  launch0.hasRoom_least _ room_1 (by decide +kernel) (by decide +kernel) (by decide +kernel) (by decide +kernel) (by decide +kernel) (by decide +kernel)
theorem allAtoms_all (ts : List Jvm.Cond) (a : Array Jvm.Value) (st : Jvm.State) : (allAtoms ts).before a st = ts.all (fun c => c.before a st) := by
  induction ts with
  | nil => rfl
  | cons c t ih =>
    show (Jvm.Cond.and c (allAtoms t)).before a st = _
    rw [Jvm.Cond.before_and, ih, List.all_cons]
def words1 : List Jvm.Cond := Jvm.Cond.code x code maxLocals ret :: tables_1
/-- a 'code' word, met by the world's own term for the bytes: nothing is compared byte by byte -/
theorem code_word {y : MethodName} {bytes : ByteArray} {mx : Nat} {rt : Option FieldType} {a : Array Value} {s : State} {m : MethodId} {meth : Method} {c : Code} (h1 : s.methodNamed? y = some m) (h2 : s.vm.method? m = some meth) (h3 : meth.code = some c) (h4 : c.code = bytes)
    (h5 : (c.maxLocals == mx && c.exceptionTable.isEmpty && decide (c.maxStack ≤ mostOperands) && decide (meth.sig.returnType = rt) && !meth.locks && decide (parseMethodDescriptor y.desc = some meth.sig)) = true) : (Jvm.Cond.code y bytes mx rt).before a s = true := by
  simp only [Bool.and_eq_true, beq_iff_eq, Bool.not_eq_true', decide_eq_true_eq] at h5
  obtain ⟨⟨⟨⟨⟨g1, g2⟩, g3⟩, g4⟩, g5⟩, g6⟩ := h5
  simp [Cond.before, Cond.holds, Cond.value, h1, h2, h3, h4, g1, g2, g3, g4, g5, g6]
def isCode : Jvm.Cond → Bool
  | .code _ _ _ _ => true
  | _ => false
theorem all_split {L : List Jvm.Cond} {P : Jvm.Cond → Bool} (h1 : L.all (fun c => isCode c || P c) = true) (h2 : ∀ c ∈ L.filter isCode, P c = true) : L.all P = true := by
  refine List.all_eq_true.mpr fun c hc => ?_
  have h := List.all_eq_true.mp h1 c hc
  rcases Bool.eq_false_or_eq_true (isCode c) with hi | hi
  · exact h2 c (List.mem_filter.mpr ⟨hc, hi⟩)
  · simpa [hi] using h
set_option maxRecDepth 65536 in
theorem w_c0 : (Jvm.Cond.code x code maxLocals ret).before args0 about1 = true := code_word (m := ⟨1, 1⟩) (meth := k1m1) (c := k1c1) (by decide +kernel) rfl rfl rfl (by decide +kernel)
set_option maxRecDepth 65536 in
theorem w_c1 : (Jvm.Cond.code ({ cls := "com/example/charge_ledger/chargeledger/model/PaymentStatus", name := "hasEnded", desc := "()Z" } : Jvm.MethodName) prog_8_method_5_code (1 : Nat) (Option.some Jvm.ClassFile.FieldType.boolean)).before args0 about1 = true := code_word (m := ⟨6, 1⟩) (meth := k6m1) (c := k6c1) (by decide +kernel) rfl rfl rfl (by decide +kernel)
set_option maxRecDepth 65536 in
theorem w_c2 : (Jvm.Cond.code ({ cls := "com/example/charge_ledger/chargeledger/model/PaymentStatus", name := "getStage", desc := "()I" } : Jvm.MethodName) prog_8_method_4_code (1 : Nat) (Option.some Jvm.ClassFile.FieldType.int)).before args0 about1 = true := code_word (m := ⟨6, 0⟩) (meth := k6m0) (c := k6c0) (by decide +kernel) rfl rfl rfl (by decide +kernel)
def codes1 : List Jvm.Cond := [Jvm.Cond.code x code maxLocals ret, Jvm.Cond.code ({ cls := "com/example/charge_ledger/chargeledger/model/PaymentStatus", name := "hasEnded", desc := "()Z" } : Jvm.MethodName) prog_8_method_5_code (1 : Nat) (Option.some Jvm.ClassFile.FieldType.boolean), Jvm.Cond.code ({ cls := "com/example/charge_ledger/chargeledger/model/PaymentStatus", name := "getStage", desc := "()I" } : Jvm.MethodName) prog_8_method_4_code (1 : Nat) (Option.some Jvm.ClassFile.FieldType.int)]
set_option maxRecDepth 65536 in
theorem codes_eq : words1.filter isCode = codes1 := rfl
theorem w_codes : ∀ c ∈ words1.filter isCode, c.before args0 about1 = true := by
  rw [codes_eq]
  intro c hc
  simp only [codes1, List.mem_cons, List.not_mem_nil, or_false] at hc
  rcases hc with rfl | rfl | rfl
  · exact w_c0
  · exact w_c1
  · exact w_c2
set_option maxRecDepth 65536 in
theorem w_t1 : (words1.take 24).all (fun c => isCode c || c.before args0 about1) = true := by decide +kernel
set_option maxRecDepth 65536 in
theorem w_t2 : (words1.drop 24).all (fun c => isCode c || c.before args0 about1) = true := by decide +kernel
theorem w_tables : (allAtoms (Jvm.Cond.code x code maxLocals ret :: tables_1)).before args0 about1 = true := by
  rw [allAtoms_all]
  show words1.all (fun c => c.before args0 about1) = true
  refine all_split ?_ w_codes
  rw [← List.take_append_drop 24 words1, List.all_append, w_t1, w_t2]
  rfl
set_option maxRecDepth 65536 in
theorem w_case : (Jvm.Cond.and given_1 narrow_1).before args0 about1 = true := by decide +kernel
theorem w_applies : (headSpec (Jvm.Cond.code x code maxLocals ret :: tables_1) room_1).applies x e0.platform about1 = true :=
  (Spec.applies_iff w_frames).mpr ⟨w_running, w_runnable, w_alone, w_named, w_hears, w_ripe, w_room, w_tables⟩
theorem atStart : AtStart classFile x code maxLocals ret World_1 tables_1 room_1 Calls_1 rest_1 Pre_1 launch0 p0 e0 about1 theMethod args0 below0 :=
  ⟨lists_1, trivial, launch0.admits_env _ _ _, launch0.least_env, fairChoices_fair.cas, fairChoices_fair.clock, w_frames, w_args, w_heap, w_applies, trivial, trivial, w_case⟩
end start1
theorem witness_1 : WitnessClaimed_1 := ⟨start1.p0, start1.e0, start1.about1, start1.theMethod, start1.args0, start1.below0, start1.atStart⟩
end Jvm.Pilot.@@N@@
