import JvmDerived
import JvmDerived.Pilot.@@N@@Statement
import JvmDerived.Pilot.@@N@@Code
set_option linter.unusedVariables false
set_option linter.unusedSimpArgs false
namespace Jvm.RoadKit
open Sem ClassFile Op Lib Jvm.Stand Jvm.Free Jvm.LawKit
section Own
variable {p : Program} {l : Launch} {e : Env} {R : Room} {s : State} {m : MethodId} {args : Array Value} {below : List Frame} {meth : Method} {c : Code} {T : State} {locs : List Loc} {cells slots : Nat} {Z : State} {h h' : Heap}
/-- from U the run comes to an end that G allows -/
def Go (p : Program) (e : Env) (below : List Frame) (G : Outcome → State → Prop) (U : State) : Prop := ∃ s₂ o, Steps p.tables e below U s₂ ∧ s₂.status = .running ∧ Ended s₂ below o ∧ G o s₂
theorem Go.st {G : Outcome → State → Prop} {U V : State} (h : ∀ t, Steps p.tables e below V t → Steps p.tables e below U t) (k : Go p e below G V) : Go p e below G U := by
  obtain ⟨s₂, o, a, r⟩ := k; exact ⟨s₂, o, h _ a, r⟩
theorem Go.tr {G : Outcome → State → Prop} {U V : State} (h : Steps p.tables e below U V) (k : Go p e below G V) : Go p e below G U := by
  obtain ⟨s₂, o, a, r⟩ := k; exact ⟨s₂, o, h.trans a, r⟩
theorem Go.en {G : Outcome → State → Prop} {g g' : JFrame} (q : g = g') (k : Go p e below G (T.setTop g')) : Go p e below G (T.setTop g) := q ▸ k
theorem Go.ret {Q : Option Value → Heap → List Loc → Prop} {K N : Nat} {U : State} (X : Stand p l e R s m args below meth c T locs cells slots) {v : Option Value} (hv : meth.sig.returnType = none → v = none) (hlk : meth.locks = false)
    (st : ∀ fs, (∀ (f : JFrame) (acts : List Action), f.method = m → f.locked = none → f.entered = [] → (doReturn e (T.setTop f) acts v).1 = T.setFrames fs) → Steps p.tables e below U (T.setFrames fs)) (eT : T.heap = h) (hQ : Q v h locs) (hk : cells ≤ K) (hn : slots ≤ N) :
    Go p e below (fun o s₂ => ∃ v L, o = .returned v ∧ Q v s₂.heap L ∧ FrameEnd s o s₂ L K N) U := by
  subst eT
  obtain ⟨fs, hr, hrun, hended, hW, hsame⟩ := X.leave hv hlk
  exact ⟨_, _, st fs hr, hrun, hended, _, _, rfl, hQ, ⟨_, rfl⟩, hW, hsame.mono hk hn⟩
theorem Go.retW {Q : Option Value → Heap → List Loc → Prop} {K N k0 : Nat} {U : State} {vm0 : Vm} (hS : s.Since vm0 k0) (hk0 : k0 ≤ h.size) (X : Stand p l e R (s.setVm vm0) m args below meth c T locs cells slots) {v : Option Value} (hv : meth.sig.returnType = none → v = none) (hlk : meth.locks = false)
    (st : ∀ fs, (∀ (f : JFrame) (acts : List Action), f.method = m → f.locked = none → f.entered = [] → (doReturn e (T.setTop f) acts v).1 = T.setFrames fs) → Steps p.tables e below U (T.setFrames fs)) (eT : T.heap = h) (hQ : Q v h locs) (hk : cells ≤ K) (hn : slots ≤ N) :
    Go p e below (fun o s₂ => ∃ v L, o = .returned v ∧ Q v s₂.heap L ∧ ReturnedEndW s o s₂ L K N) U := by
  subst eT
  obtain ⟨fs, hr, hrun, hended, hR⟩ := X.leaveW hS hk0 hv hlk
  exact ⟨_, _, st fs hr, hrun, hended, _, _, rfl, hQ, hR.1, hR.2.1, hR.2.2.1, hR.2.2.2.mono hk hn⟩
/-- RoadKit's backOfS for a callee that is told what the constants hold -/
theorem backOfSC {y : MethodName} {bytes : ByteArray} {maxL : Nat} {ret : Option FieldType} {rm : Room} {len W : Nat} {as' : Array Value} {Q : Option Value → Heap → List Loc → Prop} {EL : List (String × Nat)} {vm0 : Vm} {a0 : Array Value}
    (hM : MetFree l y (head1 [Cond.code y bytes maxL ret] rm) (fun a U => a = as' ∧ Z.Warmed39 U.vm ∧ U.heap = h ∧ CHv Z EL U.vm h) (fun _ _ _ _ _ => True) (fun _ U o U' => ∃ v L, o = .returned v ∧ Q v U'.heap L ∧ ReturnedEndW U o U' L rm.cells rm.slots))
    (hZ : Z.Warmed39 vm0) (wc : (Cond.code y bytes maxL ret).before a0 Z = true) (wz : (Cond.initialized y.cls).before a0 Z = true) (hf : rm.frames + 1 ≤ R.frames) (hl : W + (maxL + 11) + rm.locals ≤ R.locals) (hEL : EW Z a0 EL) (H : CHv Z EL vm0 h) :
    BackS l R p e below (s.setVm vm0) args y len W (fun A a => a = as' ∧ A.U.heap = h ∧ A.cells + rm.cells ≤ R.cells ∧ A.slots + rm.slots ≤ R.slots)
      (fun A _ v B => ∃ L, Q v B.U.heap L ∧ B.locs = A.locs ++ L ∧ B.cells = A.cells + rm.cells ∧ B.slots = A.slots + rm.slots) :=
  BackS.of_freeW (bytes := bytes) (maxL := maxL) (ret := ret) (E := fun _ _ o t L k n => k = rm.cells ∧ n = rm.slots ∧ ∃ v, o = .returned v ∧ Q v t.heap L) hM hf hl
    (fun m meth c A a Y hp => by
      have hU : Z.Warmed39 A.U.vm := wtrans (s := s.setVm vm0) hZ Y.warmed
      exact ⟨by show (Cond.and _ .tt).before a A.U = true; rw [Cond.before_and, mv hU wc]; rfl, mv hU wc, mv hU wz, hp.2.2.1, hp.2.2.2⟩)
    (fun m meth c A a g mk Y hp => ⟨hp.1, wtrans (s := s.setVm vm0) hZ Y.warmed, hp.2.1, (CHv.at Y hZ hEL H).1⟩) (fun _ _ _ _ _ _ _ _ _ => trivial)
    (fun _ _ _ _ ⟨v, L, h1, h2, h3⟩ => ⟨L, _, _, h3, rfl, rfl, v, h1, h2⟩)
    (fun m meth c A a g mk v t L k n Y hp _ _ ⟨e1, e2, v', e3, e4⟩ => by cases e3; subst e1 e2; exact ⟨L, e4, rfl, rfl, rfl⟩)
theorem staKeep0 {C n d : String} {v : Value} (F : Sta Z h C n d v) (K : Keep h h' []) : Sta Z h' C n d v := by
  obtain ⟨cf, i, k, f, st, cell, h1, h2, h3, h4, h5, r⟩ := F
  exact ⟨cf, i, k, f, st, cell, h1, h2, h3, h4, K.2.1 _ _ h5 nin0, r⟩
theorem staKeepE {C n d O : String} {v : Value} {a : Addr} (F : Sta Z h C n d v) (K : Keep h h' [a]) (E : Exa Z h a O) : Sta Z h' C n d v := by
  obtain ⟨cf, i, k, f, st, cell, h1, h2, h3, h4, h5, h6, r⟩ := F
  obtain ⟨c', k', e1, -, -, e4, -⟩ := E
  have ne : st ≠ a := fun q => by subst q; cases h5.symm.trans e1; rw [h6] at e4; cases e4
  exact ⟨cf, i, k, f, st, cell, h1, h2, h3, h4, K.2.1 _ _ h5 (ninS ne nin0), h6, r⟩
/-- getfield where the sheet says the reference resolved -/
theorem getFR (X : Stand p l e R s m args below meth c T locs cells slots) (hx : p.tables.exec = Jvm.exec) (hZ : Z.Warmed39 s.vm) {a0 : Array Value} {own O n d : String} {index : Nat} (hown : s.vm.findClass own = some m.cls) (w : (Cond.fieldRef own index O n d).before a0 Z = true)
    (eT : T.heap = h) {a : Addr} {v : Value} (F : Fld Z h a O n d v) {g : JFrame} (hg : g.method = m) {rest : List Value} (hs : g.stack = .ref a :: rest) (hd : decode c.code g.pc = .ok (.getfield index, 3)) :
    ∀ target, Steps p.tables e below (T.setTop { g with pc := g.pc + 3, stack := v :: rest }) target → Steps p.tables e below (T.setTop g) target := by
  intro target hrest
  obtain ⟨cell, cf, k, i, f, h1, h2, h3, h4, -, -, h7⟩ := F
  have hW : Z.Warmed39 T.vm := wtrans hZ X.warmed
  have q := Cond.fieldRef_warmed39 hW w
  have hcur : (Z.setVm T.vm).vm.findClass own = some m.cls := by
    show T.vm.findClass own = some m.cls
    rw [X.warmed.alike.findClass]; exact hown
  obtain ⟨c', k', i', f', hi, hready⟩ := Cond.fieldRef_spec hcur q
  obtain ⟨k2, hi2, -⟩ := State.fieldFound?_setVm (s := Z) hW.alike h2
  have q3 : (Z.setVm T.vm).fieldFound? O n d = some (cf, k2, i, f) := hi2
  cases hi.symm.trans q3
  subst hg
  jvm_step X.here [hx, hd, getfield.wp_ready (e := e) (s := T) (f := g) X.here.top hready h3 hs (by rw [eT]; exact h1) h4 h7]
  exact hrest
/-- an array of that kind and length, whatever it holds -/
def Arn (Z : State) (h : Heap) (a : Addr) (ty : FieldType) (z : Int32) : Prop := ∃ c : Cell, Arr Z h a c ty ∧ c.slots.size = z.toNatClampNeg ∧ ¬ z < 0
section Arn
variable {a b : Addr} {ty : FieldType} {z : Int32} {sl : Nat} {v : Value} {ws : List Addr}
theorem Arn.lt (F : Arn Z h a ty z) : a < h.size := by obtain ⟨c, A, -⟩ := F; exact A.lt
theorem Arn.nn (F : Arn Z h a ty z) : ¬ z < 0 := by obtain ⟨c, -, -, q⟩ := F; exact q
theorem Arn.ext (F : Arn Z h a ty z) (E : Ext h h') : Arn Z h' a ty z := by obtain ⟨c, A, r⟩ := F; exact ⟨c, A.ext E, r⟩
theorem Arn.other (F : Arn Z h b ty z) (W : Wr h h' a sl v) (q : b ≠ a) : Arn Z h' b ty z := by obtain ⟨c, A, r⟩ := F; exact ⟨c, A.other W q, r⟩
theorem Arn.keep (F : Arn Z h a ty z) (K : Keep h h' ws) (q : a ∉ ws) : Arn Z h' a ty z := by obtain ⟨c, A, r⟩ := F; exact ⟨c, ⟨K.2.1 a c A.1 q, A.2⟩, r⟩
theorem Arn.set {c : Cell} (A : Arr Z h a c ty) (S : c.slots.size = z.toNatClampNeg) (q : ¬ z < 0) (W : Wr h h' a sl v) : Arn Z h' a ty z := ⟨_, A.same W, by rw [sz_set]; exact S, q⟩
theorem Arv.arn {k : ClassId} {vs : List Value} {dv : Value} (F : Arv Z h a k ty z vs dv) : Arn Z h a ty z := by obtain ⟨c, A, -, S, q, -⟩ := F; exact ⟨c, A, S, q⟩
end Arn
theorem staKeepA {C n d : String} {v : Value} {a : Addr} {ty : FieldType} {z : Int32} (F : Sta Z h C n d v) (K : Keep h h' [a]) (E : Arn Z h a ty z) : Sta Z h' C n d v := by
  obtain ⟨cf, i, k, f, st, cell, h1, h2, h3, h4, h5, h6, r⟩ := F
  obtain ⟨c', A, -⟩ := E
  have e4 := A.plain
  have ne : st ≠ a := fun q => by subst q; cases h5.symm.trans A.1; rw [h6] at e4; cases e4
  exact ⟨cf, i, k, f, st, cell, h1, h2, h3, h4, K.2.1 _ _ h5 (ninS ne nin0), h6, r⟩
theorem own_nn {n : Int32} (h : 0 ≤ n.toInt) : ¬ n < 0 := by rw [Int32.lt_iff_toInt_lt]; show ¬ n.toInt < 0; omega
theorem own_cap {n : Int32} {k : Nat} (h : n.toInt ≤ k) : n.toNatClampNeg ≤ k := by simp only [Int32.toNatClampNeg]; omega
theorem own_inc {i z : Int32} (h0 : ¬ i < 0) (h : i < z) : ¬ (i + 1) < 0 ∧ (i + 1).toInt = i.toInt + 1 := by
  have h1 := c_iadd i 1; have h2 := rng32 z; have h3 := rng32 i; have h4 := rng32 (i + 1)
  rw [Int32.lt_iff_toInt_lt] at h0 h ⊢
  have e0 : (0 : Int32).toInt = 0 := rfl
  have e1 : (1 : Int32).toInt = 1 := rfl
  rw [e0] at h0 ⊢; rw [e1] at h1
  omega
theorem own_ge {i z : Int32} (h : z.toInt ≤ i.toInt) : ¬ i < z := by rw [Int32.lt_iff_toInt_lt]; omega
theorem staInt {args : Array Value} {C n d : String} {k : Int32} (h : (Cond.eq (.static C n d) (.int k)).value args Z none Z [] = some true) (hi : (Cond.initializedFor C n d).before args Z = true ∨ ((Cond.initialized C).before args Z = true ∧ (Cond.laysStatic C n d).before args Z = true)) : Sta Z Z.heap C n d (.int k) := by
  obtain ⟨x, y, e1, e2, k1, -⟩ := cmp_v (Or.inl h)
  have e3 : (Term.int k).eval args Z none [] Z = some (.int k) := Term.int_eval k
  cases e2.symm.trans e3
  cases x with
  | int z =>
    have q : (Cond.eq (.static C n d) (.int k)).value args Z none Z [] = some (decide (z = k)) := by simp [Cond.value, e1, e3]
    exact (gotT q h) ▸ Sta.start e1 hi
  | _ => simp [Kin, Value.isRef] at k1
theorem fldNull {args : Array Value} {t : Term} {C n d : String} {a : Addr} (ev : t.eval args Z none [] Z = some (.ref a)) (h : (Cond.eq (.field t C n d) .null).value args Z none Z [] = some true) : Fld Z Z.heap a C n d .null := by
  have e1 := null_v h
  rw [fld_at ev] at e1
  exact Fld.start e1
theorem fldStart {args : Array Value} {t : Term} {C n d : String} {a : Addr} {k : Int32} (ev : t.eval args Z none [] Z = some (.ref a)) (h : (Cond.eq (.field t C n d) (.int k)).value args Z none Z [] = some true) : Fld Z Z.heap a C n d (.int k) := by
  obtain ⟨x, y, e1, e2, k1, -⟩ := cmp_v (Or.inl h)
  rw [fld_at ev] at e1
  have e3 : (Term.int k).eval args Z none [] Z = some (.int k) := Term.int_eval k
  cases e2.symm.trans e3
  cases x with
  | int z =>
    have q : (Cond.eq (.field t C n d) (.int k)).value args Z none Z [] = some (decide (z = k)) := by simp [Cond.value, (fld_at ev).trans e1, e3]
    exact (gotT q h) ▸ Fld.start e1
  | _ => simp [Kin, Value.isRef] at k1
end Own
end Jvm.RoadKit
namespace Jvm.Pilot.@@N@@
open Jvm Jvm.ClassFile Sem Op Lib Jvm.Free Jvm.Stand Jvm.LawKit Jvm.RoadKit Bundle Jvm.Pilot.@@N@@.Jvm.D
theorem own_k (x : Int32) : (x &&& (2147483647 : Int32)) % (5 : Int32) = (0 : Int32) ∨ (x &&& (2147483647 : Int32)) % (5 : Int32) = (1 : Int32) ∨ (x &&& (2147483647 : Int32)) % (5 : Int32) = (2 : Int32) ∨ (x &&& (2147483647 : Int32)) % (5 : Int32) = (3 : Int32) ∨ (x &&& (2147483647 : Int32)) % (5 : Int32) = (4 : Int32) := by
  have h1 := c_and x (2147483647 : Int32) (by decide)
  have h2 := (c_irem (x &&& (2147483647 : Int32)) (5 : Int32) 5 (by decide)).1 h1.1
  generalize (x &&& (2147483647 : Int32)) % (5 : Int32) = k at *
  have h3 : k.toInt = 0 ∨ k.toInt = 1 ∨ k.toInt = 2 ∨ k.toInt = 3 ∨ k.toInt = 4 := by omega
  rcases h3 with h | h | h | h | h
  · exact (Or.inl (Int32.toInt_inj.mp (h.trans (by decide))))
  · exact (Or.inr (Or.inl (Int32.toInt_inj.mp (h.trans (by decide)))))
  · exact (Or.inr (Or.inr (Or.inl (Int32.toInt_inj.mp (h.trans (by decide))))))
  · exact (Or.inr (Or.inr (Or.inr (Or.inl (Int32.toInt_inj.mp (h.trans (by decide)))))))
  · exact (Or.inr (Or.inr (Or.inr (Or.inr (Int32.toInt_inj.mp (h.trans (by decide)))))))

theorem pn_0 : plainName "com/example/charge_ledger/chargeledger/model/PaymentStatusOutranksPinLaw" = true := by first | (simp [plainName, overriddenIn]; done) | decide +kernel
theorem ef_0 (m : MethodId) (x0 : Int32) (x1 : Int32) : entryFrame m #[(.int x0), (.int x1)] maxLocals = mkF m 0 #[.val (.int x0), .val (.int x1), .unset, .unset, .unset, .unset] [] := by first | (simp [entryFrame, mkF, argsToLocals, Value.category, maxLocals]; done) | rfl
theorem d1_0 : decode prog_8_method_6_code 0 = .ok (.aload_n 0, 1) := by decide +kernel
theorem d1_1 : decode prog_8_method_6_code 1 = .ok (.getfield 42, 3) := by decide +kernel
theorem d1_4 : decode prog_8_method_6_code 4 = .ok (.aload_n 1, 1) := by decide +kernel
theorem d1_5 : decode prog_8_method_6_code 5 = .ok (.getfield 42, 3) := by decide +kernel
theorem d1_8 : decode prog_8_method_6_code 8 = .ok (.if_icmp .le 7, 3) := by decide +kernel
theorem d1_11 : decode prog_8_method_6_code 11 = .ok (.iconst 1, 1) := by decide +kernel
theorem d1_12 : decode prog_8_method_6_code 12 = .ok (.goto 4, 3) := by decide +kernel
theorem d1_15 : decode prog_8_method_6_code 15 = .ok (.iconst 0, 1) := by decide +kernel
theorem d1_16 : decode prog_8_method_6_code 16 = .ok (.ireturn, 1) := by decide +kernel
theorem pn_1 : plainName "com/example/charge_ledger/chargeledger/model/PaymentStatus" = true := by first | (simp [plainName, overriddenIn]; done) | decide +kernel
theorem ef_1 (m : MethodId) (x0 : Addr) (x1 : Addr) : entryFrame m #[(.ref x0), (.ref x1)] 2 = mkF m 0 #[.val (.ref x0), .val (.ref x1)] [] := by first | (simp [entryFrame, mkF, argsToLocals, Value.category]; done) | rfl
theorem pd_0 : parseMethodDescriptor "(Lcom/example/charge_ledger/chargeledger/model/PaymentStatus;)Z" = some ⟨[(.object "com/example/charge_ledger/chargeledger/model/PaymentStatus")], some .boolean⟩ := by decide +kernel
def Qm1_t (Z : State) (a1 : Addr) (a2 : Addr) (w3 : Int32) (w5 : Int32) (h0 : Heap) (n0 : Nat) (v : Option Value) (h : Heap) (L : List Loc) : Prop := v = some (.int (1 : Int32)) ∧ Fr n0 L ∧ h = h0
set_option maxRecDepth 65536 in
set_option maxHeartbeats 40000000 in
theorem rm1_t (l : Launch) (Z : State) (a0 : Array Value) (hw : ∀ d ∈ tables_1, d.before a0 Z = true) (ws : List Jvm.Cond) (a1 : Addr) (a2 : Addr) (w3 : Int32) (w5 : Int32) (h0 : Heap) (n0 : Nat) (Z0 : n0 ≤ h0.size) (F_rank_a1 : Fld Z h0 a1 "com/example/charge_ledger/chargeledger/model/PaymentStatus" "rank" "I" (.int w3)) (F_rank_a2 : Fld Z h0 a2 "com/example/charge_ledger/chargeledger/model/PaymentStatus" "rank" "I" (.int w5)) (hd0 : w5 < w3) :
    MetFree l (⟨"com/example/charge_ledger/chargeledger/model/PaymentStatus", "outranks", "(Lcom/example/charge_ledger/chargeledger/model/PaymentStatus;)Z"⟩ : MethodName) (head1 (Jvm.Cond.code (⟨"com/example/charge_ledger/chargeledger/model/PaymentStatus", "outranks", "(Lcom/example/charge_ledger/chargeledger/model/PaymentStatus;)Z"⟩ : MethodName) prog_8_method_6_code 2 (some .boolean) :: ws) ({ frames := 0, cells := 0, slots := 0, locals := 0 } : Room)) (fun a U => a = #[(.ref a1), (.ref a2)] ∧ Z.Warmed39 U.vm ∧ U.heap = h0) (fun _ _ _ _ _ => True) (fun _ U o U' => ∃ v L, o = .returned v ∧ Qm1_t Z a1 a2 w3 w5 h0 n0 v U'.heap L ∧ FrameEnd U o U' L ({ frames := 0, cells := 0, slots := 0, locals := 0 } : Room).cells ({ frames := 0, cells := 0, slots := 0, locals := 0 } : Room).slots) := by
  refine MetFree.of_bodySF (plainFor_of_name pn_1) hisR ?_
  intro p e s m args below meth c s₁ Bd hml0 hP hK
  obtain ⟨rfl, hZ, hh⟩ := hP
  have hx := Bd.exec
  have hby := Bd.bytes
  have hml : c.maxLocals = 2 := hml0
  have hown : s.vm.findClass "com/example/charge_ledger/chargeledger/model/PaymentStatus" = some m.cls := findClass_of_methodNamed Bd.named
  have hnm := (name_of_methodNamed Bd.named Bd.method).1
  have X0 : Stand p l e ({ frames := 0, cells := 0, slots := 0, locals := 0 } : Room) s m #[(.ref a1), (.ref a2)] below meth c s₁ [] 0 0 := Stand.of_body Bd
  have e0 : s₁.heap = h0 := by rw [← hh, Bd.state]; rfl
  have N0 := Fr.nil n0
  refine Go.en (ef_1 m a1 a2) ?_
  show Go p e below _ (s₁.setTop (mkF m 0 #[.val (.ref a1), .val (.ref a2)] []))
  refine Go.st (fun _ kk => XS.aloadN X0.here hx rfl (hb hby d1_0) rfl rfl  kk) ?_
  show Go p e below _ (s₁.setTop (mkF m 1 #[.val (.ref a1), .val (.ref a2)] [(.ref a1)]))
  obtain ⟨T4, X4, e4, st4⟩ := getF X0 hx hZ hown (host := "") (Or.inl (hw _ (List.mem_of_getElem? (i := 20) rfl))) Via.refl e0 F_rank_a1 (g := (mkF m 1 #[.val (.ref a1), .val (.ref a2)] [(.ref a1)])) rfl rfl (hb hby d1_1)
  refine Go.st st4 ?_
  show Go p e below _ (T4.setTop (mkF m 4 #[.val (.ref a1), .val (.ref a2)] [(.int w3)]))
  refine Go.st (fun _ kk => XS.aloadN X4.here hx rfl (hb hby d1_4) rfl rfl  kk) ?_
  show Go p e below _ (T4.setTop (mkF m 5 #[.val (.ref a1), .val (.ref a2)] [(.ref a2), (.int w3)]))
  obtain ⟨T6, X6, e6, st6⟩ := getF X4 hx hZ hown (host := "") (Or.inl (hw _ (List.mem_of_getElem? (i := 20) rfl))) Via.refl e4 F_rank_a2 (g := (mkF m 5 #[.val (.ref a1), .val (.ref a2)] [(.ref a2), (.int w3)])) rfl rfl (hb hby d1_5)
  refine Go.st st6 ?_
  show Go p e below _ (T6.setTop (mkF m 8 #[.val (.ref a1), .val (.ref a2)] [(.int w5), (.int w3)]))
  refine Go.st (fun _ kk => XS.icmpNo X6.here hx rfl (hb hby d1_8) rfl (tlt hd0).2.2.2 kk) ?_
  show Go p e below _ (T6.setTop (mkF m 11 #[.val (.ref a1), .val (.ref a2)] []))
  refine Go.st (fun _ kk => XS.iconst X6.here hx rfl (hb hby d1_11) kk) ?_
  show Go p e below _ (T6.setTop (mkF m 12 #[.val (.ref a1), .val (.ref a2)] [(.int (1 : Int32))]))
  refine Go.st (fun _ kk => XS.goto X6.here hx rfl (pc0 := 12) (pc' := 16) rfl (hb hby d1_12) (by decide) (by decide) kk) ?_
  show Go p e below _ (T6.setTop (mkF m 16 #[.val (.ref a1), .val (.ref a2)] [(.int (1 : Int32))]))
  exact Go.ret (Q := Qm1_t Z a1 a2 w3 w5 h0 n0) X6 (v := some (.int (1 : Int32))) (fun h => by rw [Bd.returns] at h; cases h) Bd.notSynchronized (fun fs hr => retN X6 hx (t := .boolean) Bd.returns (by simp) (hb hby d1_16) hr) e6 ⟨rfl, N0, rfl⟩ (by decide) (by decide)
def Qm1_f (Z : State) (a1 : Addr) (a2 : Addr) (w3 : Int32) (w5 : Int32) (h0 : Heap) (n0 : Nat) (v : Option Value) (h : Heap) (L : List Loc) : Prop := v = some (.int (0 : Int32)) ∧ Fr n0 L ∧ h = h0
set_option maxRecDepth 65536 in
set_option maxHeartbeats 40000000 in
theorem rm1_f (l : Launch) (Z : State) (a0 : Array Value) (hw : ∀ d ∈ tables_1, d.before a0 Z = true) (ws : List Jvm.Cond) (a1 : Addr) (a2 : Addr) (w3 : Int32) (w5 : Int32) (h0 : Heap) (n0 : Nat) (Z0 : n0 ≤ h0.size) (F_rank_a1 : Fld Z h0 a1 "com/example/charge_ledger/chargeledger/model/PaymentStatus" "rank" "I" (.int w3)) (F_rank_a2 : Fld Z h0 a2 "com/example/charge_ledger/chargeledger/model/PaymentStatus" "rank" "I" (.int w5)) (hd0 : ¬ (w5 < w3)) :
    MetFree l (⟨"com/example/charge_ledger/chargeledger/model/PaymentStatus", "outranks", "(Lcom/example/charge_ledger/chargeledger/model/PaymentStatus;)Z"⟩ : MethodName) (head1 (Jvm.Cond.code (⟨"com/example/charge_ledger/chargeledger/model/PaymentStatus", "outranks", "(Lcom/example/charge_ledger/chargeledger/model/PaymentStatus;)Z"⟩ : MethodName) prog_8_method_6_code 2 (some .boolean) :: ws) ({ frames := 0, cells := 0, slots := 0, locals := 0 } : Room)) (fun a U => a = #[(.ref a1), (.ref a2)] ∧ Z.Warmed39 U.vm ∧ U.heap = h0) (fun _ _ _ _ _ => True) (fun _ U o U' => ∃ v L, o = .returned v ∧ Qm1_f Z a1 a2 w3 w5 h0 n0 v U'.heap L ∧ FrameEnd U o U' L ({ frames := 0, cells := 0, slots := 0, locals := 0 } : Room).cells ({ frames := 0, cells := 0, slots := 0, locals := 0 } : Room).slots) := by
  refine MetFree.of_bodySF (plainFor_of_name pn_1) hisR ?_
  intro p e s m args below meth c s₁ Bd hml0 hP hK
  obtain ⟨rfl, hZ, hh⟩ := hP
  have hx := Bd.exec
  have hby := Bd.bytes
  have hml : c.maxLocals = 2 := hml0
  have hown : s.vm.findClass "com/example/charge_ledger/chargeledger/model/PaymentStatus" = some m.cls := findClass_of_methodNamed Bd.named
  have hnm := (name_of_methodNamed Bd.named Bd.method).1
  have X0 : Stand p l e ({ frames := 0, cells := 0, slots := 0, locals := 0 } : Room) s m #[(.ref a1), (.ref a2)] below meth c s₁ [] 0 0 := Stand.of_body Bd
  have e0 : s₁.heap = h0 := by rw [← hh, Bd.state]; rfl
  have N0 := Fr.nil n0
  refine Go.en (ef_1 m a1 a2) ?_
  show Go p e below _ (s₁.setTop (mkF m 0 #[.val (.ref a1), .val (.ref a2)] []))
  refine Go.st (fun _ kk => XS.aloadN X0.here hx rfl (hb hby d1_0) rfl rfl  kk) ?_
  show Go p e below _ (s₁.setTop (mkF m 1 #[.val (.ref a1), .val (.ref a2)] [(.ref a1)]))
  obtain ⟨T4, X4, e4, st4⟩ := getF X0 hx hZ hown (host := "") (Or.inl (hw _ (List.mem_of_getElem? (i := 20) rfl))) Via.refl e0 F_rank_a1 (g := (mkF m 1 #[.val (.ref a1), .val (.ref a2)] [(.ref a1)])) rfl rfl (hb hby d1_1)
  refine Go.st st4 ?_
  show Go p e below _ (T4.setTop (mkF m 4 #[.val (.ref a1), .val (.ref a2)] [(.int w3)]))
  refine Go.st (fun _ kk => XS.aloadN X4.here hx rfl (hb hby d1_4) rfl rfl  kk) ?_
  show Go p e below _ (T4.setTop (mkF m 5 #[.val (.ref a1), .val (.ref a2)] [(.ref a2), (.int w3)]))
  obtain ⟨T6, X6, e6, st6⟩ := getF X4 hx hZ hown (host := "") (Or.inl (hw _ (List.mem_of_getElem? (i := 20) rfl))) Via.refl e4 F_rank_a2 (g := (mkF m 5 #[.val (.ref a1), .val (.ref a2)] [(.ref a2), (.int w3)])) rfl rfl (hb hby d1_5)
  refine Go.st st6 ?_
  show Go p e below _ (T6.setTop (mkF m 8 #[.val (.ref a1), .val (.ref a2)] [(.int w5), (.int w3)]))
  refine Go.st (fun _ kk => XS.icmpYes X6.here hx rfl (pc0 := 8) (pc' := 15) rfl (hb hby d1_8) rfl (flt hd0).2.2.2 (by decide) (by decide) kk) ?_
  show Go p e below _ (T6.setTop (mkF m 15 #[.val (.ref a1), .val (.ref a2)] []))
  refine Go.st (fun _ kk => XS.iconst X6.here hx rfl (hb hby d1_15) kk) ?_
  show Go p e below _ (T6.setTop (mkF m 16 #[.val (.ref a1), .val (.ref a2)] [(.int (0 : Int32))]))
  exact Go.ret (Q := Qm1_f Z a1 a2 w3 w5 h0 n0) X6 (v := some (.int (0 : Int32))) (fun h => by rw [Bd.returns] at h; cases h) Bd.notSynchronized (fun fs hr => retN X6 hx (t := .boolean) Bd.returns (by simp) (hb hby d1_16) hr) e6 ⟨rfl, N0, rfl⟩ (by decide) (by decide)
def Q0 (n0 : Nat) (v : Option Value) (h : Heap) (L : List Loc) : Prop := v = some (.int (1 : Int32)) ∧ Fr n0 L
set_option maxRecDepth 65536 in
set_option maxHeartbeats 40000000 in
theorem rm0 (l : Launch) (Z : State) (a0 : Array Value) (hw : ∀ d ∈ tables_1, d.before a0 Z = true) (ws : List Jvm.Cond) (p1 : Int32) (p2 : Int32) (w_REQUIRES_PAYMENT_METHOD : Addr) (w_PROCESSING : Addr) (w_SUCCEEDED : Addr) (w_FAILED : Addr) (w_CANCELED : Addr) (h0 : Heap) (n0 : Nat) (Z0 : n0 ≤ h0.size) (S_REQUIRES_PAYMENT_METHOD : Sta Z h0 "com/example/charge_ledger/chargeledger/model/PaymentStatus" "REQUIRES_PAYMENT_METHOD" "Lcom/example/charge_ledger/chargeledger/model/PaymentStatus;" (.ref w_REQUIRES_PAYMENT_METHOD)) (E_w_REQUIRES_PAYMENT_METHOD : Exa Z h0 w_REQUIRES_PAYMENT_METHOD "com/example/charge_ledger/chargeledger/model/PaymentStatus") (S_PROCESSING : Sta Z h0 "com/example/charge_ledger/chargeledger/model/PaymentStatus" "PROCESSING" "Lcom/example/charge_ledger/chargeledger/model/PaymentStatus;" (.ref w_PROCESSING)) (E_w_PROCESSING : Exa Z h0 w_PROCESSING "com/example/charge_ledger/chargeledger/model/PaymentStatus") (S_SUCCEEDED : Sta Z h0 "com/example/charge_ledger/chargeledger/model/PaymentStatus" "SUCCEEDED" "Lcom/example/charge_ledger/chargeledger/model/PaymentStatus;" (.ref w_SUCCEEDED)) (E_w_SUCCEEDED : Exa Z h0 w_SUCCEEDED "com/example/charge_ledger/chargeledger/model/PaymentStatus") (S_FAILED : Sta Z h0 "com/example/charge_ledger/chargeledger/model/PaymentStatus" "FAILED" "Lcom/example/charge_ledger/chargeledger/model/PaymentStatus;" (.ref w_FAILED)) (E_w_FAILED : Exa Z h0 w_FAILED "com/example/charge_ledger/chargeledger/model/PaymentStatus") (S_CANCELED : Sta Z h0 "com/example/charge_ledger/chargeledger/model/PaymentStatus" "CANCELED" "Lcom/example/charge_ledger/chargeledger/model/PaymentStatus;" (.ref w_CANCELED)) (E_w_CANCELED : Exa Z h0 w_CANCELED "com/example/charge_ledger/chargeledger/model/PaymentStatus") (F_ordinal_w_REQUIRES_PAYMENT_METHOD : Fld Z h0 w_REQUIRES_PAYMENT_METHOD "java/lang/Enum" "ordinal" "I" (.int (0 : Int32))) (F_ordinal_w_SUCCEEDED : Fld Z h0 w_SUCCEEDED "java/lang/Enum" "ordinal" "I" (.int (2 : Int32))) (F_ordinal_w_CANCELED : Fld Z h0 w_CANCELED "java/lang/Enum" "ordinal" "I" (.int (4 : Int32))) (F_rank_w_REQUIRES_PAYMENT_METHOD : Fld Z h0 w_REQUIRES_PAYMENT_METHOD "com/example/charge_ledger/chargeledger/model/PaymentStatus" "rank" "I" (.int (0 : Int32))) (F_rank_w_FAILED : Fld Z h0 w_FAILED "com/example/charge_ledger/chargeledger/model/PaymentStatus" "rank" "I" (.int (0 : Int32))) (F_ordinal_w_PROCESSING : Fld Z h0 w_PROCESSING "java/lang/Enum" "ordinal" "I" (.int (1 : Int32))) (F_rank_w_CANCELED : Fld Z h0 w_CANCELED "com/example/charge_ledger/chargeledger/model/PaymentStatus" "rank" "I" (.int (1 : Int32))) (F_rank_w_PROCESSING : Fld Z h0 w_PROCESSING "com/example/charge_ledger/chargeledger/model/PaymentStatus" "rank" "I" (.int (0 : Int32))) (F_ordinal_w_FAILED : Fld Z h0 w_FAILED "java/lang/Enum" "ordinal" "I" (.int (3 : Int32))) (F_rank_w_SUCCEEDED : Fld Z h0 w_SUCCEEDED "com/example/charge_ledger/chargeledger/model/PaymentStatus" "rank" "I" (.int (2 : Int32))) :
    MetFree l x (head1 (Jvm.Cond.code x code maxLocals ret :: ws) room_1) (fun a U => a = #[(.int p1), (.int p2)] ∧ Z.Warmed39 U.vm ∧ U.heap = h0) (fun _ _ _ _ _ => True) (fun _ U o U' => ∃ v L, o = .returned v ∧ Q0 n0 v U'.heap L ∧ FrameEnd U o U' L room_1.cells room_1.slots) := by
  refine MetFree.of_bodySF (plainFor_of_name pn_0) hisR ?_
  intro p e s m args below meth c s₁ Bd hml0 hP hK
  obtain ⟨rfl, hZ, hh⟩ := hP
  have hx := Bd.exec
  have hby := Bd.bytes
  have hml : c.maxLocals = 6 := hml0
  have hown : s.vm.findClass "com/example/charge_ledger/chargeledger/model/PaymentStatusOutranksPinLaw" = some m.cls := findClass_of_methodNamed Bd.named
  have hnm := (name_of_methodNamed Bd.named Bd.method).1
  have X0 : Stand p l e room_1 s m #[(.int p1), (.int p2)] below meth c s₁ [] 0 0 := Stand.of_body Bd
  have e0 : s₁.heap = h0 := by rw [← hh, Bd.state]; rfl
  have N0 := Fr.nil n0
  refine Go.en (ef_0 m p1 p2) ?_
  show Go p e below _ (s₁.setTop (mkF m 0 #[.val (.int p1), .val (.int p2), .unset, .unset, .unset, .unset] []))
  refine Go.st (fun _ kk => XS.iconst X0.here hx rfl (hb hby at_0) kk) ?_
  show Go p e below _ (s₁.setTop (mkF m 1 #[.val (.int p1), .val (.int p2), .unset, .unset, .unset, .unset] [(.int (5 : Int32))]))
  obtain ⟨T3, h3, k3, X3, e3, E3, A3, O3, st3⟩ := newR X0 hx hZ hown (hw _ (List.mem_of_getElem? (i := 0) rfl)) (hw _ (List.mem_of_getElem? (i := 1) rfl)) e0 (g := (mkF m 1 #[.val (.int p1), .val (.int p2), .unset, .unset, .unset, .unset] [(.int (5 : Int32))])) rfl (hb hby at_1) rfl (by decide) (cap := 5) (by decide) (by decide) (by decide) (by decide)
  obtain ⟨b3, g3⟩ : ∃ z, z = h0.size := ⟨_, rfl⟩
  rw [← g3] at A3 st3
  refine Go.st st3 ?_
  have g_b3 : n0 ≤ b3 := Nat.le_trans Z0 (Nat.le_of_eq g3.symm)
  have sz_b3 : h0.size ≤ b3 := Nat.le_of_eq g3.symm
  have K3 : Keep h0 h3 [] := (Keep.refl h0 []).ext E3
  have V_b3 : Arv Z h3 b3 k3 (.object "com/example/charge_ledger/chargeledger/model/PaymentStatus") (5 : Int32) [.null, .null, .null, .null, .null] .null := (Arv.new A3 (by decide)).pad (pad_rep [] .null 5)
  show Go p e below _ (T3.setTop (mkF m 4 #[.val (.int p1), .val (.int p2), .unset, .unset, .unset, .unset] [(.ref b3)]))
  refine Go.st (fun _ kk => XS.dup X3.here hx rfl (hb hby at_4) rfl rfl kk) ?_
  show Go p e below _ (T3.setTop (mkF m 5 #[.val (.int p1), .val (.int p2), .unset, .unset, .unset, .unset] [(.ref b3), (.ref b3)]))
  refine Go.st (fun _ kk => XS.iconst X3.here hx rfl (hb hby at_5) kk) ?_
  show Go p e below _ (T3.setTop (mkF m 6 #[.val (.int p1), .val (.int p2), .unset, .unset, .unset, .unset] [(.int (0 : Int32)), (.ref b3), (.ref b3)]))
  have f_4 := (staKeep0 S_REQUIRES_PAYMENT_METHOD K3)
  obtain ⟨T5, X5, e5, st5⟩ := getS2 X3 hx hZ hown (host := "") (Or.inl (hw _ (List.mem_of_getElem? (i := 2) rfl))) Via.refl e3 f_4 (g := (mkF m 6 #[.val (.int p1), .val (.int p2), .unset, .unset, .unset, .unset] [(.int (0 : Int32)), (.ref b3), (.ref b3)])) rfl (hb hby at_6)
  refine Go.st st5 ?_
  show Go p e below _ (T5.setTop (mkF m 9 #[.val (.int p1), .val (.int p2), .unset, .unset, .unset, .unset] [(.ref w_REQUIRES_PAYMENT_METHOD), (.int (0 : Int32)), (.ref b3), (.ref b3)]))
  obtain ⟨clq6, Arq6, caq6, saq6, naq6, haq6, gaq6⟩ := id V_b3
  have inq6 : ¬ ((0 : Int32) < 0 ∨ clq6.slots.size ≤ ((0 : Int32)).toNatClampNeg) := inb_of saq6 ⟨by decide, by decide⟩
  have f_7 := (E_w_REQUIRES_PAYMENT_METHOD.keep K3)
  obtain ⟨T8, h8, X8, e8, W8, st8⟩ := stR X5 hx hZ e5 Arq6 (j := (0 : Int32)) inq6 rfl (Sto.ofV Arq6 caq6 O3 (Ins.self f_7)) (g := (mkF m 9 #[.val (.int p1), .val (.int p2), .unset, .unset, .unset, .unset] [(.ref w_REQUIRES_PAYMENT_METHOD), (.int (0 : Int32)), (.ref b3), (.ref b3)])) rfl rfl (hb hby at_9)
  refine Go.st st8 ?_
  have K8 : Keep h0 h8 [] := K3.wr W8 (Or.inr sz_b3)
  have V8 : Arv Z h8 b3 k3 (.object "com/example/charge_ledger/chargeledger/model/PaymentStatus") (5 : Int32) [(.ref w_REQUIRES_PAYMENT_METHOD), .null, .null, .null, .null] .null := Arv.set Arq6 caq6 saq6 naq6 haq6 gaq6 rfl W8 0 rfl (Nat.le_of_ble_eq_true rfl)
  have N8 := Fr.snoc X8 N0 g_b3
  show Go p e below _ (T8.setTop (mkF m 10 #[.val (.int p1), .val (.int p2), .unset, .unset, .unset, .unset] [(.ref b3)]))
  refine Go.st (fun _ kk => XS.dup X8.here hx rfl (hb hby at_10) rfl rfl kk) ?_
  show Go p e below _ (T8.setTop (mkF m 11 #[.val (.int p1), .val (.int p2), .unset, .unset, .unset, .unset] [(.ref b3), (.ref b3)]))
  refine Go.st (fun _ kk => XS.iconst X8.here hx rfl (hb hby at_11) kk) ?_
  show Go p e below _ (T8.setTop (mkF m 12 #[.val (.int p1), .val (.int p2), .unset, .unset, .unset, .unset] [(.int (1 : Int32)), (.ref b3), (.ref b3)]))
  have f_9 := (staKeep0 S_PROCESSING K8)
  obtain ⟨T10, X10, e10, st10⟩ := getS2 X8 hx hZ hown (host := "") (Or.inl (hw _ (List.mem_of_getElem? (i := 6) rfl))) Via.refl e8 f_9 (g := (mkF m 12 #[.val (.int p1), .val (.int p2), .unset, .unset, .unset, .unset] [(.int (1 : Int32)), (.ref b3), (.ref b3)])) rfl (hb hby at_12)
  refine Go.st st10 ?_
  show Go p e below _ (T10.setTop (mkF m 15 #[.val (.int p1), .val (.int p2), .unset, .unset, .unset, .unset] [(.ref w_PROCESSING), (.int (1 : Int32)), (.ref b3), (.ref b3)]))
  obtain ⟨clq11, Arq11, caq11, saq11, naq11, haq11, gaq11⟩ := id V8
  have inq11 : ¬ ((1 : Int32) < 0 ∨ clq11.slots.size ≤ ((1 : Int32)).toNatClampNeg) := inb_of saq11 ⟨by decide, by decide⟩
  have f_12 := (E_w_PROCESSING.keep K8)
  obtain ⟨T13, h13, X13, e13, W13, st13⟩ := stR X10 hx hZ e10 Arq11 (j := (1 : Int32)) inq11 rfl (Sto.ofV Arq11 caq11 O3 (Ins.self f_12)) (g := (mkF m 15 #[.val (.int p1), .val (.int p2), .unset, .unset, .unset, .unset] [(.ref w_PROCESSING), (.int (1 : Int32)), (.ref b3), (.ref b3)])) rfl rfl (hb hby at_15)
  refine Go.st st13 ?_
  have K13 : Keep h0 h13 [] := K8.wr W13 (Or.inr sz_b3)
  have V13 : Arv Z h13 b3 k3 (.object "com/example/charge_ledger/chargeledger/model/PaymentStatus") (5 : Int32) [(.ref w_REQUIRES_PAYMENT_METHOD), (.ref w_PROCESSING), .null, .null, .null] .null := Arv.set Arq11 caq11 saq11 naq11 haq11 gaq11 rfl W13 1 rfl (Nat.le_of_ble_eq_true rfl)
  have N13 := Fr.snoc X13 N8 g_b3
  show Go p e below _ (T13.setTop (mkF m 16 #[.val (.int p1), .val (.int p2), .unset, .unset, .unset, .unset] [(.ref b3)]))
  refine Go.st (fun _ kk => XS.dup X13.here hx rfl (hb hby at_16) rfl rfl kk) ?_
  show Go p e below _ (T13.setTop (mkF m 17 #[.val (.int p1), .val (.int p2), .unset, .unset, .unset, .unset] [(.ref b3), (.ref b3)]))
  refine Go.st (fun _ kk => XS.iconst X13.here hx rfl (hb hby at_17) kk) ?_
  show Go p e below _ (T13.setTop (mkF m 18 #[.val (.int p1), .val (.int p2), .unset, .unset, .unset, .unset] [(.int (2 : Int32)), (.ref b3), (.ref b3)]))
  have f_14 := (staKeep0 S_SUCCEEDED K13)
  obtain ⟨T15, X15, e15, st15⟩ := getS2 X13 hx hZ hown (host := "") (Or.inl (hw _ (List.mem_of_getElem? (i := 8) rfl))) Via.refl e13 f_14 (g := (mkF m 18 #[.val (.int p1), .val (.int p2), .unset, .unset, .unset, .unset] [(.int (2 : Int32)), (.ref b3), (.ref b3)])) rfl (hb hby at_18)
  refine Go.st st15 ?_
  show Go p e below _ (T15.setTop (mkF m 21 #[.val (.int p1), .val (.int p2), .unset, .unset, .unset, .unset] [(.ref w_SUCCEEDED), (.int (2 : Int32)), (.ref b3), (.ref b3)]))
  obtain ⟨clq16, Arq16, caq16, saq16, naq16, haq16, gaq16⟩ := id V13
  have inq16 : ¬ ((2 : Int32) < 0 ∨ clq16.slots.size ≤ ((2 : Int32)).toNatClampNeg) := inb_of saq16 ⟨by decide, by decide⟩
  have f_17 := (E_w_SUCCEEDED.keep K13)
  obtain ⟨T18, h18, X18, e18, W18, st18⟩ := stR X15 hx hZ e15 Arq16 (j := (2 : Int32)) inq16 rfl (Sto.ofV Arq16 caq16 O3 (Ins.self f_17)) (g := (mkF m 21 #[.val (.int p1), .val (.int p2), .unset, .unset, .unset, .unset] [(.ref w_SUCCEEDED), (.int (2 : Int32)), (.ref b3), (.ref b3)])) rfl rfl (hb hby at_21)
  refine Go.st st18 ?_
  have K18 : Keep h0 h18 [] := K13.wr W18 (Or.inr sz_b3)
  have V18 : Arv Z h18 b3 k3 (.object "com/example/charge_ledger/chargeledger/model/PaymentStatus") (5 : Int32) [(.ref w_REQUIRES_PAYMENT_METHOD), (.ref w_PROCESSING), (.ref w_SUCCEEDED), .null, .null] .null := Arv.set Arq16 caq16 saq16 naq16 haq16 gaq16 rfl W18 2 rfl (Nat.le_of_ble_eq_true rfl)
  have N18 := Fr.snoc X18 N13 g_b3
  show Go p e below _ (T18.setTop (mkF m 22 #[.val (.int p1), .val (.int p2), .unset, .unset, .unset, .unset] [(.ref b3)]))
  refine Go.st (fun _ kk => XS.dup X18.here hx rfl (hb hby at_22) rfl rfl kk) ?_
  show Go p e below _ (T18.setTop (mkF m 23 #[.val (.int p1), .val (.int p2), .unset, .unset, .unset, .unset] [(.ref b3), (.ref b3)]))
  refine Go.st (fun _ kk => XS.iconst X18.here hx rfl (hb hby at_23) kk) ?_
  show Go p e below _ (T18.setTop (mkF m 24 #[.val (.int p1), .val (.int p2), .unset, .unset, .unset, .unset] [(.int (3 : Int32)), (.ref b3), (.ref b3)]))
  have f_19 := (staKeep0 S_FAILED K18)
  obtain ⟨T20, X20, e20, st20⟩ := getS2 X18 hx hZ hown (host := "") (Or.inl (hw _ (List.mem_of_getElem? (i := 10) rfl))) Via.refl e18 f_19 (g := (mkF m 24 #[.val (.int p1), .val (.int p2), .unset, .unset, .unset, .unset] [(.int (3 : Int32)), (.ref b3), (.ref b3)])) rfl (hb hby at_24)
  refine Go.st st20 ?_
  show Go p e below _ (T20.setTop (mkF m 27 #[.val (.int p1), .val (.int p2), .unset, .unset, .unset, .unset] [(.ref w_FAILED), (.int (3 : Int32)), (.ref b3), (.ref b3)]))
  obtain ⟨clq21, Arq21, caq21, saq21, naq21, haq21, gaq21⟩ := id V18
  have inq21 : ¬ ((3 : Int32) < 0 ∨ clq21.slots.size ≤ ((3 : Int32)).toNatClampNeg) := inb_of saq21 ⟨by decide, by decide⟩
  have f_22 := (E_w_FAILED.keep K18)
  obtain ⟨T23, h23, X23, e23, W23, st23⟩ := stR X20 hx hZ e20 Arq21 (j := (3 : Int32)) inq21 rfl (Sto.ofV Arq21 caq21 O3 (Ins.self f_22)) (g := (mkF m 27 #[.val (.int p1), .val (.int p2), .unset, .unset, .unset, .unset] [(.ref w_FAILED), (.int (3 : Int32)), (.ref b3), (.ref b3)])) rfl rfl (hb hby at_27)
  refine Go.st st23 ?_
  have K23 : Keep h0 h23 [] := K18.wr W23 (Or.inr sz_b3)
  have V23 : Arv Z h23 b3 k3 (.object "com/example/charge_ledger/chargeledger/model/PaymentStatus") (5 : Int32) [(.ref w_REQUIRES_PAYMENT_METHOD), (.ref w_PROCESSING), (.ref w_SUCCEEDED), (.ref w_FAILED), .null] .null := Arv.set Arq21 caq21 saq21 naq21 haq21 gaq21 rfl W23 3 rfl (Nat.le_of_ble_eq_true rfl)
  have N23 := Fr.snoc X23 N18 g_b3
  show Go p e below _ (T23.setTop (mkF m 28 #[.val (.int p1), .val (.int p2), .unset, .unset, .unset, .unset] [(.ref b3)]))
  refine Go.st (fun _ kk => XS.dup X23.here hx rfl (hb hby at_28) rfl rfl kk) ?_
  show Go p e below _ (T23.setTop (mkF m 29 #[.val (.int p1), .val (.int p2), .unset, .unset, .unset, .unset] [(.ref b3), (.ref b3)]))
  refine Go.st (fun _ kk => XS.iconst X23.here hx rfl (hb hby at_29) kk) ?_
  show Go p e below _ (T23.setTop (mkF m 30 #[.val (.int p1), .val (.int p2), .unset, .unset, .unset, .unset] [(.int (4 : Int32)), (.ref b3), (.ref b3)]))
  have f_24 := (staKeep0 S_CANCELED K23)
  obtain ⟨T25, X25, e25, st25⟩ := getS2 X23 hx hZ hown (host := "") (Or.inl (hw _ (List.mem_of_getElem? (i := 12) rfl))) Via.refl e23 f_24 (g := (mkF m 30 #[.val (.int p1), .val (.int p2), .unset, .unset, .unset, .unset] [(.int (4 : Int32)), (.ref b3), (.ref b3)])) rfl (hb hby at_30)
  refine Go.st st25 ?_
  show Go p e below _ (T25.setTop (mkF m 33 #[.val (.int p1), .val (.int p2), .unset, .unset, .unset, .unset] [(.ref w_CANCELED), (.int (4 : Int32)), (.ref b3), (.ref b3)]))
  obtain ⟨clq26, Arq26, caq26, saq26, naq26, haq26, gaq26⟩ := id V23
  have inq26 : ¬ ((4 : Int32) < 0 ∨ clq26.slots.size ≤ ((4 : Int32)).toNatClampNeg) := inb_of saq26 ⟨by decide, by decide⟩
  have f_27 := (E_w_CANCELED.keep K23)
  obtain ⟨T28, h28, X28, e28, W28, st28⟩ := stR X25 hx hZ e25 Arq26 (j := (4 : Int32)) inq26 rfl (Sto.ofV Arq26 caq26 O3 (Ins.self f_27)) (g := (mkF m 33 #[.val (.int p1), .val (.int p2), .unset, .unset, .unset, .unset] [(.ref w_CANCELED), (.int (4 : Int32)), (.ref b3), (.ref b3)])) rfl rfl (hb hby at_33)
  refine Go.st st28 ?_
  have K28 : Keep h0 h28 [] := K23.wr W28 (Or.inr sz_b3)
  have V28 : Arv Z h28 b3 k3 (.object "com/example/charge_ledger/chargeledger/model/PaymentStatus") (5 : Int32) [(.ref w_REQUIRES_PAYMENT_METHOD), (.ref w_PROCESSING), (.ref w_SUCCEEDED), (.ref w_FAILED), (.ref w_CANCELED)] .null := Arv.set Arq26 caq26 saq26 naq26 haq26 gaq26 rfl W28 4 rfl (Nat.le_of_ble_eq_true rfl)
  have N28 := Fr.snoc X28 N23 g_b3
  show Go p e below _ (T28.setTop (mkF m 34 #[.val (.int p1), .val (.int p2), .unset, .unset, .unset, .unset] [(.ref b3)]))
  refine Go.st (fun _ kk => XS.astoreN X28.here hx rfl (hb hby at_34) rfl rfl (l' := #[.val (.int p1), .val (.int p2), .val (.ref b3), .unset, .unset, .unset]) rfl kk) ?_
  show Go p e below _ (T28.setTop (mkF m 35 #[.val (.int p1), .val (.int p2), .val (.ref b3), .unset, .unset, .unset] []))
  refine Go.st (fun _ kk => XS.aloadN X28.here hx rfl (hb hby at_35) rfl rfl  kk) ?_
  show Go p e below _ (T28.setTop (mkF m 36 #[.val (.int p1), .val (.int p2), .val (.ref b3), .unset, .unset, .unset] [(.ref b3)]))
  refine Go.st (fun _ kk => XS.iloadN X28.here hx rfl (hb hby at_36) rfl  kk) ?_
  show Go p e below _ (T28.setTop (mkF m 37 #[.val (.int p1), .val (.int p2), .val (.ref b3), .unset, .unset, .unset] [(.int p1), (.ref b3)]))
  refine Go.st (fun _ kk => X28.ldcInt hx hown (mvT hZ (hw _ (List.mem_of_getElem? (i := 14) rfl))) (g := (mkF m 37 #[.val (.int p1), .val (.int p2), .val (.ref b3), .unset, .unset, .unset] [(.int p1), (.ref b3)])) rfl (hb hby at_37) _ kk) ?_
  show Go p e below _ (T28.setTop (mkF m 39 #[.val (.int p1), .val (.int p2), .val (.ref b3), .unset, .unset, .unset] [(.int (2147483647 : Int32)), (.int p1), (.ref b3)]))
  refine Go.st (fun _ kk => XS.iand X28.here hx rfl (hb hby at_39) rfl kk) ?_
  show Go p e below _ (T28.setTop (mkF m 40 #[.val (.int p1), .val (.int p2), .val (.ref b3), .unset, .unset, .unset] [(.int (p1 &&& (2147483647 : Int32))), (.ref b3)]))
  refine Go.st (fun _ kk => XS.iconst X28.here hx rfl (hb hby at_40) kk) ?_
  show Go p e below _ (T28.setTop (mkF m 41 #[.val (.int p1), .val (.int p2), .val (.ref b3), .unset, .unset, .unset] [(.int (5 : Int32)), (.int (p1 &&& (2147483647 : Int32))), (.ref b3)]))
  refine Go.st (fun _ kk => iremM (g := (mkF m 41 #[.val (.int p1), .val (.int p2), .val (.ref b3), .unset, .unset, .unset] [(.int (5 : Int32)), (.int (p1 &&& (2147483647 : Int32))), (.ref b3)])) X28 hx rfl (hb hby at_41) rfl (by decide : ¬ ((5 : Int32) = (0 : Int32))) kk) ?_
  show Go p e below _ (T28.setTop (mkF m 42 #[.val (.int p1), .val (.int p2), .val (.ref b3), .unset, .unset, .unset] [(.int ((p1 &&& (2147483647 : Int32)) % (5 : Int32))), (.ref b3)]))
  rcases (own_k p1 : ((p1 &&& (2147483647 : Int32)) % (5 : Int32)) = (0 : Int32) ∨ ((p1 &&& (2147483647 : Int32)) % (5 : Int32)) = (1 : Int32) ∨ ((p1 &&& (2147483647 : Int32)) % (5 : Int32)) = (2 : Int32) ∨ ((p1 &&& (2147483647 : Int32)) % (5 : Int32)) = (3 : Int32) ∨ ((p1 &&& (2147483647 : Int32)) % (5 : Int32)) = (4 : Int32)) with hk29 | hk30 | hk31 | hk32 | hk33
  · skip
    rw [hk29]
    show Go p e below _ (T28.setTop (mkF m 42 #[.val (.int p1), .val (.int p2), .val (.ref b3), .unset, .unset, .unset] [(.int (0 : Int32)), (.ref b3)]))
    obtain ⟨clq34, Arq34, caq34, saq34, naq34, haq34, gaq34⟩ := id V28
    have inq34 : ¬ ((0 : Int32) < 0 ∨ clq34.slots.size ≤ ((0 : Int32)).toNatClampNeg) := inb_of saq34 ⟨by decide, by decide⟩
    have atq34 : clq34.slots[((0 : Int32)).toNatClampNeg]? = some (.ref w_REQUIRES_PAYMENT_METHOD) := haq34.at inq34 rfl
    refine Go.st (fun _ kk => X28.aaload hx (j := (0 : Int32)) (v := (.ref w_REQUIRES_PAYMENT_METHOD)) (by rw [e28]; exact Arq34.1) (State.isArrayOf_alike hZ.alike Arq34.2.1) rfl Arq34.2.2 inq34 atq34 (g := (mkF m 42 #[.val (.int p1), .val (.int p2), .val (.ref b3), .unset, .unset, .unset] [(.int (0 : Int32)), (.ref b3)])) rfl rfl (hb hby at_42) _ kk) ?_
    show Go p e below _ (T28.setTop (mkF m 43 #[.val (.int p1), .val (.int p2), .val (.ref b3), .unset, .unset, .unset] [(.ref w_REQUIRES_PAYMENT_METHOD)]))
    refine Go.st (fun _ kk => XS.astoreN X28.here hx rfl (hb hby at_43) rfl rfl (l' := #[.val (.int p1), .val (.int p2), .val (.ref b3), .val (.ref w_REQUIRES_PAYMENT_METHOD), .unset, .unset]) rfl kk) ?_
    show Go p e below _ (T28.setTop (mkF m 44 #[.val (.int p1), .val (.int p2), .val (.ref b3), .val (.ref w_REQUIRES_PAYMENT_METHOD), .unset, .unset] []))
    refine Go.st (fun _ kk => XS.aloadN X28.here hx rfl (hb hby at_44) rfl rfl  kk) ?_
    show Go p e below _ (T28.setTop (mkF m 45 #[.val (.int p1), .val (.int p2), .val (.ref b3), .val (.ref w_REQUIRES_PAYMENT_METHOD), .unset, .unset] [(.ref b3)]))
    refine Go.st (fun _ kk => XS.iloadN X28.here hx rfl (hb hby at_45) rfl  kk) ?_
    show Go p e below _ (T28.setTop (mkF m 46 #[.val (.int p1), .val (.int p2), .val (.ref b3), .val (.ref w_REQUIRES_PAYMENT_METHOD), .unset, .unset] [(.int p2), (.ref b3)]))
    refine Go.st (fun _ kk => X28.ldcInt hx hown (mvT hZ (hw _ (List.mem_of_getElem? (i := 14) rfl))) (g := (mkF m 46 #[.val (.int p1), .val (.int p2), .val (.ref b3), .val (.ref w_REQUIRES_PAYMENT_METHOD), .unset, .unset] [(.int p2), (.ref b3)])) rfl (hb hby at_46) _ kk) ?_
    show Go p e below _ (T28.setTop (mkF m 48 #[.val (.int p1), .val (.int p2), .val (.ref b3), .val (.ref w_REQUIRES_PAYMENT_METHOD), .unset, .unset] [(.int (2147483647 : Int32)), (.int p2), (.ref b3)]))
    refine Go.st (fun _ kk => XS.iand X28.here hx rfl (hb hby at_48) rfl kk) ?_
    show Go p e below _ (T28.setTop (mkF m 49 #[.val (.int p1), .val (.int p2), .val (.ref b3), .val (.ref w_REQUIRES_PAYMENT_METHOD), .unset, .unset] [(.int (p2 &&& (2147483647 : Int32))), (.ref b3)]))
    refine Go.st (fun _ kk => XS.iconst X28.here hx rfl (hb hby at_49) kk) ?_
    show Go p e below _ (T28.setTop (mkF m 50 #[.val (.int p1), .val (.int p2), .val (.ref b3), .val (.ref w_REQUIRES_PAYMENT_METHOD), .unset, .unset] [(.int (5 : Int32)), (.int (p2 &&& (2147483647 : Int32))), (.ref b3)]))
    refine Go.st (fun _ kk => iremM (g := (mkF m 50 #[.val (.int p1), .val (.int p2), .val (.ref b3), .val (.ref w_REQUIRES_PAYMENT_METHOD), .unset, .unset] [(.int (5 : Int32)), (.int (p2 &&& (2147483647 : Int32))), (.ref b3)])) X28 hx rfl (hb hby at_50) rfl (by decide : ¬ ((5 : Int32) = (0 : Int32))) kk) ?_
    show Go p e below _ (T28.setTop (mkF m 51 #[.val (.int p1), .val (.int p2), .val (.ref b3), .val (.ref w_REQUIRES_PAYMENT_METHOD), .unset, .unset] [(.int ((p2 &&& (2147483647 : Int32)) % (5 : Int32))), (.ref b3)]))
    rcases (own_k p2 : ((p2 &&& (2147483647 : Int32)) % (5 : Int32)) = (0 : Int32) ∨ ((p2 &&& (2147483647 : Int32)) % (5 : Int32)) = (1 : Int32) ∨ ((p2 &&& (2147483647 : Int32)) % (5 : Int32)) = (2 : Int32) ∨ ((p2 &&& (2147483647 : Int32)) % (5 : Int32)) = (3 : Int32) ∨ ((p2 &&& (2147483647 : Int32)) % (5 : Int32)) = (4 : Int32)) with hk35 | hk36 | hk37 | hk38 | hk39
    · skip
      rw [hk35]
      show Go p e below _ (T28.setTop (mkF m 51 #[.val (.int p1), .val (.int p2), .val (.ref b3), .val (.ref w_REQUIRES_PAYMENT_METHOD), .unset, .unset] [(.int (0 : Int32)), (.ref b3)]))
      obtain ⟨clq40, Arq40, caq40, saq40, naq40, haq40, gaq40⟩ := id V28
      have inq40 : ¬ ((0 : Int32) < 0 ∨ clq40.slots.size ≤ ((0 : Int32)).toNatClampNeg) := inb_of saq40 ⟨by decide, by decide⟩
      have atq40 : clq40.slots[((0 : Int32)).toNatClampNeg]? = some (.ref w_REQUIRES_PAYMENT_METHOD) := haq40.at inq40 rfl
      refine Go.st (fun _ kk => X28.aaload hx (j := (0 : Int32)) (v := (.ref w_REQUIRES_PAYMENT_METHOD)) (by rw [e28]; exact Arq40.1) (State.isArrayOf_alike hZ.alike Arq40.2.1) rfl Arq40.2.2 inq40 atq40 (g := (mkF m 51 #[.val (.int p1), .val (.int p2), .val (.ref b3), .val (.ref w_REQUIRES_PAYMENT_METHOD), .unset, .unset] [(.int (0 : Int32)), (.ref b3)])) rfl rfl (hb hby at_51) _ kk) ?_
      show Go p e below _ (T28.setTop (mkF m 52 #[.val (.int p1), .val (.int p2), .val (.ref b3), .val (.ref w_REQUIRES_PAYMENT_METHOD), .unset, .unset] [(.ref w_REQUIRES_PAYMENT_METHOD)]))
      refine Go.st (fun _ kk => XS.astore X28.here hx rfl (hb hby at_52) rfl rfl (l' := #[.val (.int p1), .val (.int p2), .val (.ref b3), .val (.ref w_REQUIRES_PAYMENT_METHOD), .val (.ref w_REQUIRES_PAYMENT_METHOD), .unset]) rfl kk) ?_
      show Go p e below _ (T28.setTop (mkF m 54 #[.val (.int p1), .val (.int p2), .val (.ref b3), .val (.ref w_REQUIRES_PAYMENT_METHOD), .val (.ref w_REQUIRES_PAYMENT_METHOD), .unset] []))
      refine Go.st (fun _ kk => XS.aloadN X28.here hx rfl (hb hby at_54) rfl rfl  kk) ?_
      show Go p e below _ (T28.setTop (mkF m 55 #[.val (.int p1), .val (.int p2), .val (.ref b3), .val (.ref w_REQUIRES_PAYMENT_METHOD), .val (.ref w_REQUIRES_PAYMENT_METHOD), .unset] [(.ref w_REQUIRES_PAYMENT_METHOD)]))
      have f_41 := (Sta.wr W28 (Sta.wr W23 (Sta.wr W18 f_14)))
      obtain ⟨T42, X42, e42, st42⟩ := getS2 X28 hx hZ hown (host := "") (Or.inl (hw _ (List.mem_of_getElem? (i := 8) rfl))) Via.refl e28 f_41 (g := (mkF m 55 #[.val (.int p1), .val (.int p2), .val (.ref b3), .val (.ref w_REQUIRES_PAYMENT_METHOD), .val (.ref w_REQUIRES_PAYMENT_METHOD), .unset] [(.ref w_REQUIRES_PAYMENT_METHOD)])) rfl (hb hby at_55)
      refine Go.st st42 ?_
      show Go p e below _ (T42.setTop (mkF m 58 #[.val (.int p1), .val (.int p2), .val (.ref b3), .val (.ref w_REQUIRES_PAYMENT_METHOD), .val (.ref w_REQUIRES_PAYMENT_METHOD), .unset] [(.ref w_SUCCEEDED), (.ref w_REQUIRES_PAYMENT_METHOD)]))
      refine Go.st (fun _ kk => Jvm.RoadKit.acmp (g := (mkF m 58 #[.val (.int p1), .val (.int p2), .val (.ref b3), .val (.ref w_REQUIRES_PAYMENT_METHOD), .val (.ref w_REQUIRES_PAYMENT_METHOD), .unset] [(.ref w_SUCCEEDED), (.ref w_REQUIRES_PAYMENT_METHOD)])) X42 hx rfl rfl rfl (pc0 := 58) (pc' := 79) (same := false) rfl (hb hby at_58) rfl (decide_eq_false fun q => (Fld.ne F_ordinal_w_REQUIRES_PAYMENT_METHOD F_ordinal_w_SUCCEEDED (by decide)) (Value.ref.inj q)) (by decide) (by decide) kk) ?_
      show Go p e below _ (T42.setTop (mkF m 79 #[.val (.int p1), .val (.int p2), .val (.ref b3), .val (.ref w_REQUIRES_PAYMENT_METHOD), .val (.ref w_REQUIRES_PAYMENT_METHOD), .unset] []))
      refine Go.st (fun _ kk => XS.aloadN X42.here hx rfl (hb hby at_79) rfl rfl  kk) ?_
      show Go p e below _ (T42.setTop (mkF m 80 #[.val (.int p1), .val (.int p2), .val (.ref b3), .val (.ref w_REQUIRES_PAYMENT_METHOD), .val (.ref w_REQUIRES_PAYMENT_METHOD), .unset] [(.ref w_REQUIRES_PAYMENT_METHOD)]))
      have f_43 := (Sta.wr W28 f_24)
      obtain ⟨T44, X44, e44, st44⟩ := getS2 X42 hx hZ hown (host := "") (Or.inl (hw _ (List.mem_of_getElem? (i := 12) rfl))) Via.refl e42 f_43 (g := (mkF m 80 #[.val (.int p1), .val (.int p2), .val (.ref b3), .val (.ref w_REQUIRES_PAYMENT_METHOD), .val (.ref w_REQUIRES_PAYMENT_METHOD), .unset] [(.ref w_REQUIRES_PAYMENT_METHOD)])) rfl (hb hby at_80)
      refine Go.st st44 ?_
      show Go p e below _ (T44.setTop (mkF m 83 #[.val (.int p1), .val (.int p2), .val (.ref b3), .val (.ref w_REQUIRES_PAYMENT_METHOD), .val (.ref w_REQUIRES_PAYMENT_METHOD), .unset] [(.ref w_CANCELED), (.ref w_REQUIRES_PAYMENT_METHOD)]))
      refine Go.st (fun _ kk => Jvm.RoadKit.acmp (g := (mkF m 83 #[.val (.int p1), .val (.int p2), .val (.ref b3), .val (.ref w_REQUIRES_PAYMENT_METHOD), .val (.ref w_REQUIRES_PAYMENT_METHOD), .unset] [(.ref w_CANCELED), (.ref w_REQUIRES_PAYMENT_METHOD)])) X44 hx rfl rfl rfl (pc0 := 83) (pc' := 112) (same := false) rfl (hb hby at_83) rfl (decide_eq_false fun q => (Fld.ne F_ordinal_w_REQUIRES_PAYMENT_METHOD F_ordinal_w_CANCELED (by decide)) (Value.ref.inj q)) (by decide) (by decide) kk) ?_
      show Go p e below _ (T44.setTop (mkF m 112 #[.val (.int p1), .val (.int p2), .val (.ref b3), .val (.ref w_REQUIRES_PAYMENT_METHOD), .val (.ref w_REQUIRES_PAYMENT_METHOD), .unset] []))
      refine Go.st (fun _ kk => XS.iconst X44.here hx rfl (hb hby at_112) kk) ?_
      show Go p e below _ (T44.setTop (mkF m 113 #[.val (.int p1), .val (.int p2), .val (.ref b3), .val (.ref w_REQUIRES_PAYMENT_METHOD), .val (.ref w_REQUIRES_PAYMENT_METHOD), .unset] [(.int (0 : Int32))]))
      refine Go.st (fun _ kk => XS.istore X44.here hx rfl (hb hby at_113) rfl (l' := #[.val (.int p1), .val (.int p2), .val (.ref b3), .val (.ref w_REQUIRES_PAYMENT_METHOD), .val (.ref w_REQUIRES_PAYMENT_METHOD), .val (.int (0 : Int32))]) rfl kk) ?_
      show Go p e below _ (T44.setTop (mkF m 115 #[.val (.int p1), .val (.int p2), .val (.ref b3), .val (.ref w_REQUIRES_PAYMENT_METHOD), .val (.ref w_REQUIRES_PAYMENT_METHOD), .val (.int (0 : Int32))] []))
      refine Go.st (fun _ kk => XS.aloadN X44.here hx rfl (hb hby at_115) rfl rfl  kk) ?_
      show Go p e below _ (T44.setTop (mkF m 116 #[.val (.int p1), .val (.int p2), .val (.ref b3), .val (.ref w_REQUIRES_PAYMENT_METHOD), .val (.ref w_REQUIRES_PAYMENT_METHOD), .val (.int (0 : Int32))] [(.ref w_REQUIRES_PAYMENT_METHOD)]))
      refine Go.st (fun _ kk => XS.aload X44.here hx rfl (hb hby at_116) rfl rfl  kk) ?_
      show Go p e below _ (T44.setTop (mkF m 118 #[.val (.int p1), .val (.int p2), .val (.ref b3), .val (.ref w_REQUIRES_PAYMENT_METHOD), .val (.ref w_REQUIRES_PAYMENT_METHOD), .val (.int (0 : Int32))] [(.ref w_REQUIRES_PAYMENT_METHOD), (.ref w_REQUIRES_PAYMENT_METHOD)]))
      have f_45 := (Exa.wr W28 (Exa.wr W23 (Exa.wr W18 (Exa.wr W13 (Exa.wr W8 f_7)))))
      have f_46 := (F_rank_w_REQUIRES_PAYMENT_METHOD.keep K28 nin0)
      obtain ⟨cq47, kq47, q47a, q47b, q47c⟩ := isOf hZ e44 f_45
      obtain ⟨_, _, ⟨T47, L47, k47, n47⟩, -, X47, ⟨Lc47, hQ47, l47, y47, z47⟩, st47⟩ := X44.virtualBack hx (y := (⟨"com/example/charge_ledger/chargeledger/model/PaymentStatus", "outranks", "(Lcom/example/charge_ledger/chargeledger/model/PaymentStatus;)Z"⟩ : MethodName)) (z := (⟨"com/example/charge_ledger/chargeledger/model/PaymentStatus", "outranks", "(Lcom/example/charge_ledger/chargeledger/model/PaymentStatus;)Z"⟩ : MethodName)) hown (mvT hZ (hw _ (List.mem_of_getElem? (i := 15) rfl))) (mvT hZ (hw _ (List.mem_of_getElem? (i := 16) rfl))) (notFace_of_selects (args := #[]) (mvT hZ (hw _ (List.mem_of_getElem? (i := 18) rfl)))) (mvT hZ (hw _ (List.mem_of_getElem? (i := 18) rfl))) (mvT hZ (hw _ (List.mem_of_getElem? (i := 17) rfl))) (by decide) (backOf (W := 0) (rm1_f l Z a0 hw [] w_REQUIRES_PAYMENT_METHOD w_REQUIRES_PAYMENT_METHOD (0 : Int32) (0 : Int32) h28 n0 (Nat.le_trans Z0 K28.1) f_46 f_46 (by decide : ¬ ((0 : Int32) < (0 : Int32)))) hZ (hw _ (List.mem_of_getElem? (i := 19) rfl)) (hw _ (List.mem_of_getElem? (i := 3) rfl)) (by decide) (by decide)) q47a q47c (g := (mkF m 118 #[.val (.int p1), .val (.int p2), .val (.ref b3), .val (.ref w_REQUIRES_PAYMENT_METHOD), .val (.ref w_REQUIRES_PAYMENT_METHOD), .val (.int (0 : Int32))] [(.ref w_REQUIRES_PAYMENT_METHOD), (.ref w_REQUIRES_PAYMENT_METHOD)])) rfl (by rw [hml]; rfl) (Steps.refl _) (argsL := [(.ref w_REQUIRES_PAYMENT_METHOD)]) (rest := []) (lenOf pd_0 rfl) rfl (by show 2 * 0 + _ ≤ _; exact Nat.le_of_eq rfl) (hb hby at_118) (fun _ _ => ⟨rfl, e44, (by decide : 1 + 0 ≤ _), (by decide : 5 + 0 ≤ _)⟩)
      dsimp only [Pt.U, Pt.locs, Pt.cells, Pt.slots] at X47 l47 y47 z47 st47 hQ47
      subst l47 y47 z47
      obtain ⟨rfl, N47q, eq47⟩ := hQ47
      have N47 := Fr.app N28 N47q
      refine Go.tr st47 ?_
      show Go p e below _ (T47.setTop (mkF m 121 #[.val (.int p1), .val (.int p2), .val (.ref b3), .val (.ref w_REQUIRES_PAYMENT_METHOD), .val (.ref w_REQUIRES_PAYMENT_METHOD), .val (.int (0 : Int32))] [(.int (0 : Int32))]))
      refine Go.st (fun _ kk => XS.iload X47.here hx rfl (hb hby at_121) rfl  kk) ?_
      show Go p e below _ (T47.setTop (mkF m 123 #[.val (.int p1), .val (.int p2), .val (.ref b3), .val (.ref w_REQUIRES_PAYMENT_METHOD), .val (.ref w_REQUIRES_PAYMENT_METHOD), .val (.int (0 : Int32))] [(.int (0 : Int32)), (.int (0 : Int32))]))
      refine Go.st (fun _ kk => XS.icmpNo X47.here hx rfl (hb hby at_123) rfl (teq (by decide : ((0 : Int32) = (0 : Int32)))).2 kk) ?_
      show Go p e below _ (T47.setTop (mkF m 126 #[.val (.int p1), .val (.int p2), .val (.ref b3), .val (.ref w_REQUIRES_PAYMENT_METHOD), .val (.ref w_REQUIRES_PAYMENT_METHOD), .val (.int (0 : Int32))] []))
      refine Go.st (fun _ kk => XS.iconst X47.here hx rfl (hb hby at_126) kk) ?_
      show Go p e below _ (T47.setTop (mkF m 127 #[.val (.int p1), .val (.int p2), .val (.ref b3), .val (.ref w_REQUIRES_PAYMENT_METHOD), .val (.ref w_REQUIRES_PAYMENT_METHOD), .val (.int (0 : Int32))] [(.int (1 : Int32))]))
      refine Go.st (fun _ kk => XS.goto X47.here hx rfl (pc0 := 127) (pc' := 131) rfl (hb hby at_127) (by decide) (by decide) kk) ?_
      show Go p e below _ (T47.setTop (mkF m 131 #[.val (.int p1), .val (.int p2), .val (.ref b3), .val (.ref w_REQUIRES_PAYMENT_METHOD), .val (.ref w_REQUIRES_PAYMENT_METHOD), .val (.int (0 : Int32))] [(.int (1 : Int32))]))
      exact Go.ret (Q := Q0 n0) X47 (v := some (.int (1 : Int32))) (fun h => by rw [Bd.returns] at h; cases h) Bd.notSynchronized (fun fs hr => retN X47 hx (t := .boolean) Bd.returns (by simp) (hb hby at_131) hr) eq47 ⟨rfl, N47⟩ (by decide) (by decide)
    · skip
      rw [hk36]
      show Go p e below _ (T28.setTop (mkF m 51 #[.val (.int p1), .val (.int p2), .val (.ref b3), .val (.ref w_REQUIRES_PAYMENT_METHOD), .unset, .unset] [(.int (1 : Int32)), (.ref b3)]))
      obtain ⟨clq48, Arq48, caq48, saq48, naq48, haq48, gaq48⟩ := id V28
      have inq48 : ¬ ((1 : Int32) < 0 ∨ clq48.slots.size ≤ ((1 : Int32)).toNatClampNeg) := inb_of saq48 ⟨by decide, by decide⟩
      have atq48 : clq48.slots[((1 : Int32)).toNatClampNeg]? = some (.ref w_PROCESSING) := haq48.at inq48 rfl
      refine Go.st (fun _ kk => X28.aaload hx (j := (1 : Int32)) (v := (.ref w_PROCESSING)) (by rw [e28]; exact Arq48.1) (State.isArrayOf_alike hZ.alike Arq48.2.1) rfl Arq48.2.2 inq48 atq48 (g := (mkF m 51 #[.val (.int p1), .val (.int p2), .val (.ref b3), .val (.ref w_REQUIRES_PAYMENT_METHOD), .unset, .unset] [(.int (1 : Int32)), (.ref b3)])) rfl rfl (hb hby at_51) _ kk) ?_
      show Go p e below _ (T28.setTop (mkF m 52 #[.val (.int p1), .val (.int p2), .val (.ref b3), .val (.ref w_REQUIRES_PAYMENT_METHOD), .unset, .unset] [(.ref w_PROCESSING)]))
      refine Go.st (fun _ kk => XS.astore X28.here hx rfl (hb hby at_52) rfl rfl (l' := #[.val (.int p1), .val (.int p2), .val (.ref b3), .val (.ref w_REQUIRES_PAYMENT_METHOD), .val (.ref w_PROCESSING), .unset]) rfl kk) ?_
      show Go p e below _ (T28.setTop (mkF m 54 #[.val (.int p1), .val (.int p2), .val (.ref b3), .val (.ref w_REQUIRES_PAYMENT_METHOD), .val (.ref w_PROCESSING), .unset] []))
      refine Go.st (fun _ kk => XS.aloadN X28.here hx rfl (hb hby at_54) rfl rfl  kk) ?_
      show Go p e below _ (T28.setTop (mkF m 55 #[.val (.int p1), .val (.int p2), .val (.ref b3), .val (.ref w_REQUIRES_PAYMENT_METHOD), .val (.ref w_PROCESSING), .unset] [(.ref w_REQUIRES_PAYMENT_METHOD)]))
      have f_49 := (Sta.wr W28 (Sta.wr W23 (Sta.wr W18 f_14)))
      obtain ⟨T50, X50, e50, st50⟩ := getS2 X28 hx hZ hown (host := "") (Or.inl (hw _ (List.mem_of_getElem? (i := 8) rfl))) Via.refl e28 f_49 (g := (mkF m 55 #[.val (.int p1), .val (.int p2), .val (.ref b3), .val (.ref w_REQUIRES_PAYMENT_METHOD), .val (.ref w_PROCESSING), .unset] [(.ref w_REQUIRES_PAYMENT_METHOD)])) rfl (hb hby at_55)
      refine Go.st st50 ?_
      show Go p e below _ (T50.setTop (mkF m 58 #[.val (.int p1), .val (.int p2), .val (.ref b3), .val (.ref w_REQUIRES_PAYMENT_METHOD), .val (.ref w_PROCESSING), .unset] [(.ref w_SUCCEEDED), (.ref w_REQUIRES_PAYMENT_METHOD)]))
      refine Go.st (fun _ kk => Jvm.RoadKit.acmp (g := (mkF m 58 #[.val (.int p1), .val (.int p2), .val (.ref b3), .val (.ref w_REQUIRES_PAYMENT_METHOD), .val (.ref w_PROCESSING), .unset] [(.ref w_SUCCEEDED), (.ref w_REQUIRES_PAYMENT_METHOD)])) X50 hx rfl rfl rfl (pc0 := 58) (pc' := 79) (same := false) rfl (hb hby at_58) rfl (decide_eq_false fun q => (Fld.ne F_ordinal_w_REQUIRES_PAYMENT_METHOD F_ordinal_w_SUCCEEDED (by decide)) (Value.ref.inj q)) (by decide) (by decide) kk) ?_
      show Go p e below _ (T50.setTop (mkF m 79 #[.val (.int p1), .val (.int p2), .val (.ref b3), .val (.ref w_REQUIRES_PAYMENT_METHOD), .val (.ref w_PROCESSING), .unset] []))
      refine Go.st (fun _ kk => XS.aloadN X50.here hx rfl (hb hby at_79) rfl rfl  kk) ?_
      show Go p e below _ (T50.setTop (mkF m 80 #[.val (.int p1), .val (.int p2), .val (.ref b3), .val (.ref w_REQUIRES_PAYMENT_METHOD), .val (.ref w_PROCESSING), .unset] [(.ref w_REQUIRES_PAYMENT_METHOD)]))
      have f_51 := (Sta.wr W28 f_24)
      obtain ⟨T52, X52, e52, st52⟩ := getS2 X50 hx hZ hown (host := "") (Or.inl (hw _ (List.mem_of_getElem? (i := 12) rfl))) Via.refl e50 f_51 (g := (mkF m 80 #[.val (.int p1), .val (.int p2), .val (.ref b3), .val (.ref w_REQUIRES_PAYMENT_METHOD), .val (.ref w_PROCESSING), .unset] [(.ref w_REQUIRES_PAYMENT_METHOD)])) rfl (hb hby at_80)
      refine Go.st st52 ?_
      show Go p e below _ (T52.setTop (mkF m 83 #[.val (.int p1), .val (.int p2), .val (.ref b3), .val (.ref w_REQUIRES_PAYMENT_METHOD), .val (.ref w_PROCESSING), .unset] [(.ref w_CANCELED), (.ref w_REQUIRES_PAYMENT_METHOD)]))
      refine Go.st (fun _ kk => Jvm.RoadKit.acmp (g := (mkF m 83 #[.val (.int p1), .val (.int p2), .val (.ref b3), .val (.ref w_REQUIRES_PAYMENT_METHOD), .val (.ref w_PROCESSING), .unset] [(.ref w_CANCELED), (.ref w_REQUIRES_PAYMENT_METHOD)])) X52 hx rfl rfl rfl (pc0 := 83) (pc' := 112) (same := false) rfl (hb hby at_83) rfl (decide_eq_false fun q => (Fld.ne F_ordinal_w_REQUIRES_PAYMENT_METHOD F_ordinal_w_CANCELED (by decide)) (Value.ref.inj q)) (by decide) (by decide) kk) ?_
      show Go p e below _ (T52.setTop (mkF m 112 #[.val (.int p1), .val (.int p2), .val (.ref b3), .val (.ref w_REQUIRES_PAYMENT_METHOD), .val (.ref w_PROCESSING), .unset] []))
      refine Go.st (fun _ kk => XS.iconst X52.here hx rfl (hb hby at_112) kk) ?_
      show Go p e below _ (T52.setTop (mkF m 113 #[.val (.int p1), .val (.int p2), .val (.ref b3), .val (.ref w_REQUIRES_PAYMENT_METHOD), .val (.ref w_PROCESSING), .unset] [(.int (0 : Int32))]))
      refine Go.st (fun _ kk => XS.istore X52.here hx rfl (hb hby at_113) rfl (l' := #[.val (.int p1), .val (.int p2), .val (.ref b3), .val (.ref w_REQUIRES_PAYMENT_METHOD), .val (.ref w_PROCESSING), .val (.int (0 : Int32))]) rfl kk) ?_
      show Go p e below _ (T52.setTop (mkF m 115 #[.val (.int p1), .val (.int p2), .val (.ref b3), .val (.ref w_REQUIRES_PAYMENT_METHOD), .val (.ref w_PROCESSING), .val (.int (0 : Int32))] []))
      refine Go.st (fun _ kk => XS.aloadN X52.here hx rfl (hb hby at_115) rfl rfl  kk) ?_
      show Go p e below _ (T52.setTop (mkF m 116 #[.val (.int p1), .val (.int p2), .val (.ref b3), .val (.ref w_REQUIRES_PAYMENT_METHOD), .val (.ref w_PROCESSING), .val (.int (0 : Int32))] [(.ref w_REQUIRES_PAYMENT_METHOD)]))
      refine Go.st (fun _ kk => XS.aload X52.here hx rfl (hb hby at_116) rfl rfl  kk) ?_
      show Go p e below _ (T52.setTop (mkF m 118 #[.val (.int p1), .val (.int p2), .val (.ref b3), .val (.ref w_REQUIRES_PAYMENT_METHOD), .val (.ref w_PROCESSING), .val (.int (0 : Int32))] [(.ref w_PROCESSING), (.ref w_REQUIRES_PAYMENT_METHOD)]))
      have f_53 := (Exa.wr W28 (Exa.wr W23 (Exa.wr W18 (Exa.wr W13 (Exa.wr W8 f_7)))))
      have f_54 := (F_rank_w_REQUIRES_PAYMENT_METHOD.keep K28 nin0)
      have f_55 := (F_rank_w_PROCESSING.keep K28 nin0)
      obtain ⟨cq56, kq56, q56a, q56b, q56c⟩ := isOf hZ e52 f_53
      obtain ⟨_, _, ⟨T56, L56, k56, n56⟩, -, X56, ⟨Lc56, hQ56, l56, y56, z56⟩, st56⟩ := X52.virtualBack hx (y := (⟨"com/example/charge_ledger/chargeledger/model/PaymentStatus", "outranks", "(Lcom/example/charge_ledger/chargeledger/model/PaymentStatus;)Z"⟩ : MethodName)) (z := (⟨"com/example/charge_ledger/chargeledger/model/PaymentStatus", "outranks", "(Lcom/example/charge_ledger/chargeledger/model/PaymentStatus;)Z"⟩ : MethodName)) hown (mvT hZ (hw _ (List.mem_of_getElem? (i := 15) rfl))) (mvT hZ (hw _ (List.mem_of_getElem? (i := 16) rfl))) (notFace_of_selects (args := #[]) (mvT hZ (hw _ (List.mem_of_getElem? (i := 18) rfl)))) (mvT hZ (hw _ (List.mem_of_getElem? (i := 18) rfl))) (mvT hZ (hw _ (List.mem_of_getElem? (i := 17) rfl))) (by decide) (backOf (W := 0) (rm1_f l Z a0 hw [] w_REQUIRES_PAYMENT_METHOD w_PROCESSING (0 : Int32) (0 : Int32) h28 n0 (Nat.le_trans Z0 K28.1) f_54 f_55 (by decide : ¬ ((0 : Int32) < (0 : Int32)))) hZ (hw _ (List.mem_of_getElem? (i := 19) rfl)) (hw _ (List.mem_of_getElem? (i := 3) rfl)) (by decide) (by decide)) q56a q56c (g := (mkF m 118 #[.val (.int p1), .val (.int p2), .val (.ref b3), .val (.ref w_REQUIRES_PAYMENT_METHOD), .val (.ref w_PROCESSING), .val (.int (0 : Int32))] [(.ref w_PROCESSING), (.ref w_REQUIRES_PAYMENT_METHOD)])) rfl (by rw [hml]; rfl) (Steps.refl _) (argsL := [(.ref w_PROCESSING)]) (rest := []) (lenOf pd_0 rfl) rfl (by show 2 * 0 + _ ≤ _; exact Nat.le_of_eq rfl) (hb hby at_118) (fun _ _ => ⟨rfl, e52, (by decide : 1 + 0 ≤ _), (by decide : 5 + 0 ≤ _)⟩)
      dsimp only [Pt.U, Pt.locs, Pt.cells, Pt.slots] at X56 l56 y56 z56 st56 hQ56
      subst l56 y56 z56
      obtain ⟨rfl, N56q, eq56⟩ := hQ56
      have N56 := Fr.app N28 N56q
      refine Go.tr st56 ?_
      show Go p e below _ (T56.setTop (mkF m 121 #[.val (.int p1), .val (.int p2), .val (.ref b3), .val (.ref w_REQUIRES_PAYMENT_METHOD), .val (.ref w_PROCESSING), .val (.int (0 : Int32))] [(.int (0 : Int32))]))
      refine Go.st (fun _ kk => XS.iload X56.here hx rfl (hb hby at_121) rfl  kk) ?_
      show Go p e below _ (T56.setTop (mkF m 123 #[.val (.int p1), .val (.int p2), .val (.ref b3), .val (.ref w_REQUIRES_PAYMENT_METHOD), .val (.ref w_PROCESSING), .val (.int (0 : Int32))] [(.int (0 : Int32)), (.int (0 : Int32))]))
      refine Go.st (fun _ kk => XS.icmpNo X56.here hx rfl (hb hby at_123) rfl (teq (by decide : ((0 : Int32) = (0 : Int32)))).2 kk) ?_
      show Go p e below _ (T56.setTop (mkF m 126 #[.val (.int p1), .val (.int p2), .val (.ref b3), .val (.ref w_REQUIRES_PAYMENT_METHOD), .val (.ref w_PROCESSING), .val (.int (0 : Int32))] []))
      refine Go.st (fun _ kk => XS.iconst X56.here hx rfl (hb hby at_126) kk) ?_
      show Go p e below _ (T56.setTop (mkF m 127 #[.val (.int p1), .val (.int p2), .val (.ref b3), .val (.ref w_REQUIRES_PAYMENT_METHOD), .val (.ref w_PROCESSING), .val (.int (0 : Int32))] [(.int (1 : Int32))]))
      refine Go.st (fun _ kk => XS.goto X56.here hx rfl (pc0 := 127) (pc' := 131) rfl (hb hby at_127) (by decide) (by decide) kk) ?_
      show Go p e below _ (T56.setTop (mkF m 131 #[.val (.int p1), .val (.int p2), .val (.ref b3), .val (.ref w_REQUIRES_PAYMENT_METHOD), .val (.ref w_PROCESSING), .val (.int (0 : Int32))] [(.int (1 : Int32))]))
      exact Go.ret (Q := Q0 n0) X56 (v := some (.int (1 : Int32))) (fun h => by rw [Bd.returns] at h; cases h) Bd.notSynchronized (fun fs hr => retN X56 hx (t := .boolean) Bd.returns (by simp) (hb hby at_131) hr) eq56 ⟨rfl, N56⟩ (by decide) (by decide)
    · skip
      rw [hk37]
      show Go p e below _ (T28.setTop (mkF m 51 #[.val (.int p1), .val (.int p2), .val (.ref b3), .val (.ref w_REQUIRES_PAYMENT_METHOD), .unset, .unset] [(.int (2 : Int32)), (.ref b3)]))
      obtain ⟨clq57, Arq57, caq57, saq57, naq57, haq57, gaq57⟩ := id V28
      have inq57 : ¬ ((2 : Int32) < 0 ∨ clq57.slots.size ≤ ((2 : Int32)).toNatClampNeg) := inb_of saq57 ⟨by decide, by decide⟩
      have atq57 : clq57.slots[((2 : Int32)).toNatClampNeg]? = some (.ref w_SUCCEEDED) := haq57.at inq57 rfl
      refine Go.st (fun _ kk => X28.aaload hx (j := (2 : Int32)) (v := (.ref w_SUCCEEDED)) (by rw [e28]; exact Arq57.1) (State.isArrayOf_alike hZ.alike Arq57.2.1) rfl Arq57.2.2 inq57 atq57 (g := (mkF m 51 #[.val (.int p1), .val (.int p2), .val (.ref b3), .val (.ref w_REQUIRES_PAYMENT_METHOD), .unset, .unset] [(.int (2 : Int32)), (.ref b3)])) rfl rfl (hb hby at_51) _ kk) ?_
      show Go p e below _ (T28.setTop (mkF m 52 #[.val (.int p1), .val (.int p2), .val (.ref b3), .val (.ref w_REQUIRES_PAYMENT_METHOD), .unset, .unset] [(.ref w_SUCCEEDED)]))
      refine Go.st (fun _ kk => XS.astore X28.here hx rfl (hb hby at_52) rfl rfl (l' := #[.val (.int p1), .val (.int p2), .val (.ref b3), .val (.ref w_REQUIRES_PAYMENT_METHOD), .val (.ref w_SUCCEEDED), .unset]) rfl kk) ?_
      show Go p e below _ (T28.setTop (mkF m 54 #[.val (.int p1), .val (.int p2), .val (.ref b3), .val (.ref w_REQUIRES_PAYMENT_METHOD), .val (.ref w_SUCCEEDED), .unset] []))
      refine Go.st (fun _ kk => XS.aloadN X28.here hx rfl (hb hby at_54) rfl rfl  kk) ?_
      show Go p e below _ (T28.setTop (mkF m 55 #[.val (.int p1), .val (.int p2), .val (.ref b3), .val (.ref w_REQUIRES_PAYMENT_METHOD), .val (.ref w_SUCCEEDED), .unset] [(.ref w_REQUIRES_PAYMENT_METHOD)]))
      have f_58 := (Sta.wr W28 (Sta.wr W23 (Sta.wr W18 f_14)))
      obtain ⟨T59, X59, e59, st59⟩ := getS2 X28 hx hZ hown (host := "") (Or.inl (hw _ (List.mem_of_getElem? (i := 8) rfl))) Via.refl e28 f_58 (g := (mkF m 55 #[.val (.int p1), .val (.int p2), .val (.ref b3), .val (.ref w_REQUIRES_PAYMENT_METHOD), .val (.ref w_SUCCEEDED), .unset] [(.ref w_REQUIRES_PAYMENT_METHOD)])) rfl (hb hby at_55)
      refine Go.st st59 ?_
      show Go p e below _ (T59.setTop (mkF m 58 #[.val (.int p1), .val (.int p2), .val (.ref b3), .val (.ref w_REQUIRES_PAYMENT_METHOD), .val (.ref w_SUCCEEDED), .unset] [(.ref w_SUCCEEDED), (.ref w_REQUIRES_PAYMENT_METHOD)]))
      refine Go.st (fun _ kk => Jvm.RoadKit.acmp (g := (mkF m 58 #[.val (.int p1), .val (.int p2), .val (.ref b3), .val (.ref w_REQUIRES_PAYMENT_METHOD), .val (.ref w_SUCCEEDED), .unset] [(.ref w_SUCCEEDED), (.ref w_REQUIRES_PAYMENT_METHOD)])) X59 hx rfl rfl rfl (pc0 := 58) (pc' := 79) (same := false) rfl (hb hby at_58) rfl (decide_eq_false fun q => (Fld.ne F_ordinal_w_REQUIRES_PAYMENT_METHOD F_ordinal_w_SUCCEEDED (by decide)) (Value.ref.inj q)) (by decide) (by decide) kk) ?_
      show Go p e below _ (T59.setTop (mkF m 79 #[.val (.int p1), .val (.int p2), .val (.ref b3), .val (.ref w_REQUIRES_PAYMENT_METHOD), .val (.ref w_SUCCEEDED), .unset] []))
      refine Go.st (fun _ kk => XS.aloadN X59.here hx rfl (hb hby at_79) rfl rfl  kk) ?_
      show Go p e below _ (T59.setTop (mkF m 80 #[.val (.int p1), .val (.int p2), .val (.ref b3), .val (.ref w_REQUIRES_PAYMENT_METHOD), .val (.ref w_SUCCEEDED), .unset] [(.ref w_REQUIRES_PAYMENT_METHOD)]))
      have f_60 := (Sta.wr W28 f_24)
      obtain ⟨T61, X61, e61, st61⟩ := getS2 X59 hx hZ hown (host := "") (Or.inl (hw _ (List.mem_of_getElem? (i := 12) rfl))) Via.refl e59 f_60 (g := (mkF m 80 #[.val (.int p1), .val (.int p2), .val (.ref b3), .val (.ref w_REQUIRES_PAYMENT_METHOD), .val (.ref w_SUCCEEDED), .unset] [(.ref w_REQUIRES_PAYMENT_METHOD)])) rfl (hb hby at_80)
      refine Go.st st61 ?_
      show Go p e below _ (T61.setTop (mkF m 83 #[.val (.int p1), .val (.int p2), .val (.ref b3), .val (.ref w_REQUIRES_PAYMENT_METHOD), .val (.ref w_SUCCEEDED), .unset] [(.ref w_CANCELED), (.ref w_REQUIRES_PAYMENT_METHOD)]))
      refine Go.st (fun _ kk => Jvm.RoadKit.acmp (g := (mkF m 83 #[.val (.int p1), .val (.int p2), .val (.ref b3), .val (.ref w_REQUIRES_PAYMENT_METHOD), .val (.ref w_SUCCEEDED), .unset] [(.ref w_CANCELED), (.ref w_REQUIRES_PAYMENT_METHOD)])) X61 hx rfl rfl rfl (pc0 := 83) (pc' := 112) (same := false) rfl (hb hby at_83) rfl (decide_eq_false fun q => (Fld.ne F_ordinal_w_REQUIRES_PAYMENT_METHOD F_ordinal_w_CANCELED (by decide)) (Value.ref.inj q)) (by decide) (by decide) kk) ?_
      show Go p e below _ (T61.setTop (mkF m 112 #[.val (.int p1), .val (.int p2), .val (.ref b3), .val (.ref w_REQUIRES_PAYMENT_METHOD), .val (.ref w_SUCCEEDED), .unset] []))
      refine Go.st (fun _ kk => XS.iconst X61.here hx rfl (hb hby at_112) kk) ?_
      show Go p e below _ (T61.setTop (mkF m 113 #[.val (.int p1), .val (.int p2), .val (.ref b3), .val (.ref w_REQUIRES_PAYMENT_METHOD), .val (.ref w_SUCCEEDED), .unset] [(.int (0 : Int32))]))
      refine Go.st (fun _ kk => XS.istore X61.here hx rfl (hb hby at_113) rfl (l' := #[.val (.int p1), .val (.int p2), .val (.ref b3), .val (.ref w_REQUIRES_PAYMENT_METHOD), .val (.ref w_SUCCEEDED), .val (.int (0 : Int32))]) rfl kk) ?_
      show Go p e below _ (T61.setTop (mkF m 115 #[.val (.int p1), .val (.int p2), .val (.ref b3), .val (.ref w_REQUIRES_PAYMENT_METHOD), .val (.ref w_SUCCEEDED), .val (.int (0 : Int32))] []))
      refine Go.st (fun _ kk => XS.aloadN X61.here hx rfl (hb hby at_115) rfl rfl  kk) ?_
      show Go p e below _ (T61.setTop (mkF m 116 #[.val (.int p1), .val (.int p2), .val (.ref b3), .val (.ref w_REQUIRES_PAYMENT_METHOD), .val (.ref w_SUCCEEDED), .val (.int (0 : Int32))] [(.ref w_REQUIRES_PAYMENT_METHOD)]))
      refine Go.st (fun _ kk => XS.aload X61.here hx rfl (hb hby at_116) rfl rfl  kk) ?_
      show Go p e below _ (T61.setTop (mkF m 118 #[.val (.int p1), .val (.int p2), .val (.ref b3), .val (.ref w_REQUIRES_PAYMENT_METHOD), .val (.ref w_SUCCEEDED), .val (.int (0 : Int32))] [(.ref w_SUCCEEDED), (.ref w_REQUIRES_PAYMENT_METHOD)]))
      have f_62 := (Exa.wr W28 (Exa.wr W23 (Exa.wr W18 (Exa.wr W13 (Exa.wr W8 f_7)))))
      have f_63 := (F_rank_w_REQUIRES_PAYMENT_METHOD.keep K28 nin0)
      have f_64 := (F_rank_w_SUCCEEDED.keep K28 nin0)
      obtain ⟨cq65, kq65, q65a, q65b, q65c⟩ := isOf hZ e61 f_62
      obtain ⟨_, _, ⟨T65, L65, k65, n65⟩, -, X65, ⟨Lc65, hQ65, l65, y65, z65⟩, st65⟩ := X61.virtualBack hx (y := (⟨"com/example/charge_ledger/chargeledger/model/PaymentStatus", "outranks", "(Lcom/example/charge_ledger/chargeledger/model/PaymentStatus;)Z"⟩ : MethodName)) (z := (⟨"com/example/charge_ledger/chargeledger/model/PaymentStatus", "outranks", "(Lcom/example/charge_ledger/chargeledger/model/PaymentStatus;)Z"⟩ : MethodName)) hown (mvT hZ (hw _ (List.mem_of_getElem? (i := 15) rfl))) (mvT hZ (hw _ (List.mem_of_getElem? (i := 16) rfl))) (notFace_of_selects (args := #[]) (mvT hZ (hw _ (List.mem_of_getElem? (i := 18) rfl)))) (mvT hZ (hw _ (List.mem_of_getElem? (i := 18) rfl))) (mvT hZ (hw _ (List.mem_of_getElem? (i := 17) rfl))) (by decide) (backOf (W := 0) (rm1_f l Z a0 hw [] w_REQUIRES_PAYMENT_METHOD w_SUCCEEDED (0 : Int32) (2 : Int32) h28 n0 (Nat.le_trans Z0 K28.1) f_63 f_64 (by decide : ¬ ((2 : Int32) < (0 : Int32)))) hZ (hw _ (List.mem_of_getElem? (i := 19) rfl)) (hw _ (List.mem_of_getElem? (i := 3) rfl)) (by decide) (by decide)) q65a q65c (g := (mkF m 118 #[.val (.int p1), .val (.int p2), .val (.ref b3), .val (.ref w_REQUIRES_PAYMENT_METHOD), .val (.ref w_SUCCEEDED), .val (.int (0 : Int32))] [(.ref w_SUCCEEDED), (.ref w_REQUIRES_PAYMENT_METHOD)])) rfl (by rw [hml]; rfl) (Steps.refl _) (argsL := [(.ref w_SUCCEEDED)]) (rest := []) (lenOf pd_0 rfl) rfl (by show 2 * 0 + _ ≤ _; exact Nat.le_of_eq rfl) (hb hby at_118) (fun _ _ => ⟨rfl, e61, (by decide : 1 + 0 ≤ _), (by decide : 5 + 0 ≤ _)⟩)
      dsimp only [Pt.U, Pt.locs, Pt.cells, Pt.slots] at X65 l65 y65 z65 st65 hQ65
      subst l65 y65 z65
      obtain ⟨rfl, N65q, eq65⟩ := hQ65
      have N65 := Fr.app N28 N65q
      refine Go.tr st65 ?_
      show Go p e below _ (T65.setTop (mkF m 121 #[.val (.int p1), .val (.int p2), .val (.ref b3), .val (.ref w_REQUIRES_PAYMENT_METHOD), .val (.ref w_SUCCEEDED), .val (.int (0 : Int32))] [(.int (0 : Int32))]))
      refine Go.st (fun _ kk => XS.iload X65.here hx rfl (hb hby at_121) rfl  kk) ?_
      show Go p e below _ (T65.setTop (mkF m 123 #[.val (.int p1), .val (.int p2), .val (.ref b3), .val (.ref w_REQUIRES_PAYMENT_METHOD), .val (.ref w_SUCCEEDED), .val (.int (0 : Int32))] [(.int (0 : Int32)), (.int (0 : Int32))]))
      refine Go.st (fun _ kk => XS.icmpNo X65.here hx rfl (hb hby at_123) rfl (teq (by decide : ((0 : Int32) = (0 : Int32)))).2 kk) ?_
      show Go p e below _ (T65.setTop (mkF m 126 #[.val (.int p1), .val (.int p2), .val (.ref b3), .val (.ref w_REQUIRES_PAYMENT_METHOD), .val (.ref w_SUCCEEDED), .val (.int (0 : Int32))] []))
      refine Go.st (fun _ kk => XS.iconst X65.here hx rfl (hb hby at_126) kk) ?_
      show Go p e below _ (T65.setTop (mkF m 127 #[.val (.int p1), .val (.int p2), .val (.ref b3), .val (.ref w_REQUIRES_PAYMENT_METHOD), .val (.ref w_SUCCEEDED), .val (.int (0 : Int32))] [(.int (1 : Int32))]))
      refine Go.st (fun _ kk => XS.goto X65.here hx rfl (pc0 := 127) (pc' := 131) rfl (hb hby at_127) (by decide) (by decide) kk) ?_
      show Go p e below _ (T65.setTop (mkF m 131 #[.val (.int p1), .val (.int p2), .val (.ref b3), .val (.ref w_REQUIRES_PAYMENT_METHOD), .val (.ref w_SUCCEEDED), .val (.int (0 : Int32))] [(.int (1 : Int32))]))
      exact Go.ret (Q := Q0 n0) X65 (v := some (.int (1 : Int32))) (fun h => by rw [Bd.returns] at h; cases h) Bd.notSynchronized (fun fs hr => retN X65 hx (t := .boolean) Bd.returns (by simp) (hb hby at_131) hr) eq65 ⟨rfl, N65⟩ (by decide) (by decide)
    · skip
      rw [hk38]
      show Go p e below _ (T28.setTop (mkF m 51 #[.val (.int p1), .val (.int p2), .val (.ref b3), .val (.ref w_REQUIRES_PAYMENT_METHOD), .unset, .unset] [(.int (3 : Int32)), (.ref b3)]))
      obtain ⟨clq66, Arq66, caq66, saq66, naq66, haq66, gaq66⟩ := id V28
      have inq66 : ¬ ((3 : Int32) < 0 ∨ clq66.slots.size ≤ ((3 : Int32)).toNatClampNeg) := inb_of saq66 ⟨by decide, by decide⟩
      have atq66 : clq66.slots[((3 : Int32)).toNatClampNeg]? = some (.ref w_FAILED) := haq66.at inq66 rfl
      refine Go.st (fun _ kk => X28.aaload hx (j := (3 : Int32)) (v := (.ref w_FAILED)) (by rw [e28]; exact Arq66.1) (State.isArrayOf_alike hZ.alike Arq66.2.1) rfl Arq66.2.2 inq66 atq66 (g := (mkF m 51 #[.val (.int p1), .val (.int p2), .val (.ref b3), .val (.ref w_REQUIRES_PAYMENT_METHOD), .unset, .unset] [(.int (3 : Int32)), (.ref b3)])) rfl rfl (hb hby at_51) _ kk) ?_
      show Go p e below _ (T28.setTop (mkF m 52 #[.val (.int p1), .val (.int p2), .val (.ref b3), .val (.ref w_REQUIRES_PAYMENT_METHOD), .unset, .unset] [(.ref w_FAILED)]))
      refine Go.st (fun _ kk => XS.astore X28.here hx rfl (hb hby at_52) rfl rfl (l' := #[.val (.int p1), .val (.int p2), .val (.ref b3), .val (.ref w_REQUIRES_PAYMENT_METHOD), .val (.ref w_FAILED), .unset]) rfl kk) ?_
      show Go p e below _ (T28.setTop (mkF m 54 #[.val (.int p1), .val (.int p2), .val (.ref b3), .val (.ref w_REQUIRES_PAYMENT_METHOD), .val (.ref w_FAILED), .unset] []))
      refine Go.st (fun _ kk => XS.aloadN X28.here hx rfl (hb hby at_54) rfl rfl  kk) ?_
      show Go p e below _ (T28.setTop (mkF m 55 #[.val (.int p1), .val (.int p2), .val (.ref b3), .val (.ref w_REQUIRES_PAYMENT_METHOD), .val (.ref w_FAILED), .unset] [(.ref w_REQUIRES_PAYMENT_METHOD)]))
      have f_67 := (Sta.wr W28 (Sta.wr W23 (Sta.wr W18 f_14)))
      obtain ⟨T68, X68, e68, st68⟩ := getS2 X28 hx hZ hown (host := "") (Or.inl (hw _ (List.mem_of_getElem? (i := 8) rfl))) Via.refl e28 f_67 (g := (mkF m 55 #[.val (.int p1), .val (.int p2), .val (.ref b3), .val (.ref w_REQUIRES_PAYMENT_METHOD), .val (.ref w_FAILED), .unset] [(.ref w_REQUIRES_PAYMENT_METHOD)])) rfl (hb hby at_55)
      refine Go.st st68 ?_
      show Go p e below _ (T68.setTop (mkF m 58 #[.val (.int p1), .val (.int p2), .val (.ref b3), .val (.ref w_REQUIRES_PAYMENT_METHOD), .val (.ref w_FAILED), .unset] [(.ref w_SUCCEEDED), (.ref w_REQUIRES_PAYMENT_METHOD)]))
      refine Go.st (fun _ kk => Jvm.RoadKit.acmp (g := (mkF m 58 #[.val (.int p1), .val (.int p2), .val (.ref b3), .val (.ref w_REQUIRES_PAYMENT_METHOD), .val (.ref w_FAILED), .unset] [(.ref w_SUCCEEDED), (.ref w_REQUIRES_PAYMENT_METHOD)])) X68 hx rfl rfl rfl (pc0 := 58) (pc' := 79) (same := false) rfl (hb hby at_58) rfl (decide_eq_false fun q => (Fld.ne F_ordinal_w_REQUIRES_PAYMENT_METHOD F_ordinal_w_SUCCEEDED (by decide)) (Value.ref.inj q)) (by decide) (by decide) kk) ?_
      show Go p e below _ (T68.setTop (mkF m 79 #[.val (.int p1), .val (.int p2), .val (.ref b3), .val (.ref w_REQUIRES_PAYMENT_METHOD), .val (.ref w_FAILED), .unset] []))
      refine Go.st (fun _ kk => XS.aloadN X68.here hx rfl (hb hby at_79) rfl rfl  kk) ?_
      show Go p e below _ (T68.setTop (mkF m 80 #[.val (.int p1), .val (.int p2), .val (.ref b3), .val (.ref w_REQUIRES_PAYMENT_METHOD), .val (.ref w_FAILED), .unset] [(.ref w_REQUIRES_PAYMENT_METHOD)]))
      have f_69 := (Sta.wr W28 f_24)
      obtain ⟨T70, X70, e70, st70⟩ := getS2 X68 hx hZ hown (host := "") (Or.inl (hw _ (List.mem_of_getElem? (i := 12) rfl))) Via.refl e68 f_69 (g := (mkF m 80 #[.val (.int p1), .val (.int p2), .val (.ref b3), .val (.ref w_REQUIRES_PAYMENT_METHOD), .val (.ref w_FAILED), .unset] [(.ref w_REQUIRES_PAYMENT_METHOD)])) rfl (hb hby at_80)
      refine Go.st st70 ?_
      show Go p e below _ (T70.setTop (mkF m 83 #[.val (.int p1), .val (.int p2), .val (.ref b3), .val (.ref w_REQUIRES_PAYMENT_METHOD), .val (.ref w_FAILED), .unset] [(.ref w_CANCELED), (.ref w_REQUIRES_PAYMENT_METHOD)]))
      refine Go.st (fun _ kk => Jvm.RoadKit.acmp (g := (mkF m 83 #[.val (.int p1), .val (.int p2), .val (.ref b3), .val (.ref w_REQUIRES_PAYMENT_METHOD), .val (.ref w_FAILED), .unset] [(.ref w_CANCELED), (.ref w_REQUIRES_PAYMENT_METHOD)])) X70 hx rfl rfl rfl (pc0 := 83) (pc' := 112) (same := false) rfl (hb hby at_83) rfl (decide_eq_false fun q => (Fld.ne F_ordinal_w_REQUIRES_PAYMENT_METHOD F_ordinal_w_CANCELED (by decide)) (Value.ref.inj q)) (by decide) (by decide) kk) ?_
      show Go p e below _ (T70.setTop (mkF m 112 #[.val (.int p1), .val (.int p2), .val (.ref b3), .val (.ref w_REQUIRES_PAYMENT_METHOD), .val (.ref w_FAILED), .unset] []))
      refine Go.st (fun _ kk => XS.iconst X70.here hx rfl (hb hby at_112) kk) ?_
      show Go p e below _ (T70.setTop (mkF m 113 #[.val (.int p1), .val (.int p2), .val (.ref b3), .val (.ref w_REQUIRES_PAYMENT_METHOD), .val (.ref w_FAILED), .unset] [(.int (0 : Int32))]))
      refine Go.st (fun _ kk => XS.istore X70.here hx rfl (hb hby at_113) rfl (l' := #[.val (.int p1), .val (.int p2), .val (.ref b3), .val (.ref w_REQUIRES_PAYMENT_METHOD), .val (.ref w_FAILED), .val (.int (0 : Int32))]) rfl kk) ?_
      show Go p e below _ (T70.setTop (mkF m 115 #[.val (.int p1), .val (.int p2), .val (.ref b3), .val (.ref w_REQUIRES_PAYMENT_METHOD), .val (.ref w_FAILED), .val (.int (0 : Int32))] []))
      refine Go.st (fun _ kk => XS.aloadN X70.here hx rfl (hb hby at_115) rfl rfl  kk) ?_
      show Go p e below _ (T70.setTop (mkF m 116 #[.val (.int p1), .val (.int p2), .val (.ref b3), .val (.ref w_REQUIRES_PAYMENT_METHOD), .val (.ref w_FAILED), .val (.int (0 : Int32))] [(.ref w_REQUIRES_PAYMENT_METHOD)]))
      refine Go.st (fun _ kk => XS.aload X70.here hx rfl (hb hby at_116) rfl rfl  kk) ?_
      show Go p e below _ (T70.setTop (mkF m 118 #[.val (.int p1), .val (.int p2), .val (.ref b3), .val (.ref w_REQUIRES_PAYMENT_METHOD), .val (.ref w_FAILED), .val (.int (0 : Int32))] [(.ref w_FAILED), (.ref w_REQUIRES_PAYMENT_METHOD)]))
      have f_71 := (Exa.wr W28 (Exa.wr W23 (Exa.wr W18 (Exa.wr W13 (Exa.wr W8 f_7)))))
      have f_72 := (F_rank_w_REQUIRES_PAYMENT_METHOD.keep K28 nin0)
      have f_73 := (F_rank_w_FAILED.keep K28 nin0)
      obtain ⟨cq74, kq74, q74a, q74b, q74c⟩ := isOf hZ e70 f_71
      obtain ⟨_, _, ⟨T74, L74, k74, n74⟩, -, X74, ⟨Lc74, hQ74, l74, y74, z74⟩, st74⟩ := X70.virtualBack hx (y := (⟨"com/example/charge_ledger/chargeledger/model/PaymentStatus", "outranks", "(Lcom/example/charge_ledger/chargeledger/model/PaymentStatus;)Z"⟩ : MethodName)) (z := (⟨"com/example/charge_ledger/chargeledger/model/PaymentStatus", "outranks", "(Lcom/example/charge_ledger/chargeledger/model/PaymentStatus;)Z"⟩ : MethodName)) hown (mvT hZ (hw _ (List.mem_of_getElem? (i := 15) rfl))) (mvT hZ (hw _ (List.mem_of_getElem? (i := 16) rfl))) (notFace_of_selects (args := #[]) (mvT hZ (hw _ (List.mem_of_getElem? (i := 18) rfl)))) (mvT hZ (hw _ (List.mem_of_getElem? (i := 18) rfl))) (mvT hZ (hw _ (List.mem_of_getElem? (i := 17) rfl))) (by decide) (backOf (W := 0) (rm1_f l Z a0 hw [] w_REQUIRES_PAYMENT_METHOD w_FAILED (0 : Int32) (0 : Int32) h28 n0 (Nat.le_trans Z0 K28.1) f_72 f_73 (by decide : ¬ ((0 : Int32) < (0 : Int32)))) hZ (hw _ (List.mem_of_getElem? (i := 19) rfl)) (hw _ (List.mem_of_getElem? (i := 3) rfl)) (by decide) (by decide)) q74a q74c (g := (mkF m 118 #[.val (.int p1), .val (.int p2), .val (.ref b3), .val (.ref w_REQUIRES_PAYMENT_METHOD), .val (.ref w_FAILED), .val (.int (0 : Int32))] [(.ref w_FAILED), (.ref w_REQUIRES_PAYMENT_METHOD)])) rfl (by rw [hml]; rfl) (Steps.refl _) (argsL := [(.ref w_FAILED)]) (rest := []) (lenOf pd_0 rfl) rfl (by show 2 * 0 + _ ≤ _; exact Nat.le_of_eq rfl) (hb hby at_118) (fun _ _ => ⟨rfl, e70, (by decide : 1 + 0 ≤ _), (by decide : 5 + 0 ≤ _)⟩)
      dsimp only [Pt.U, Pt.locs, Pt.cells, Pt.slots] at X74 l74 y74 z74 st74 hQ74
      subst l74 y74 z74
      obtain ⟨rfl, N74q, eq74⟩ := hQ74
      have N74 := Fr.app N28 N74q
      refine Go.tr st74 ?_
      show Go p e below _ (T74.setTop (mkF m 121 #[.val (.int p1), .val (.int p2), .val (.ref b3), .val (.ref w_REQUIRES_PAYMENT_METHOD), .val (.ref w_FAILED), .val (.int (0 : Int32))] [(.int (0 : Int32))]))
      refine Go.st (fun _ kk => XS.iload X74.here hx rfl (hb hby at_121) rfl  kk) ?_
      show Go p e below _ (T74.setTop (mkF m 123 #[.val (.int p1), .val (.int p2), .val (.ref b3), .val (.ref w_REQUIRES_PAYMENT_METHOD), .val (.ref w_FAILED), .val (.int (0 : Int32))] [(.int (0 : Int32)), (.int (0 : Int32))]))
      refine Go.st (fun _ kk => XS.icmpNo X74.here hx rfl (hb hby at_123) rfl (teq (by decide : ((0 : Int32) = (0 : Int32)))).2 kk) ?_
      show Go p e below _ (T74.setTop (mkF m 126 #[.val (.int p1), .val (.int p2), .val (.ref b3), .val (.ref w_REQUIRES_PAYMENT_METHOD), .val (.ref w_FAILED), .val (.int (0 : Int32))] []))
      refine Go.st (fun _ kk => XS.iconst X74.here hx rfl (hb hby at_126) kk) ?_
      show Go p e below _ (T74.setTop (mkF m 127 #[.val (.int p1), .val (.int p2), .val (.ref b3), .val (.ref w_REQUIRES_PAYMENT_METHOD), .val (.ref w_FAILED), .val (.int (0 : Int32))] [(.int (1 : Int32))]))
      refine Go.st (fun _ kk => XS.goto X74.here hx rfl (pc0 := 127) (pc' := 131) rfl (hb hby at_127) (by decide) (by decide) kk) ?_
      show Go p e below _ (T74.setTop (mkF m 131 #[.val (.int p1), .val (.int p2), .val (.ref b3), .val (.ref w_REQUIRES_PAYMENT_METHOD), .val (.ref w_FAILED), .val (.int (0 : Int32))] [(.int (1 : Int32))]))
      exact Go.ret (Q := Q0 n0) X74 (v := some (.int (1 : Int32))) (fun h => by rw [Bd.returns] at h; cases h) Bd.notSynchronized (fun fs hr => retN X74 hx (t := .boolean) Bd.returns (by simp) (hb hby at_131) hr) eq74 ⟨rfl, N74⟩ (by decide) (by decide)
    · skip
      rw [hk39]
      show Go p e below _ (T28.setTop (mkF m 51 #[.val (.int p1), .val (.int p2), .val (.ref b3), .val (.ref w_REQUIRES_PAYMENT_METHOD), .unset, .unset] [(.int (4 : Int32)), (.ref b3)]))
      obtain ⟨clq75, Arq75, caq75, saq75, naq75, haq75, gaq75⟩ := id V28
      have inq75 : ¬ ((4 : Int32) < 0 ∨ clq75.slots.size ≤ ((4 : Int32)).toNatClampNeg) := inb_of saq75 ⟨by decide, by decide⟩
      have atq75 : clq75.slots[((4 : Int32)).toNatClampNeg]? = some (.ref w_CANCELED) := haq75.at inq75 rfl
      refine Go.st (fun _ kk => X28.aaload hx (j := (4 : Int32)) (v := (.ref w_CANCELED)) (by rw [e28]; exact Arq75.1) (State.isArrayOf_alike hZ.alike Arq75.2.1) rfl Arq75.2.2 inq75 atq75 (g := (mkF m 51 #[.val (.int p1), .val (.int p2), .val (.ref b3), .val (.ref w_REQUIRES_PAYMENT_METHOD), .unset, .unset] [(.int (4 : Int32)), (.ref b3)])) rfl rfl (hb hby at_51) _ kk) ?_
      show Go p e below _ (T28.setTop (mkF m 52 #[.val (.int p1), .val (.int p2), .val (.ref b3), .val (.ref w_REQUIRES_PAYMENT_METHOD), .unset, .unset] [(.ref w_CANCELED)]))
      refine Go.st (fun _ kk => XS.astore X28.here hx rfl (hb hby at_52) rfl rfl (l' := #[.val (.int p1), .val (.int p2), .val (.ref b3), .val (.ref w_REQUIRES_PAYMENT_METHOD), .val (.ref w_CANCELED), .unset]) rfl kk) ?_
      show Go p e below _ (T28.setTop (mkF m 54 #[.val (.int p1), .val (.int p2), .val (.ref b3), .val (.ref w_REQUIRES_PAYMENT_METHOD), .val (.ref w_CANCELED), .unset] []))
      refine Go.st (fun _ kk => XS.aloadN X28.here hx rfl (hb hby at_54) rfl rfl  kk) ?_
      show Go p e below _ (T28.setTop (mkF m 55 #[.val (.int p1), .val (.int p2), .val (.ref b3), .val (.ref w_REQUIRES_PAYMENT_METHOD), .val (.ref w_CANCELED), .unset] [(.ref w_REQUIRES_PAYMENT_METHOD)]))
      have f_76 := (Sta.wr W28 (Sta.wr W23 (Sta.wr W18 f_14)))
      obtain ⟨T77, X77, e77, st77⟩ := getS2 X28 hx hZ hown (host := "") (Or.inl (hw _ (List.mem_of_getElem? (i := 8) rfl))) Via.refl e28 f_76 (g := (mkF m 55 #[.val (.int p1), .val (.int p2), .val (.ref b3), .val (.ref w_REQUIRES_PAYMENT_METHOD), .val (.ref w_CANCELED), .unset] [(.ref w_REQUIRES_PAYMENT_METHOD)])) rfl (hb hby at_55)
      refine Go.st st77 ?_
      show Go p e below _ (T77.setTop (mkF m 58 #[.val (.int p1), .val (.int p2), .val (.ref b3), .val (.ref w_REQUIRES_PAYMENT_METHOD), .val (.ref w_CANCELED), .unset] [(.ref w_SUCCEEDED), (.ref w_REQUIRES_PAYMENT_METHOD)]))
      refine Go.st (fun _ kk => Jvm.RoadKit.acmp (g := (mkF m 58 #[.val (.int p1), .val (.int p2), .val (.ref b3), .val (.ref w_REQUIRES_PAYMENT_METHOD), .val (.ref w_CANCELED), .unset] [(.ref w_SUCCEEDED), (.ref w_REQUIRES_PAYMENT_METHOD)])) X77 hx rfl rfl rfl (pc0 := 58) (pc' := 79) (same := false) rfl (hb hby at_58) rfl (decide_eq_false fun q => (Fld.ne F_ordinal_w_REQUIRES_PAYMENT_METHOD F_ordinal_w_SUCCEEDED (by decide)) (Value.ref.inj q)) (by decide) (by decide) kk) ?_
      show Go p e below _ (T77.setTop (mkF m 79 #[.val (.int p1), .val (.int p2), .val (.ref b3), .val (.ref w_REQUIRES_PAYMENT_METHOD), .val (.ref w_CANCELED), .unset] []))
      refine Go.st (fun _ kk => XS.aloadN X77.here hx rfl (hb hby at_79) rfl rfl  kk) ?_
      show Go p e below _ (T77.setTop (mkF m 80 #[.val (.int p1), .val (.int p2), .val (.ref b3), .val (.ref w_REQUIRES_PAYMENT_METHOD), .val (.ref w_CANCELED), .unset] [(.ref w_REQUIRES_PAYMENT_METHOD)]))
      have f_78 := (Sta.wr W28 f_24)
      obtain ⟨T79, X79, e79, st79⟩ := getS2 X77 hx hZ hown (host := "") (Or.inl (hw _ (List.mem_of_getElem? (i := 12) rfl))) Via.refl e77 f_78 (g := (mkF m 80 #[.val (.int p1), .val (.int p2), .val (.ref b3), .val (.ref w_REQUIRES_PAYMENT_METHOD), .val (.ref w_CANCELED), .unset] [(.ref w_REQUIRES_PAYMENT_METHOD)])) rfl (hb hby at_80)
      refine Go.st st79 ?_
      show Go p e below _ (T79.setTop (mkF m 83 #[.val (.int p1), .val (.int p2), .val (.ref b3), .val (.ref w_REQUIRES_PAYMENT_METHOD), .val (.ref w_CANCELED), .unset] [(.ref w_CANCELED), (.ref w_REQUIRES_PAYMENT_METHOD)]))
      refine Go.st (fun _ kk => Jvm.RoadKit.acmp (g := (mkF m 83 #[.val (.int p1), .val (.int p2), .val (.ref b3), .val (.ref w_REQUIRES_PAYMENT_METHOD), .val (.ref w_CANCELED), .unset] [(.ref w_CANCELED), (.ref w_REQUIRES_PAYMENT_METHOD)])) X79 hx rfl rfl rfl (pc0 := 83) (pc' := 112) (same := false) rfl (hb hby at_83) rfl (decide_eq_false fun q => (Fld.ne F_ordinal_w_REQUIRES_PAYMENT_METHOD F_ordinal_w_CANCELED (by decide)) (Value.ref.inj q)) (by decide) (by decide) kk) ?_
      show Go p e below _ (T79.setTop (mkF m 112 #[.val (.int p1), .val (.int p2), .val (.ref b3), .val (.ref w_REQUIRES_PAYMENT_METHOD), .val (.ref w_CANCELED), .unset] []))
      refine Go.st (fun _ kk => XS.iconst X79.here hx rfl (hb hby at_112) kk) ?_
      show Go p e below _ (T79.setTop (mkF m 113 #[.val (.int p1), .val (.int p2), .val (.ref b3), .val (.ref w_REQUIRES_PAYMENT_METHOD), .val (.ref w_CANCELED), .unset] [(.int (0 : Int32))]))
      refine Go.st (fun _ kk => XS.istore X79.here hx rfl (hb hby at_113) rfl (l' := #[.val (.int p1), .val (.int p2), .val (.ref b3), .val (.ref w_REQUIRES_PAYMENT_METHOD), .val (.ref w_CANCELED), .val (.int (0 : Int32))]) rfl kk) ?_
      show Go p e below _ (T79.setTop (mkF m 115 #[.val (.int p1), .val (.int p2), .val (.ref b3), .val (.ref w_REQUIRES_PAYMENT_METHOD), .val (.ref w_CANCELED), .val (.int (0 : Int32))] []))
      refine Go.st (fun _ kk => XS.aloadN X79.here hx rfl (hb hby at_115) rfl rfl  kk) ?_
      show Go p e below _ (T79.setTop (mkF m 116 #[.val (.int p1), .val (.int p2), .val (.ref b3), .val (.ref w_REQUIRES_PAYMENT_METHOD), .val (.ref w_CANCELED), .val (.int (0 : Int32))] [(.ref w_REQUIRES_PAYMENT_METHOD)]))
      refine Go.st (fun _ kk => XS.aload X79.here hx rfl (hb hby at_116) rfl rfl  kk) ?_
      show Go p e below _ (T79.setTop (mkF m 118 #[.val (.int p1), .val (.int p2), .val (.ref b3), .val (.ref w_REQUIRES_PAYMENT_METHOD), .val (.ref w_CANCELED), .val (.int (0 : Int32))] [(.ref w_CANCELED), (.ref w_REQUIRES_PAYMENT_METHOD)]))
      have f_80 := (Exa.wr W28 (Exa.wr W23 (Exa.wr W18 (Exa.wr W13 (Exa.wr W8 f_7)))))
      have f_81 := (F_rank_w_REQUIRES_PAYMENT_METHOD.keep K28 nin0)
      have f_82 := (F_rank_w_CANCELED.keep K28 nin0)
      obtain ⟨cq83, kq83, q83a, q83b, q83c⟩ := isOf hZ e79 f_80
      obtain ⟨_, _, ⟨T83, L83, k83, n83⟩, -, X83, ⟨Lc83, hQ83, l83, y83, z83⟩, st83⟩ := X79.virtualBack hx (y := (⟨"com/example/charge_ledger/chargeledger/model/PaymentStatus", "outranks", "(Lcom/example/charge_ledger/chargeledger/model/PaymentStatus;)Z"⟩ : MethodName)) (z := (⟨"com/example/charge_ledger/chargeledger/model/PaymentStatus", "outranks", "(Lcom/example/charge_ledger/chargeledger/model/PaymentStatus;)Z"⟩ : MethodName)) hown (mvT hZ (hw _ (List.mem_of_getElem? (i := 15) rfl))) (mvT hZ (hw _ (List.mem_of_getElem? (i := 16) rfl))) (notFace_of_selects (args := #[]) (mvT hZ (hw _ (List.mem_of_getElem? (i := 18) rfl)))) (mvT hZ (hw _ (List.mem_of_getElem? (i := 18) rfl))) (mvT hZ (hw _ (List.mem_of_getElem? (i := 17) rfl))) (by decide) (backOf (W := 0) (rm1_f l Z a0 hw [] w_REQUIRES_PAYMENT_METHOD w_CANCELED (0 : Int32) (1 : Int32) h28 n0 (Nat.le_trans Z0 K28.1) f_81 f_82 (by decide : ¬ ((1 : Int32) < (0 : Int32)))) hZ (hw _ (List.mem_of_getElem? (i := 19) rfl)) (hw _ (List.mem_of_getElem? (i := 3) rfl)) (by decide) (by decide)) q83a q83c (g := (mkF m 118 #[.val (.int p1), .val (.int p2), .val (.ref b3), .val (.ref w_REQUIRES_PAYMENT_METHOD), .val (.ref w_CANCELED), .val (.int (0 : Int32))] [(.ref w_CANCELED), (.ref w_REQUIRES_PAYMENT_METHOD)])) rfl (by rw [hml]; rfl) (Steps.refl _) (argsL := [(.ref w_CANCELED)]) (rest := []) (lenOf pd_0 rfl) rfl (by show 2 * 0 + _ ≤ _; exact Nat.le_of_eq rfl) (hb hby at_118) (fun _ _ => ⟨rfl, e79, (by decide : 1 + 0 ≤ _), (by decide : 5 + 0 ≤ _)⟩)
      dsimp only [Pt.U, Pt.locs, Pt.cells, Pt.slots] at X83 l83 y83 z83 st83 hQ83
      subst l83 y83 z83
      obtain ⟨rfl, N83q, eq83⟩ := hQ83
      have N83 := Fr.app N28 N83q
      refine Go.tr st83 ?_
      show Go p e below _ (T83.setTop (mkF m 121 #[.val (.int p1), .val (.int p2), .val (.ref b3), .val (.ref w_REQUIRES_PAYMENT_METHOD), .val (.ref w_CANCELED), .val (.int (0 : Int32))] [(.int (0 : Int32))]))
      refine Go.st (fun _ kk => XS.iload X83.here hx rfl (hb hby at_121) rfl  kk) ?_
      show Go p e below _ (T83.setTop (mkF m 123 #[.val (.int p1), .val (.int p2), .val (.ref b3), .val (.ref w_REQUIRES_PAYMENT_METHOD), .val (.ref w_CANCELED), .val (.int (0 : Int32))] [(.int (0 : Int32)), (.int (0 : Int32))]))
      refine Go.st (fun _ kk => XS.icmpNo X83.here hx rfl (hb hby at_123) rfl (teq (by decide : ((0 : Int32) = (0 : Int32)))).2 kk) ?_
      show Go p e below _ (T83.setTop (mkF m 126 #[.val (.int p1), .val (.int p2), .val (.ref b3), .val (.ref w_REQUIRES_PAYMENT_METHOD), .val (.ref w_CANCELED), .val (.int (0 : Int32))] []))
      refine Go.st (fun _ kk => XS.iconst X83.here hx rfl (hb hby at_126) kk) ?_
      show Go p e below _ (T83.setTop (mkF m 127 #[.val (.int p1), .val (.int p2), .val (.ref b3), .val (.ref w_REQUIRES_PAYMENT_METHOD), .val (.ref w_CANCELED), .val (.int (0 : Int32))] [(.int (1 : Int32))]))
      refine Go.st (fun _ kk => XS.goto X83.here hx rfl (pc0 := 127) (pc' := 131) rfl (hb hby at_127) (by decide) (by decide) kk) ?_
      show Go p e below _ (T83.setTop (mkF m 131 #[.val (.int p1), .val (.int p2), .val (.ref b3), .val (.ref w_REQUIRES_PAYMENT_METHOD), .val (.ref w_CANCELED), .val (.int (0 : Int32))] [(.int (1 : Int32))]))
      exact Go.ret (Q := Q0 n0) X83 (v := some (.int (1 : Int32))) (fun h => by rw [Bd.returns] at h; cases h) Bd.notSynchronized (fun fs hr => retN X83 hx (t := .boolean) Bd.returns (by simp) (hb hby at_131) hr) eq83 ⟨rfl, N83⟩ (by decide) (by decide)
  · skip
    rw [hk30]
    show Go p e below _ (T28.setTop (mkF m 42 #[.val (.int p1), .val (.int p2), .val (.ref b3), .unset, .unset, .unset] [(.int (1 : Int32)), (.ref b3)]))
    obtain ⟨clq84, Arq84, caq84, saq84, naq84, haq84, gaq84⟩ := id V28
    have inq84 : ¬ ((1 : Int32) < 0 ∨ clq84.slots.size ≤ ((1 : Int32)).toNatClampNeg) := inb_of saq84 ⟨by decide, by decide⟩
    have atq84 : clq84.slots[((1 : Int32)).toNatClampNeg]? = some (.ref w_PROCESSING) := haq84.at inq84 rfl
    refine Go.st (fun _ kk => X28.aaload hx (j := (1 : Int32)) (v := (.ref w_PROCESSING)) (by rw [e28]; exact Arq84.1) (State.isArrayOf_alike hZ.alike Arq84.2.1) rfl Arq84.2.2 inq84 atq84 (g := (mkF m 42 #[.val (.int p1), .val (.int p2), .val (.ref b3), .unset, .unset, .unset] [(.int (1 : Int32)), (.ref b3)])) rfl rfl (hb hby at_42) _ kk) ?_
    show Go p e below _ (T28.setTop (mkF m 43 #[.val (.int p1), .val (.int p2), .val (.ref b3), .unset, .unset, .unset] [(.ref w_PROCESSING)]))
    refine Go.st (fun _ kk => XS.astoreN X28.here hx rfl (hb hby at_43) rfl rfl (l' := #[.val (.int p1), .val (.int p2), .val (.ref b3), .val (.ref w_PROCESSING), .unset, .unset]) rfl kk) ?_
    show Go p e below _ (T28.setTop (mkF m 44 #[.val (.int p1), .val (.int p2), .val (.ref b3), .val (.ref w_PROCESSING), .unset, .unset] []))
    refine Go.st (fun _ kk => XS.aloadN X28.here hx rfl (hb hby at_44) rfl rfl  kk) ?_
    show Go p e below _ (T28.setTop (mkF m 45 #[.val (.int p1), .val (.int p2), .val (.ref b3), .val (.ref w_PROCESSING), .unset, .unset] [(.ref b3)]))
    refine Go.st (fun _ kk => XS.iloadN X28.here hx rfl (hb hby at_45) rfl  kk) ?_
    show Go p e below _ (T28.setTop (mkF m 46 #[.val (.int p1), .val (.int p2), .val (.ref b3), .val (.ref w_PROCESSING), .unset, .unset] [(.int p2), (.ref b3)]))
    refine Go.st (fun _ kk => X28.ldcInt hx hown (mvT hZ (hw _ (List.mem_of_getElem? (i := 14) rfl))) (g := (mkF m 46 #[.val (.int p1), .val (.int p2), .val (.ref b3), .val (.ref w_PROCESSING), .unset, .unset] [(.int p2), (.ref b3)])) rfl (hb hby at_46) _ kk) ?_
    show Go p e below _ (T28.setTop (mkF m 48 #[.val (.int p1), .val (.int p2), .val (.ref b3), .val (.ref w_PROCESSING), .unset, .unset] [(.int (2147483647 : Int32)), (.int p2), (.ref b3)]))
    refine Go.st (fun _ kk => XS.iand X28.here hx rfl (hb hby at_48) rfl kk) ?_
    show Go p e below _ (T28.setTop (mkF m 49 #[.val (.int p1), .val (.int p2), .val (.ref b3), .val (.ref w_PROCESSING), .unset, .unset] [(.int (p2 &&& (2147483647 : Int32))), (.ref b3)]))
    refine Go.st (fun _ kk => XS.iconst X28.here hx rfl (hb hby at_49) kk) ?_
    show Go p e below _ (T28.setTop (mkF m 50 #[.val (.int p1), .val (.int p2), .val (.ref b3), .val (.ref w_PROCESSING), .unset, .unset] [(.int (5 : Int32)), (.int (p2 &&& (2147483647 : Int32))), (.ref b3)]))
    refine Go.st (fun _ kk => iremM (g := (mkF m 50 #[.val (.int p1), .val (.int p2), .val (.ref b3), .val (.ref w_PROCESSING), .unset, .unset] [(.int (5 : Int32)), (.int (p2 &&& (2147483647 : Int32))), (.ref b3)])) X28 hx rfl (hb hby at_50) rfl (by decide : ¬ ((5 : Int32) = (0 : Int32))) kk) ?_
    show Go p e below _ (T28.setTop (mkF m 51 #[.val (.int p1), .val (.int p2), .val (.ref b3), .val (.ref w_PROCESSING), .unset, .unset] [(.int ((p2 &&& (2147483647 : Int32)) % (5 : Int32))), (.ref b3)]))
    rcases (own_k p2 : ((p2 &&& (2147483647 : Int32)) % (5 : Int32)) = (0 : Int32) ∨ ((p2 &&& (2147483647 : Int32)) % (5 : Int32)) = (1 : Int32) ∨ ((p2 &&& (2147483647 : Int32)) % (5 : Int32)) = (2 : Int32) ∨ ((p2 &&& (2147483647 : Int32)) % (5 : Int32)) = (3 : Int32) ∨ ((p2 &&& (2147483647 : Int32)) % (5 : Int32)) = (4 : Int32)) with hk85 | hk86 | hk87 | hk88 | hk89
    · skip
      rw [hk85]
      show Go p e below _ (T28.setTop (mkF m 51 #[.val (.int p1), .val (.int p2), .val (.ref b3), .val (.ref w_PROCESSING), .unset, .unset] [(.int (0 : Int32)), (.ref b3)]))
      obtain ⟨clq90, Arq90, caq90, saq90, naq90, haq90, gaq90⟩ := id V28
      have inq90 : ¬ ((0 : Int32) < 0 ∨ clq90.slots.size ≤ ((0 : Int32)).toNatClampNeg) := inb_of saq90 ⟨by decide, by decide⟩
      have atq90 : clq90.slots[((0 : Int32)).toNatClampNeg]? = some (.ref w_REQUIRES_PAYMENT_METHOD) := haq90.at inq90 rfl
      refine Go.st (fun _ kk => X28.aaload hx (j := (0 : Int32)) (v := (.ref w_REQUIRES_PAYMENT_METHOD)) (by rw [e28]; exact Arq90.1) (State.isArrayOf_alike hZ.alike Arq90.2.1) rfl Arq90.2.2 inq90 atq90 (g := (mkF m 51 #[.val (.int p1), .val (.int p2), .val (.ref b3), .val (.ref w_PROCESSING), .unset, .unset] [(.int (0 : Int32)), (.ref b3)])) rfl rfl (hb hby at_51) _ kk) ?_
      show Go p e below _ (T28.setTop (mkF m 52 #[.val (.int p1), .val (.int p2), .val (.ref b3), .val (.ref w_PROCESSING), .unset, .unset] [(.ref w_REQUIRES_PAYMENT_METHOD)]))
      refine Go.st (fun _ kk => XS.astore X28.here hx rfl (hb hby at_52) rfl rfl (l' := #[.val (.int p1), .val (.int p2), .val (.ref b3), .val (.ref w_PROCESSING), .val (.ref w_REQUIRES_PAYMENT_METHOD), .unset]) rfl kk) ?_
      show Go p e below _ (T28.setTop (mkF m 54 #[.val (.int p1), .val (.int p2), .val (.ref b3), .val (.ref w_PROCESSING), .val (.ref w_REQUIRES_PAYMENT_METHOD), .unset] []))
      refine Go.st (fun _ kk => XS.aloadN X28.here hx rfl (hb hby at_54) rfl rfl  kk) ?_
      show Go p e below _ (T28.setTop (mkF m 55 #[.val (.int p1), .val (.int p2), .val (.ref b3), .val (.ref w_PROCESSING), .val (.ref w_REQUIRES_PAYMENT_METHOD), .unset] [(.ref w_PROCESSING)]))
      have f_91 := (Sta.wr W28 (Sta.wr W23 (Sta.wr W18 f_14)))
      obtain ⟨T92, X92, e92, st92⟩ := getS2 X28 hx hZ hown (host := "") (Or.inl (hw _ (List.mem_of_getElem? (i := 8) rfl))) Via.refl e28 f_91 (g := (mkF m 55 #[.val (.int p1), .val (.int p2), .val (.ref b3), .val (.ref w_PROCESSING), .val (.ref w_REQUIRES_PAYMENT_METHOD), .unset] [(.ref w_PROCESSING)])) rfl (hb hby at_55)
      refine Go.st st92 ?_
      show Go p e below _ (T92.setTop (mkF m 58 #[.val (.int p1), .val (.int p2), .val (.ref b3), .val (.ref w_PROCESSING), .val (.ref w_REQUIRES_PAYMENT_METHOD), .unset] [(.ref w_SUCCEEDED), (.ref w_PROCESSING)]))
      refine Go.st (fun _ kk => Jvm.RoadKit.acmp (g := (mkF m 58 #[.val (.int p1), .val (.int p2), .val (.ref b3), .val (.ref w_PROCESSING), .val (.ref w_REQUIRES_PAYMENT_METHOD), .unset] [(.ref w_SUCCEEDED), (.ref w_PROCESSING)])) X92 hx rfl rfl rfl (pc0 := 58) (pc' := 79) (same := false) rfl (hb hby at_58) rfl (decide_eq_false fun q => (Fld.ne F_ordinal_w_PROCESSING F_ordinal_w_SUCCEEDED (by decide)) (Value.ref.inj q)) (by decide) (by decide) kk) ?_
      show Go p e below _ (T92.setTop (mkF m 79 #[.val (.int p1), .val (.int p2), .val (.ref b3), .val (.ref w_PROCESSING), .val (.ref w_REQUIRES_PAYMENT_METHOD), .unset] []))
      refine Go.st (fun _ kk => XS.aloadN X92.here hx rfl (hb hby at_79) rfl rfl  kk) ?_
      show Go p e below _ (T92.setTop (mkF m 80 #[.val (.int p1), .val (.int p2), .val (.ref b3), .val (.ref w_PROCESSING), .val (.ref w_REQUIRES_PAYMENT_METHOD), .unset] [(.ref w_PROCESSING)]))
      have f_93 := (Sta.wr W28 f_24)
      obtain ⟨T94, X94, e94, st94⟩ := getS2 X92 hx hZ hown (host := "") (Or.inl (hw _ (List.mem_of_getElem? (i := 12) rfl))) Via.refl e92 f_93 (g := (mkF m 80 #[.val (.int p1), .val (.int p2), .val (.ref b3), .val (.ref w_PROCESSING), .val (.ref w_REQUIRES_PAYMENT_METHOD), .unset] [(.ref w_PROCESSING)])) rfl (hb hby at_80)
      refine Go.st st94 ?_
      show Go p e below _ (T94.setTop (mkF m 83 #[.val (.int p1), .val (.int p2), .val (.ref b3), .val (.ref w_PROCESSING), .val (.ref w_REQUIRES_PAYMENT_METHOD), .unset] [(.ref w_CANCELED), (.ref w_PROCESSING)]))
      refine Go.st (fun _ kk => Jvm.RoadKit.acmp (g := (mkF m 83 #[.val (.int p1), .val (.int p2), .val (.ref b3), .val (.ref w_PROCESSING), .val (.ref w_REQUIRES_PAYMENT_METHOD), .unset] [(.ref w_CANCELED), (.ref w_PROCESSING)])) X94 hx rfl rfl rfl (pc0 := 83) (pc' := 112) (same := false) rfl (hb hby at_83) rfl (decide_eq_false fun q => (Fld.ne F_ordinal_w_PROCESSING F_ordinal_w_CANCELED (by decide)) (Value.ref.inj q)) (by decide) (by decide) kk) ?_
      show Go p e below _ (T94.setTop (mkF m 112 #[.val (.int p1), .val (.int p2), .val (.ref b3), .val (.ref w_PROCESSING), .val (.ref w_REQUIRES_PAYMENT_METHOD), .unset] []))
      refine Go.st (fun _ kk => XS.iconst X94.here hx rfl (hb hby at_112) kk) ?_
      show Go p e below _ (T94.setTop (mkF m 113 #[.val (.int p1), .val (.int p2), .val (.ref b3), .val (.ref w_PROCESSING), .val (.ref w_REQUIRES_PAYMENT_METHOD), .unset] [(.int (0 : Int32))]))
      refine Go.st (fun _ kk => XS.istore X94.here hx rfl (hb hby at_113) rfl (l' := #[.val (.int p1), .val (.int p2), .val (.ref b3), .val (.ref w_PROCESSING), .val (.ref w_REQUIRES_PAYMENT_METHOD), .val (.int (0 : Int32))]) rfl kk) ?_
      show Go p e below _ (T94.setTop (mkF m 115 #[.val (.int p1), .val (.int p2), .val (.ref b3), .val (.ref w_PROCESSING), .val (.ref w_REQUIRES_PAYMENT_METHOD), .val (.int (0 : Int32))] []))
      refine Go.st (fun _ kk => XS.aloadN X94.here hx rfl (hb hby at_115) rfl rfl  kk) ?_
      show Go p e below _ (T94.setTop (mkF m 116 #[.val (.int p1), .val (.int p2), .val (.ref b3), .val (.ref w_PROCESSING), .val (.ref w_REQUIRES_PAYMENT_METHOD), .val (.int (0 : Int32))] [(.ref w_PROCESSING)]))
      refine Go.st (fun _ kk => XS.aload X94.here hx rfl (hb hby at_116) rfl rfl  kk) ?_
      show Go p e below _ (T94.setTop (mkF m 118 #[.val (.int p1), .val (.int p2), .val (.ref b3), .val (.ref w_PROCESSING), .val (.ref w_REQUIRES_PAYMENT_METHOD), .val (.int (0 : Int32))] [(.ref w_REQUIRES_PAYMENT_METHOD), (.ref w_PROCESSING)]))
      have f_95 := (Exa.wr W28 (Exa.wr W23 (Exa.wr W18 (Exa.wr W13 f_12))))
      have f_96 := (F_rank_w_PROCESSING.keep K28 nin0)
      have f_97 := (F_rank_w_REQUIRES_PAYMENT_METHOD.keep K28 nin0)
      obtain ⟨cq98, kq98, q98a, q98b, q98c⟩ := isOf hZ e94 f_95
      obtain ⟨_, _, ⟨T98, L98, k98, n98⟩, -, X98, ⟨Lc98, hQ98, l98, y98, z98⟩, st98⟩ := X94.virtualBack hx (y := (⟨"com/example/charge_ledger/chargeledger/model/PaymentStatus", "outranks", "(Lcom/example/charge_ledger/chargeledger/model/PaymentStatus;)Z"⟩ : MethodName)) (z := (⟨"com/example/charge_ledger/chargeledger/model/PaymentStatus", "outranks", "(Lcom/example/charge_ledger/chargeledger/model/PaymentStatus;)Z"⟩ : MethodName)) hown (mvT hZ (hw _ (List.mem_of_getElem? (i := 15) rfl))) (mvT hZ (hw _ (List.mem_of_getElem? (i := 16) rfl))) (notFace_of_selects (args := #[]) (mvT hZ (hw _ (List.mem_of_getElem? (i := 18) rfl)))) (mvT hZ (hw _ (List.mem_of_getElem? (i := 18) rfl))) (mvT hZ (hw _ (List.mem_of_getElem? (i := 17) rfl))) (by decide) (backOf (W := 0) (rm1_f l Z a0 hw [] w_PROCESSING w_REQUIRES_PAYMENT_METHOD (0 : Int32) (0 : Int32) h28 n0 (Nat.le_trans Z0 K28.1) f_96 f_97 (by decide : ¬ ((0 : Int32) < (0 : Int32)))) hZ (hw _ (List.mem_of_getElem? (i := 19) rfl)) (hw _ (List.mem_of_getElem? (i := 3) rfl)) (by decide) (by decide)) q98a q98c (g := (mkF m 118 #[.val (.int p1), .val (.int p2), .val (.ref b3), .val (.ref w_PROCESSING), .val (.ref w_REQUIRES_PAYMENT_METHOD), .val (.int (0 : Int32))] [(.ref w_REQUIRES_PAYMENT_METHOD), (.ref w_PROCESSING)])) rfl (by rw [hml]; rfl) (Steps.refl _) (argsL := [(.ref w_REQUIRES_PAYMENT_METHOD)]) (rest := []) (lenOf pd_0 rfl) rfl (by show 2 * 0 + _ ≤ _; exact Nat.le_of_eq rfl) (hb hby at_118) (fun _ _ => ⟨rfl, e94, (by decide : 1 + 0 ≤ _), (by decide : 5 + 0 ≤ _)⟩)
      dsimp only [Pt.U, Pt.locs, Pt.cells, Pt.slots] at X98 l98 y98 z98 st98 hQ98
      subst l98 y98 z98
      obtain ⟨rfl, N98q, eq98⟩ := hQ98
      have N98 := Fr.app N28 N98q
      refine Go.tr st98 ?_
      show Go p e below _ (T98.setTop (mkF m 121 #[.val (.int p1), .val (.int p2), .val (.ref b3), .val (.ref w_PROCESSING), .val (.ref w_REQUIRES_PAYMENT_METHOD), .val (.int (0 : Int32))] [(.int (0 : Int32))]))
      refine Go.st (fun _ kk => XS.iload X98.here hx rfl (hb hby at_121) rfl  kk) ?_
      show Go p e below _ (T98.setTop (mkF m 123 #[.val (.int p1), .val (.int p2), .val (.ref b3), .val (.ref w_PROCESSING), .val (.ref w_REQUIRES_PAYMENT_METHOD), .val (.int (0 : Int32))] [(.int (0 : Int32)), (.int (0 : Int32))]))
      refine Go.st (fun _ kk => XS.icmpNo X98.here hx rfl (hb hby at_123) rfl (teq (by decide : ((0 : Int32) = (0 : Int32)))).2 kk) ?_
      show Go p e below _ (T98.setTop (mkF m 126 #[.val (.int p1), .val (.int p2), .val (.ref b3), .val (.ref w_PROCESSING), .val (.ref w_REQUIRES_PAYMENT_METHOD), .val (.int (0 : Int32))] []))
      refine Go.st (fun _ kk => XS.iconst X98.here hx rfl (hb hby at_126) kk) ?_
      show Go p e below _ (T98.setTop (mkF m 127 #[.val (.int p1), .val (.int p2), .val (.ref b3), .val (.ref w_PROCESSING), .val (.ref w_REQUIRES_PAYMENT_METHOD), .val (.int (0 : Int32))] [(.int (1 : Int32))]))
      refine Go.st (fun _ kk => XS.goto X98.here hx rfl (pc0 := 127) (pc' := 131) rfl (hb hby at_127) (by decide) (by decide) kk) ?_
      show Go p e below _ (T98.setTop (mkF m 131 #[.val (.int p1), .val (.int p2), .val (.ref b3), .val (.ref w_PROCESSING), .val (.ref w_REQUIRES_PAYMENT_METHOD), .val (.int (0 : Int32))] [(.int (1 : Int32))]))
      exact Go.ret (Q := Q0 n0) X98 (v := some (.int (1 : Int32))) (fun h => by rw [Bd.returns] at h; cases h) Bd.notSynchronized (fun fs hr => retN X98 hx (t := .boolean) Bd.returns (by simp) (hb hby at_131) hr) eq98 ⟨rfl, N98⟩ (by decide) (by decide)
    · skip
      rw [hk86]
      show Go p e below _ (T28.setTop (mkF m 51 #[.val (.int p1), .val (.int p2), .val (.ref b3), .val (.ref w_PROCESSING), .unset, .unset] [(.int (1 : Int32)), (.ref b3)]))
      obtain ⟨clq99, Arq99, caq99, saq99, naq99, haq99, gaq99⟩ := id V28
      have inq99 : ¬ ((1 : Int32) < 0 ∨ clq99.slots.size ≤ ((1 : Int32)).toNatClampNeg) := inb_of saq99 ⟨by decide, by decide⟩
      have atq99 : clq99.slots[((1 : Int32)).toNatClampNeg]? = some (.ref w_PROCESSING) := haq99.at inq99 rfl
      refine Go.st (fun _ kk => X28.aaload hx (j := (1 : Int32)) (v := (.ref w_PROCESSING)) (by rw [e28]; exact Arq99.1) (State.isArrayOf_alike hZ.alike Arq99.2.1) rfl Arq99.2.2 inq99 atq99 (g := (mkF m 51 #[.val (.int p1), .val (.int p2), .val (.ref b3), .val (.ref w_PROCESSING), .unset, .unset] [(.int (1 : Int32)), (.ref b3)])) rfl rfl (hb hby at_51) _ kk) ?_
      show Go p e below _ (T28.setTop (mkF m 52 #[.val (.int p1), .val (.int p2), .val (.ref b3), .val (.ref w_PROCESSING), .unset, .unset] [(.ref w_PROCESSING)]))
      refine Go.st (fun _ kk => XS.astore X28.here hx rfl (hb hby at_52) rfl rfl (l' := #[.val (.int p1), .val (.int p2), .val (.ref b3), .val (.ref w_PROCESSING), .val (.ref w_PROCESSING), .unset]) rfl kk) ?_
      show Go p e below _ (T28.setTop (mkF m 54 #[.val (.int p1), .val (.int p2), .val (.ref b3), .val (.ref w_PROCESSING), .val (.ref w_PROCESSING), .unset] []))
      refine Go.st (fun _ kk => XS.aloadN X28.here hx rfl (hb hby at_54) rfl rfl  kk) ?_
      show Go p e below _ (T28.setTop (mkF m 55 #[.val (.int p1), .val (.int p2), .val (.ref b3), .val (.ref w_PROCESSING), .val (.ref w_PROCESSING), .unset] [(.ref w_PROCESSING)]))
      have f_100 := (Sta.wr W28 (Sta.wr W23 (Sta.wr W18 f_14)))
      obtain ⟨T101, X101, e101, st101⟩ := getS2 X28 hx hZ hown (host := "") (Or.inl (hw _ (List.mem_of_getElem? (i := 8) rfl))) Via.refl e28 f_100 (g := (mkF m 55 #[.val (.int p1), .val (.int p2), .val (.ref b3), .val (.ref w_PROCESSING), .val (.ref w_PROCESSING), .unset] [(.ref w_PROCESSING)])) rfl (hb hby at_55)
      refine Go.st st101 ?_
      show Go p e below _ (T101.setTop (mkF m 58 #[.val (.int p1), .val (.int p2), .val (.ref b3), .val (.ref w_PROCESSING), .val (.ref w_PROCESSING), .unset] [(.ref w_SUCCEEDED), (.ref w_PROCESSING)]))
      refine Go.st (fun _ kk => Jvm.RoadKit.acmp (g := (mkF m 58 #[.val (.int p1), .val (.int p2), .val (.ref b3), .val (.ref w_PROCESSING), .val (.ref w_PROCESSING), .unset] [(.ref w_SUCCEEDED), (.ref w_PROCESSING)])) X101 hx rfl rfl rfl (pc0 := 58) (pc' := 79) (same := false) rfl (hb hby at_58) rfl (decide_eq_false fun q => (Fld.ne F_ordinal_w_PROCESSING F_ordinal_w_SUCCEEDED (by decide)) (Value.ref.inj q)) (by decide) (by decide) kk) ?_
      show Go p e below _ (T101.setTop (mkF m 79 #[.val (.int p1), .val (.int p2), .val (.ref b3), .val (.ref w_PROCESSING), .val (.ref w_PROCESSING), .unset] []))
      refine Go.st (fun _ kk => XS.aloadN X101.here hx rfl (hb hby at_79) rfl rfl  kk) ?_
      show Go p e below _ (T101.setTop (mkF m 80 #[.val (.int p1), .val (.int p2), .val (.ref b3), .val (.ref w_PROCESSING), .val (.ref w_PROCESSING), .unset] [(.ref w_PROCESSING)]))
      have f_102 := (Sta.wr W28 f_24)
      obtain ⟨T103, X103, e103, st103⟩ := getS2 X101 hx hZ hown (host := "") (Or.inl (hw _ (List.mem_of_getElem? (i := 12) rfl))) Via.refl e101 f_102 (g := (mkF m 80 #[.val (.int p1), .val (.int p2), .val (.ref b3), .val (.ref w_PROCESSING), .val (.ref w_PROCESSING), .unset] [(.ref w_PROCESSING)])) rfl (hb hby at_80)
      refine Go.st st103 ?_
      show Go p e below _ (T103.setTop (mkF m 83 #[.val (.int p1), .val (.int p2), .val (.ref b3), .val (.ref w_PROCESSING), .val (.ref w_PROCESSING), .unset] [(.ref w_CANCELED), (.ref w_PROCESSING)]))
      refine Go.st (fun _ kk => Jvm.RoadKit.acmp (g := (mkF m 83 #[.val (.int p1), .val (.int p2), .val (.ref b3), .val (.ref w_PROCESSING), .val (.ref w_PROCESSING), .unset] [(.ref w_CANCELED), (.ref w_PROCESSING)])) X103 hx rfl rfl rfl (pc0 := 83) (pc' := 112) (same := false) rfl (hb hby at_83) rfl (decide_eq_false fun q => (Fld.ne F_ordinal_w_PROCESSING F_ordinal_w_CANCELED (by decide)) (Value.ref.inj q)) (by decide) (by decide) kk) ?_
      show Go p e below _ (T103.setTop (mkF m 112 #[.val (.int p1), .val (.int p2), .val (.ref b3), .val (.ref w_PROCESSING), .val (.ref w_PROCESSING), .unset] []))
      refine Go.st (fun _ kk => XS.iconst X103.here hx rfl (hb hby at_112) kk) ?_
      show Go p e below _ (T103.setTop (mkF m 113 #[.val (.int p1), .val (.int p2), .val (.ref b3), .val (.ref w_PROCESSING), .val (.ref w_PROCESSING), .unset] [(.int (0 : Int32))]))
      refine Go.st (fun _ kk => XS.istore X103.here hx rfl (hb hby at_113) rfl (l' := #[.val (.int p1), .val (.int p2), .val (.ref b3), .val (.ref w_PROCESSING), .val (.ref w_PROCESSING), .val (.int (0 : Int32))]) rfl kk) ?_
      show Go p e below _ (T103.setTop (mkF m 115 #[.val (.int p1), .val (.int p2), .val (.ref b3), .val (.ref w_PROCESSING), .val (.ref w_PROCESSING), .val (.int (0 : Int32))] []))
      refine Go.st (fun _ kk => XS.aloadN X103.here hx rfl (hb hby at_115) rfl rfl  kk) ?_
      show Go p e below _ (T103.setTop (mkF m 116 #[.val (.int p1), .val (.int p2), .val (.ref b3), .val (.ref w_PROCESSING), .val (.ref w_PROCESSING), .val (.int (0 : Int32))] [(.ref w_PROCESSING)]))
      refine Go.st (fun _ kk => XS.aload X103.here hx rfl (hb hby at_116) rfl rfl  kk) ?_
      show Go p e below _ (T103.setTop (mkF m 118 #[.val (.int p1), .val (.int p2), .val (.ref b3), .val (.ref w_PROCESSING), .val (.ref w_PROCESSING), .val (.int (0 : Int32))] [(.ref w_PROCESSING), (.ref w_PROCESSING)]))
      have f_104 := (Exa.wr W28 (Exa.wr W23 (Exa.wr W18 (Exa.wr W13 f_12))))
      have f_105 := (F_rank_w_PROCESSING.keep K28 nin0)
      obtain ⟨cq106, kq106, q106a, q106b, q106c⟩ := isOf hZ e103 f_104
      obtain ⟨_, _, ⟨T106, L106, k106, n106⟩, -, X106, ⟨Lc106, hQ106, l106, y106, z106⟩, st106⟩ := X103.virtualBack hx (y := (⟨"com/example/charge_ledger/chargeledger/model/PaymentStatus", "outranks", "(Lcom/example/charge_ledger/chargeledger/model/PaymentStatus;)Z"⟩ : MethodName)) (z := (⟨"com/example/charge_ledger/chargeledger/model/PaymentStatus", "outranks", "(Lcom/example/charge_ledger/chargeledger/model/PaymentStatus;)Z"⟩ : MethodName)) hown (mvT hZ (hw _ (List.mem_of_getElem? (i := 15) rfl))) (mvT hZ (hw _ (List.mem_of_getElem? (i := 16) rfl))) (notFace_of_selects (args := #[]) (mvT hZ (hw _ (List.mem_of_getElem? (i := 18) rfl)))) (mvT hZ (hw _ (List.mem_of_getElem? (i := 18) rfl))) (mvT hZ (hw _ (List.mem_of_getElem? (i := 17) rfl))) (by decide) (backOf (W := 0) (rm1_f l Z a0 hw [] w_PROCESSING w_PROCESSING (0 : Int32) (0 : Int32) h28 n0 (Nat.le_trans Z0 K28.1) f_105 f_105 (by decide : ¬ ((0 : Int32) < (0 : Int32)))) hZ (hw _ (List.mem_of_getElem? (i := 19) rfl)) (hw _ (List.mem_of_getElem? (i := 3) rfl)) (by decide) (by decide)) q106a q106c (g := (mkF m 118 #[.val (.int p1), .val (.int p2), .val (.ref b3), .val (.ref w_PROCESSING), .val (.ref w_PROCESSING), .val (.int (0 : Int32))] [(.ref w_PROCESSING), (.ref w_PROCESSING)])) rfl (by rw [hml]; rfl) (Steps.refl _) (argsL := [(.ref w_PROCESSING)]) (rest := []) (lenOf pd_0 rfl) rfl (by show 2 * 0 + _ ≤ _; exact Nat.le_of_eq rfl) (hb hby at_118) (fun _ _ => ⟨rfl, e103, (by decide : 1 + 0 ≤ _), (by decide : 5 + 0 ≤ _)⟩)
      dsimp only [Pt.U, Pt.locs, Pt.cells, Pt.slots] at X106 l106 y106 z106 st106 hQ106
      subst l106 y106 z106
      obtain ⟨rfl, N106q, eq106⟩ := hQ106
      have N106 := Fr.app N28 N106q
      refine Go.tr st106 ?_
      show Go p e below _ (T106.setTop (mkF m 121 #[.val (.int p1), .val (.int p2), .val (.ref b3), .val (.ref w_PROCESSING), .val (.ref w_PROCESSING), .val (.int (0 : Int32))] [(.int (0 : Int32))]))
      refine Go.st (fun _ kk => XS.iload X106.here hx rfl (hb hby at_121) rfl  kk) ?_
      show Go p e below _ (T106.setTop (mkF m 123 #[.val (.int p1), .val (.int p2), .val (.ref b3), .val (.ref w_PROCESSING), .val (.ref w_PROCESSING), .val (.int (0 : Int32))] [(.int (0 : Int32)), (.int (0 : Int32))]))
      refine Go.st (fun _ kk => XS.icmpNo X106.here hx rfl (hb hby at_123) rfl (teq (by decide : ((0 : Int32) = (0 : Int32)))).2 kk) ?_
      show Go p e below _ (T106.setTop (mkF m 126 #[.val (.int p1), .val (.int p2), .val (.ref b3), .val (.ref w_PROCESSING), .val (.ref w_PROCESSING), .val (.int (0 : Int32))] []))
      refine Go.st (fun _ kk => XS.iconst X106.here hx rfl (hb hby at_126) kk) ?_
      show Go p e below _ (T106.setTop (mkF m 127 #[.val (.int p1), .val (.int p2), .val (.ref b3), .val (.ref w_PROCESSING), .val (.ref w_PROCESSING), .val (.int (0 : Int32))] [(.int (1 : Int32))]))
      refine Go.st (fun _ kk => XS.goto X106.here hx rfl (pc0 := 127) (pc' := 131) rfl (hb hby at_127) (by decide) (by decide) kk) ?_
      show Go p e below _ (T106.setTop (mkF m 131 #[.val (.int p1), .val (.int p2), .val (.ref b3), .val (.ref w_PROCESSING), .val (.ref w_PROCESSING), .val (.int (0 : Int32))] [(.int (1 : Int32))]))
      exact Go.ret (Q := Q0 n0) X106 (v := some (.int (1 : Int32))) (fun h => by rw [Bd.returns] at h; cases h) Bd.notSynchronized (fun fs hr => retN X106 hx (t := .boolean) Bd.returns (by simp) (hb hby at_131) hr) eq106 ⟨rfl, N106⟩ (by decide) (by decide)
    · skip
      rw [hk87]
      show Go p e below _ (T28.setTop (mkF m 51 #[.val (.int p1), .val (.int p2), .val (.ref b3), .val (.ref w_PROCESSING), .unset, .unset] [(.int (2 : Int32)), (.ref b3)]))
      obtain ⟨clq107, Arq107, caq107, saq107, naq107, haq107, gaq107⟩ := id V28
      have inq107 : ¬ ((2 : Int32) < 0 ∨ clq107.slots.size ≤ ((2 : Int32)).toNatClampNeg) := inb_of saq107 ⟨by decide, by decide⟩
      have atq107 : clq107.slots[((2 : Int32)).toNatClampNeg]? = some (.ref w_SUCCEEDED) := haq107.at inq107 rfl
      refine Go.st (fun _ kk => X28.aaload hx (j := (2 : Int32)) (v := (.ref w_SUCCEEDED)) (by rw [e28]; exact Arq107.1) (State.isArrayOf_alike hZ.alike Arq107.2.1) rfl Arq107.2.2 inq107 atq107 (g := (mkF m 51 #[.val (.int p1), .val (.int p2), .val (.ref b3), .val (.ref w_PROCESSING), .unset, .unset] [(.int (2 : Int32)), (.ref b3)])) rfl rfl (hb hby at_51) _ kk) ?_
      show Go p e below _ (T28.setTop (mkF m 52 #[.val (.int p1), .val (.int p2), .val (.ref b3), .val (.ref w_PROCESSING), .unset, .unset] [(.ref w_SUCCEEDED)]))
      refine Go.st (fun _ kk => XS.astore X28.here hx rfl (hb hby at_52) rfl rfl (l' := #[.val (.int p1), .val (.int p2), .val (.ref b3), .val (.ref w_PROCESSING), .val (.ref w_SUCCEEDED), .unset]) rfl kk) ?_
      show Go p e below _ (T28.setTop (mkF m 54 #[.val (.int p1), .val (.int p2), .val (.ref b3), .val (.ref w_PROCESSING), .val (.ref w_SUCCEEDED), .unset] []))
      refine Go.st (fun _ kk => XS.aloadN X28.here hx rfl (hb hby at_54) rfl rfl  kk) ?_
      show Go p e below _ (T28.setTop (mkF m 55 #[.val (.int p1), .val (.int p2), .val (.ref b3), .val (.ref w_PROCESSING), .val (.ref w_SUCCEEDED), .unset] [(.ref w_PROCESSING)]))
      have f_108 := (Sta.wr W28 (Sta.wr W23 (Sta.wr W18 f_14)))
      obtain ⟨T109, X109, e109, st109⟩ := getS2 X28 hx hZ hown (host := "") (Or.inl (hw _ (List.mem_of_getElem? (i := 8) rfl))) Via.refl e28 f_108 (g := (mkF m 55 #[.val (.int p1), .val (.int p2), .val (.ref b3), .val (.ref w_PROCESSING), .val (.ref w_SUCCEEDED), .unset] [(.ref w_PROCESSING)])) rfl (hb hby at_55)
      refine Go.st st109 ?_
      show Go p e below _ (T109.setTop (mkF m 58 #[.val (.int p1), .val (.int p2), .val (.ref b3), .val (.ref w_PROCESSING), .val (.ref w_SUCCEEDED), .unset] [(.ref w_SUCCEEDED), (.ref w_PROCESSING)]))
      refine Go.st (fun _ kk => Jvm.RoadKit.acmp (g := (mkF m 58 #[.val (.int p1), .val (.int p2), .val (.ref b3), .val (.ref w_PROCESSING), .val (.ref w_SUCCEEDED), .unset] [(.ref w_SUCCEEDED), (.ref w_PROCESSING)])) X109 hx rfl rfl rfl (pc0 := 58) (pc' := 79) (same := false) rfl (hb hby at_58) rfl (decide_eq_false fun q => (Fld.ne F_ordinal_w_PROCESSING F_ordinal_w_SUCCEEDED (by decide)) (Value.ref.inj q)) (by decide) (by decide) kk) ?_
      show Go p e below _ (T109.setTop (mkF m 79 #[.val (.int p1), .val (.int p2), .val (.ref b3), .val (.ref w_PROCESSING), .val (.ref w_SUCCEEDED), .unset] []))
      refine Go.st (fun _ kk => XS.aloadN X109.here hx rfl (hb hby at_79) rfl rfl  kk) ?_
      show Go p e below _ (T109.setTop (mkF m 80 #[.val (.int p1), .val (.int p2), .val (.ref b3), .val (.ref w_PROCESSING), .val (.ref w_SUCCEEDED), .unset] [(.ref w_PROCESSING)]))
      have f_110 := (Sta.wr W28 f_24)
      obtain ⟨T111, X111, e111, st111⟩ := getS2 X109 hx hZ hown (host := "") (Or.inl (hw _ (List.mem_of_getElem? (i := 12) rfl))) Via.refl e109 f_110 (g := (mkF m 80 #[.val (.int p1), .val (.int p2), .val (.ref b3), .val (.ref w_PROCESSING), .val (.ref w_SUCCEEDED), .unset] [(.ref w_PROCESSING)])) rfl (hb hby at_80)
      refine Go.st st111 ?_
      show Go p e below _ (T111.setTop (mkF m 83 #[.val (.int p1), .val (.int p2), .val (.ref b3), .val (.ref w_PROCESSING), .val (.ref w_SUCCEEDED), .unset] [(.ref w_CANCELED), (.ref w_PROCESSING)]))
      refine Go.st (fun _ kk => Jvm.RoadKit.acmp (g := (mkF m 83 #[.val (.int p1), .val (.int p2), .val (.ref b3), .val (.ref w_PROCESSING), .val (.ref w_SUCCEEDED), .unset] [(.ref w_CANCELED), (.ref w_PROCESSING)])) X111 hx rfl rfl rfl (pc0 := 83) (pc' := 112) (same := false) rfl (hb hby at_83) rfl (decide_eq_false fun q => (Fld.ne F_ordinal_w_PROCESSING F_ordinal_w_CANCELED (by decide)) (Value.ref.inj q)) (by decide) (by decide) kk) ?_
      show Go p e below _ (T111.setTop (mkF m 112 #[.val (.int p1), .val (.int p2), .val (.ref b3), .val (.ref w_PROCESSING), .val (.ref w_SUCCEEDED), .unset] []))
      refine Go.st (fun _ kk => XS.iconst X111.here hx rfl (hb hby at_112) kk) ?_
      show Go p e below _ (T111.setTop (mkF m 113 #[.val (.int p1), .val (.int p2), .val (.ref b3), .val (.ref w_PROCESSING), .val (.ref w_SUCCEEDED), .unset] [(.int (0 : Int32))]))
      refine Go.st (fun _ kk => XS.istore X111.here hx rfl (hb hby at_113) rfl (l' := #[.val (.int p1), .val (.int p2), .val (.ref b3), .val (.ref w_PROCESSING), .val (.ref w_SUCCEEDED), .val (.int (0 : Int32))]) rfl kk) ?_
      show Go p e below _ (T111.setTop (mkF m 115 #[.val (.int p1), .val (.int p2), .val (.ref b3), .val (.ref w_PROCESSING), .val (.ref w_SUCCEEDED), .val (.int (0 : Int32))] []))
      refine Go.st (fun _ kk => XS.aloadN X111.here hx rfl (hb hby at_115) rfl rfl  kk) ?_
      show Go p e below _ (T111.setTop (mkF m 116 #[.val (.int p1), .val (.int p2), .val (.ref b3), .val (.ref w_PROCESSING), .val (.ref w_SUCCEEDED), .val (.int (0 : Int32))] [(.ref w_PROCESSING)]))
      refine Go.st (fun _ kk => XS.aload X111.here hx rfl (hb hby at_116) rfl rfl  kk) ?_
      show Go p e below _ (T111.setTop (mkF m 118 #[.val (.int p1), .val (.int p2), .val (.ref b3), .val (.ref w_PROCESSING), .val (.ref w_SUCCEEDED), .val (.int (0 : Int32))] [(.ref w_SUCCEEDED), (.ref w_PROCESSING)]))
      have f_112 := (Exa.wr W28 (Exa.wr W23 (Exa.wr W18 (Exa.wr W13 f_12))))
      have f_113 := (F_rank_w_PROCESSING.keep K28 nin0)
      have f_114 := (F_rank_w_SUCCEEDED.keep K28 nin0)
      obtain ⟨cq115, kq115, q115a, q115b, q115c⟩ := isOf hZ e111 f_112
      obtain ⟨_, _, ⟨T115, L115, k115, n115⟩, -, X115, ⟨Lc115, hQ115, l115, y115, z115⟩, st115⟩ := X111.virtualBack hx (y := (⟨"com/example/charge_ledger/chargeledger/model/PaymentStatus", "outranks", "(Lcom/example/charge_ledger/chargeledger/model/PaymentStatus;)Z"⟩ : MethodName)) (z := (⟨"com/example/charge_ledger/chargeledger/model/PaymentStatus", "outranks", "(Lcom/example/charge_ledger/chargeledger/model/PaymentStatus;)Z"⟩ : MethodName)) hown (mvT hZ (hw _ (List.mem_of_getElem? (i := 15) rfl))) (mvT hZ (hw _ (List.mem_of_getElem? (i := 16) rfl))) (notFace_of_selects (args := #[]) (mvT hZ (hw _ (List.mem_of_getElem? (i := 18) rfl)))) (mvT hZ (hw _ (List.mem_of_getElem? (i := 18) rfl))) (mvT hZ (hw _ (List.mem_of_getElem? (i := 17) rfl))) (by decide) (backOf (W := 0) (rm1_f l Z a0 hw [] w_PROCESSING w_SUCCEEDED (0 : Int32) (2 : Int32) h28 n0 (Nat.le_trans Z0 K28.1) f_113 f_114 (by decide : ¬ ((2 : Int32) < (0 : Int32)))) hZ (hw _ (List.mem_of_getElem? (i := 19) rfl)) (hw _ (List.mem_of_getElem? (i := 3) rfl)) (by decide) (by decide)) q115a q115c (g := (mkF m 118 #[.val (.int p1), .val (.int p2), .val (.ref b3), .val (.ref w_PROCESSING), .val (.ref w_SUCCEEDED), .val (.int (0 : Int32))] [(.ref w_SUCCEEDED), (.ref w_PROCESSING)])) rfl (by rw [hml]; rfl) (Steps.refl _) (argsL := [(.ref w_SUCCEEDED)]) (rest := []) (lenOf pd_0 rfl) rfl (by show 2 * 0 + _ ≤ _; exact Nat.le_of_eq rfl) (hb hby at_118) (fun _ _ => ⟨rfl, e111, (by decide : 1 + 0 ≤ _), (by decide : 5 + 0 ≤ _)⟩)
      dsimp only [Pt.U, Pt.locs, Pt.cells, Pt.slots] at X115 l115 y115 z115 st115 hQ115
      subst l115 y115 z115
      obtain ⟨rfl, N115q, eq115⟩ := hQ115
      have N115 := Fr.app N28 N115q
      refine Go.tr st115 ?_
      show Go p e below _ (T115.setTop (mkF m 121 #[.val (.int p1), .val (.int p2), .val (.ref b3), .val (.ref w_PROCESSING), .val (.ref w_SUCCEEDED), .val (.int (0 : Int32))] [(.int (0 : Int32))]))
      refine Go.st (fun _ kk => XS.iload X115.here hx rfl (hb hby at_121) rfl  kk) ?_
      show Go p e below _ (T115.setTop (mkF m 123 #[.val (.int p1), .val (.int p2), .val (.ref b3), .val (.ref w_PROCESSING), .val (.ref w_SUCCEEDED), .val (.int (0 : Int32))] [(.int (0 : Int32)), (.int (0 : Int32))]))
      refine Go.st (fun _ kk => XS.icmpNo X115.here hx rfl (hb hby at_123) rfl (teq (by decide : ((0 : Int32) = (0 : Int32)))).2 kk) ?_
      show Go p e below _ (T115.setTop (mkF m 126 #[.val (.int p1), .val (.int p2), .val (.ref b3), .val (.ref w_PROCESSING), .val (.ref w_SUCCEEDED), .val (.int (0 : Int32))] []))
      refine Go.st (fun _ kk => XS.iconst X115.here hx rfl (hb hby at_126) kk) ?_
      show Go p e below _ (T115.setTop (mkF m 127 #[.val (.int p1), .val (.int p2), .val (.ref b3), .val (.ref w_PROCESSING), .val (.ref w_SUCCEEDED), .val (.int (0 : Int32))] [(.int (1 : Int32))]))
      refine Go.st (fun _ kk => XS.goto X115.here hx rfl (pc0 := 127) (pc' := 131) rfl (hb hby at_127) (by decide) (by decide) kk) ?_
      show Go p e below _ (T115.setTop (mkF m 131 #[.val (.int p1), .val (.int p2), .val (.ref b3), .val (.ref w_PROCESSING), .val (.ref w_SUCCEEDED), .val (.int (0 : Int32))] [(.int (1 : Int32))]))
      exact Go.ret (Q := Q0 n0) X115 (v := some (.int (1 : Int32))) (fun h => by rw [Bd.returns] at h; cases h) Bd.notSynchronized (fun fs hr => retN X115 hx (t := .boolean) Bd.returns (by simp) (hb hby at_131) hr) eq115 ⟨rfl, N115⟩ (by decide) (by decide)
    · skip
      rw [hk88]
      show Go p e below _ (T28.setTop (mkF m 51 #[.val (.int p1), .val (.int p2), .val (.ref b3), .val (.ref w_PROCESSING), .unset, .unset] [(.int (3 : Int32)), (.ref b3)]))
      obtain ⟨clq116, Arq116, caq116, saq116, naq116, haq116, gaq116⟩ := id V28
      have inq116 : ¬ ((3 : Int32) < 0 ∨ clq116.slots.size ≤ ((3 : Int32)).toNatClampNeg) := inb_of saq116 ⟨by decide, by decide⟩
      have atq116 : clq116.slots[((3 : Int32)).toNatClampNeg]? = some (.ref w_FAILED) := haq116.at inq116 rfl
      refine Go.st (fun _ kk => X28.aaload hx (j := (3 : Int32)) (v := (.ref w_FAILED)) (by rw [e28]; exact Arq116.1) (State.isArrayOf_alike hZ.alike Arq116.2.1) rfl Arq116.2.2 inq116 atq116 (g := (mkF m 51 #[.val (.int p1), .val (.int p2), .val (.ref b3), .val (.ref w_PROCESSING), .unset, .unset] [(.int (3 : Int32)), (.ref b3)])) rfl rfl (hb hby at_51) _ kk) ?_
      show Go p e below _ (T28.setTop (mkF m 52 #[.val (.int p1), .val (.int p2), .val (.ref b3), .val (.ref w_PROCESSING), .unset, .unset] [(.ref w_FAILED)]))
      refine Go.st (fun _ kk => XS.astore X28.here hx rfl (hb hby at_52) rfl rfl (l' := #[.val (.int p1), .val (.int p2), .val (.ref b3), .val (.ref w_PROCESSING), .val (.ref w_FAILED), .unset]) rfl kk) ?_
      show Go p e below _ (T28.setTop (mkF m 54 #[.val (.int p1), .val (.int p2), .val (.ref b3), .val (.ref w_PROCESSING), .val (.ref w_FAILED), .unset] []))
      refine Go.st (fun _ kk => XS.aloadN X28.here hx rfl (hb hby at_54) rfl rfl  kk) ?_
      show Go p e below _ (T28.setTop (mkF m 55 #[.val (.int p1), .val (.int p2), .val (.ref b3), .val (.ref w_PROCESSING), .val (.ref w_FAILED), .unset] [(.ref w_PROCESSING)]))
      have f_117 := (Sta.wr W28 (Sta.wr W23 (Sta.wr W18 f_14)))
      obtain ⟨T118, X118, e118, st118⟩ := getS2 X28 hx hZ hown (host := "") (Or.inl (hw _ (List.mem_of_getElem? (i := 8) rfl))) Via.refl e28 f_117 (g := (mkF m 55 #[.val (.int p1), .val (.int p2), .val (.ref b3), .val (.ref w_PROCESSING), .val (.ref w_FAILED), .unset] [(.ref w_PROCESSING)])) rfl (hb hby at_55)
      refine Go.st st118 ?_
      show Go p e below _ (T118.setTop (mkF m 58 #[.val (.int p1), .val (.int p2), .val (.ref b3), .val (.ref w_PROCESSING), .val (.ref w_FAILED), .unset] [(.ref w_SUCCEEDED), (.ref w_PROCESSING)]))
      refine Go.st (fun _ kk => Jvm.RoadKit.acmp (g := (mkF m 58 #[.val (.int p1), .val (.int p2), .val (.ref b3), .val (.ref w_PROCESSING), .val (.ref w_FAILED), .unset] [(.ref w_SUCCEEDED), (.ref w_PROCESSING)])) X118 hx rfl rfl rfl (pc0 := 58) (pc' := 79) (same := false) rfl (hb hby at_58) rfl (decide_eq_false fun q => (Fld.ne F_ordinal_w_PROCESSING F_ordinal_w_SUCCEEDED (by decide)) (Value.ref.inj q)) (by decide) (by decide) kk) ?_
      show Go p e below _ (T118.setTop (mkF m 79 #[.val (.int p1), .val (.int p2), .val (.ref b3), .val (.ref w_PROCESSING), .val (.ref w_FAILED), .unset] []))
      refine Go.st (fun _ kk => XS.aloadN X118.here hx rfl (hb hby at_79) rfl rfl  kk) ?_
      show Go p e below _ (T118.setTop (mkF m 80 #[.val (.int p1), .val (.int p2), .val (.ref b3), .val (.ref w_PROCESSING), .val (.ref w_FAILED), .unset] [(.ref w_PROCESSING)]))
      have f_119 := (Sta.wr W28 f_24)
      obtain ⟨T120, X120, e120, st120⟩ := getS2 X118 hx hZ hown (host := "") (Or.inl (hw _ (List.mem_of_getElem? (i := 12) rfl))) Via.refl e118 f_119 (g := (mkF m 80 #[.val (.int p1), .val (.int p2), .val (.ref b3), .val (.ref w_PROCESSING), .val (.ref w_FAILED), .unset] [(.ref w_PROCESSING)])) rfl (hb hby at_80)
      refine Go.st st120 ?_
      show Go p e below _ (T120.setTop (mkF m 83 #[.val (.int p1), .val (.int p2), .val (.ref b3), .val (.ref w_PROCESSING), .val (.ref w_FAILED), .unset] [(.ref w_CANCELED), (.ref w_PROCESSING)]))
      refine Go.st (fun _ kk => Jvm.RoadKit.acmp (g := (mkF m 83 #[.val (.int p1), .val (.int p2), .val (.ref b3), .val (.ref w_PROCESSING), .val (.ref w_FAILED), .unset] [(.ref w_CANCELED), (.ref w_PROCESSING)])) X120 hx rfl rfl rfl (pc0 := 83) (pc' := 112) (same := false) rfl (hb hby at_83) rfl (decide_eq_false fun q => (Fld.ne F_ordinal_w_PROCESSING F_ordinal_w_CANCELED (by decide)) (Value.ref.inj q)) (by decide) (by decide) kk) ?_
      show Go p e below _ (T120.setTop (mkF m 112 #[.val (.int p1), .val (.int p2), .val (.ref b3), .val (.ref w_PROCESSING), .val (.ref w_FAILED), .unset] []))
      refine Go.st (fun _ kk => XS.iconst X120.here hx rfl (hb hby at_112) kk) ?_
      show Go p e below _ (T120.setTop (mkF m 113 #[.val (.int p1), .val (.int p2), .val (.ref b3), .val (.ref w_PROCESSING), .val (.ref w_FAILED), .unset] [(.int (0 : Int32))]))
      refine Go.st (fun _ kk => XS.istore X120.here hx rfl (hb hby at_113) rfl (l' := #[.val (.int p1), .val (.int p2), .val (.ref b3), .val (.ref w_PROCESSING), .val (.ref w_FAILED), .val (.int (0 : Int32))]) rfl kk) ?_
      show Go p e below _ (T120.setTop (mkF m 115 #[.val (.int p1), .val (.int p2), .val (.ref b3), .val (.ref w_PROCESSING), .val (.ref w_FAILED), .val (.int (0 : Int32))] []))
      refine Go.st (fun _ kk => XS.aloadN X120.here hx rfl (hb hby at_115) rfl rfl  kk) ?_
      show Go p e below _ (T120.setTop (mkF m 116 #[.val (.int p1), .val (.int p2), .val (.ref b3), .val (.ref w_PROCESSING), .val (.ref w_FAILED), .val (.int (0 : Int32))] [(.ref w_PROCESSING)]))
      refine Go.st (fun _ kk => XS.aload X120.here hx rfl (hb hby at_116) rfl rfl  kk) ?_
      show Go p e below _ (T120.setTop (mkF m 118 #[.val (.int p1), .val (.int p2), .val (.ref b3), .val (.ref w_PROCESSING), .val (.ref w_FAILED), .val (.int (0 : Int32))] [(.ref w_FAILED), (.ref w_PROCESSING)]))
      have f_121 := (Exa.wr W28 (Exa.wr W23 (Exa.wr W18 (Exa.wr W13 f_12))))
      have f_122 := (F_rank_w_PROCESSING.keep K28 nin0)
      have f_123 := (F_rank_w_FAILED.keep K28 nin0)
      obtain ⟨cq124, kq124, q124a, q124b, q124c⟩ := isOf hZ e120 f_121
      obtain ⟨_, _, ⟨T124, L124, k124, n124⟩, -, X124, ⟨Lc124, hQ124, l124, y124, z124⟩, st124⟩ := X120.virtualBack hx (y := (⟨"com/example/charge_ledger/chargeledger/model/PaymentStatus", "outranks", "(Lcom/example/charge_ledger/chargeledger/model/PaymentStatus;)Z"⟩ : MethodName)) (z := (⟨"com/example/charge_ledger/chargeledger/model/PaymentStatus", "outranks", "(Lcom/example/charge_ledger/chargeledger/model/PaymentStatus;)Z"⟩ : MethodName)) hown (mvT hZ (hw _ (List.mem_of_getElem? (i := 15) rfl))) (mvT hZ (hw _ (List.mem_of_getElem? (i := 16) rfl))) (notFace_of_selects (args := #[]) (mvT hZ (hw _ (List.mem_of_getElem? (i := 18) rfl)))) (mvT hZ (hw _ (List.mem_of_getElem? (i := 18) rfl))) (mvT hZ (hw _ (List.mem_of_getElem? (i := 17) rfl))) (by decide) (backOf (W := 0) (rm1_f l Z a0 hw [] w_PROCESSING w_FAILED (0 : Int32) (0 : Int32) h28 n0 (Nat.le_trans Z0 K28.1) f_122 f_123 (by decide : ¬ ((0 : Int32) < (0 : Int32)))) hZ (hw _ (List.mem_of_getElem? (i := 19) rfl)) (hw _ (List.mem_of_getElem? (i := 3) rfl)) (by decide) (by decide)) q124a q124c (g := (mkF m 118 #[.val (.int p1), .val (.int p2), .val (.ref b3), .val (.ref w_PROCESSING), .val (.ref w_FAILED), .val (.int (0 : Int32))] [(.ref w_FAILED), (.ref w_PROCESSING)])) rfl (by rw [hml]; rfl) (Steps.refl _) (argsL := [(.ref w_FAILED)]) (rest := []) (lenOf pd_0 rfl) rfl (by show 2 * 0 + _ ≤ _; exact Nat.le_of_eq rfl) (hb hby at_118) (fun _ _ => ⟨rfl, e120, (by decide : 1 + 0 ≤ _), (by decide : 5 + 0 ≤ _)⟩)
      dsimp only [Pt.U, Pt.locs, Pt.cells, Pt.slots] at X124 l124 y124 z124 st124 hQ124
      subst l124 y124 z124
      obtain ⟨rfl, N124q, eq124⟩ := hQ124
      have N124 := Fr.app N28 N124q
      refine Go.tr st124 ?_
      show Go p e below _ (T124.setTop (mkF m 121 #[.val (.int p1), .val (.int p2), .val (.ref b3), .val (.ref w_PROCESSING), .val (.ref w_FAILED), .val (.int (0 : Int32))] [(.int (0 : Int32))]))
      refine Go.st (fun _ kk => XS.iload X124.here hx rfl (hb hby at_121) rfl  kk) ?_
      show Go p e below _ (T124.setTop (mkF m 123 #[.val (.int p1), .val (.int p2), .val (.ref b3), .val (.ref w_PROCESSING), .val (.ref w_FAILED), .val (.int (0 : Int32))] [(.int (0 : Int32)), (.int (0 : Int32))]))
      refine Go.st (fun _ kk => XS.icmpNo X124.here hx rfl (hb hby at_123) rfl (teq (by decide : ((0 : Int32) = (0 : Int32)))).2 kk) ?_
      show Go p e below _ (T124.setTop (mkF m 126 #[.val (.int p1), .val (.int p2), .val (.ref b3), .val (.ref w_PROCESSING), .val (.ref w_FAILED), .val (.int (0 : Int32))] []))
      refine Go.st (fun _ kk => XS.iconst X124.here hx rfl (hb hby at_126) kk) ?_
      show Go p e below _ (T124.setTop (mkF m 127 #[.val (.int p1), .val (.int p2), .val (.ref b3), .val (.ref w_PROCESSING), .val (.ref w_FAILED), .val (.int (0 : Int32))] [(.int (1 : Int32))]))
      refine Go.st (fun _ kk => XS.goto X124.here hx rfl (pc0 := 127) (pc' := 131) rfl (hb hby at_127) (by decide) (by decide) kk) ?_
      show Go p e below _ (T124.setTop (mkF m 131 #[.val (.int p1), .val (.int p2), .val (.ref b3), .val (.ref w_PROCESSING), .val (.ref w_FAILED), .val (.int (0 : Int32))] [(.int (1 : Int32))]))
      exact Go.ret (Q := Q0 n0) X124 (v := some (.int (1 : Int32))) (fun h => by rw [Bd.returns] at h; cases h) Bd.notSynchronized (fun fs hr => retN X124 hx (t := .boolean) Bd.returns (by simp) (hb hby at_131) hr) eq124 ⟨rfl, N124⟩ (by decide) (by decide)
    · skip
      rw [hk89]
      show Go p e below _ (T28.setTop (mkF m 51 #[.val (.int p1), .val (.int p2), .val (.ref b3), .val (.ref w_PROCESSING), .unset, .unset] [(.int (4 : Int32)), (.ref b3)]))
      obtain ⟨clq125, Arq125, caq125, saq125, naq125, haq125, gaq125⟩ := id V28
      have inq125 : ¬ ((4 : Int32) < 0 ∨ clq125.slots.size ≤ ((4 : Int32)).toNatClampNeg) := inb_of saq125 ⟨by decide, by decide⟩
      have atq125 : clq125.slots[((4 : Int32)).toNatClampNeg]? = some (.ref w_CANCELED) := haq125.at inq125 rfl
      refine Go.st (fun _ kk => X28.aaload hx (j := (4 : Int32)) (v := (.ref w_CANCELED)) (by rw [e28]; exact Arq125.1) (State.isArrayOf_alike hZ.alike Arq125.2.1) rfl Arq125.2.2 inq125 atq125 (g := (mkF m 51 #[.val (.int p1), .val (.int p2), .val (.ref b3), .val (.ref w_PROCESSING), .unset, .unset] [(.int (4 : Int32)), (.ref b3)])) rfl rfl (hb hby at_51) _ kk) ?_
      show Go p e below _ (T28.setTop (mkF m 52 #[.val (.int p1), .val (.int p2), .val (.ref b3), .val (.ref w_PROCESSING), .unset, .unset] [(.ref w_CANCELED)]))
      refine Go.st (fun _ kk => XS.astore X28.here hx rfl (hb hby at_52) rfl rfl (l' := #[.val (.int p1), .val (.int p2), .val (.ref b3), .val (.ref w_PROCESSING), .val (.ref w_CANCELED), .unset]) rfl kk) ?_
      show Go p e below _ (T28.setTop (mkF m 54 #[.val (.int p1), .val (.int p2), .val (.ref b3), .val (.ref w_PROCESSING), .val (.ref w_CANCELED), .unset] []))
      refine Go.st (fun _ kk => XS.aloadN X28.here hx rfl (hb hby at_54) rfl rfl  kk) ?_
      show Go p e below _ (T28.setTop (mkF m 55 #[.val (.int p1), .val (.int p2), .val (.ref b3), .val (.ref w_PROCESSING), .val (.ref w_CANCELED), .unset] [(.ref w_PROCESSING)]))
      have f_126 := (Sta.wr W28 (Sta.wr W23 (Sta.wr W18 f_14)))
      obtain ⟨T127, X127, e127, st127⟩ := getS2 X28 hx hZ hown (host := "") (Or.inl (hw _ (List.mem_of_getElem? (i := 8) rfl))) Via.refl e28 f_126 (g := (mkF m 55 #[.val (.int p1), .val (.int p2), .val (.ref b3), .val (.ref w_PROCESSING), .val (.ref w_CANCELED), .unset] [(.ref w_PROCESSING)])) rfl (hb hby at_55)
      refine Go.st st127 ?_
      show Go p e below _ (T127.setTop (mkF m 58 #[.val (.int p1), .val (.int p2), .val (.ref b3), .val (.ref w_PROCESSING), .val (.ref w_CANCELED), .unset] [(.ref w_SUCCEEDED), (.ref w_PROCESSING)]))
      refine Go.st (fun _ kk => Jvm.RoadKit.acmp (g := (mkF m 58 #[.val (.int p1), .val (.int p2), .val (.ref b3), .val (.ref w_PROCESSING), .val (.ref w_CANCELED), .unset] [(.ref w_SUCCEEDED), (.ref w_PROCESSING)])) X127 hx rfl rfl rfl (pc0 := 58) (pc' := 79) (same := false) rfl (hb hby at_58) rfl (decide_eq_false fun q => (Fld.ne F_ordinal_w_PROCESSING F_ordinal_w_SUCCEEDED (by decide)) (Value.ref.inj q)) (by decide) (by decide) kk) ?_
      show Go p e below _ (T127.setTop (mkF m 79 #[.val (.int p1), .val (.int p2), .val (.ref b3), .val (.ref w_PROCESSING), .val (.ref w_CANCELED), .unset] []))
      refine Go.st (fun _ kk => XS.aloadN X127.here hx rfl (hb hby at_79) rfl rfl  kk) ?_
      show Go p e below _ (T127.setTop (mkF m 80 #[.val (.int p1), .val (.int p2), .val (.ref b3), .val (.ref w_PROCESSING), .val (.ref w_CANCELED), .unset] [(.ref w_PROCESSING)]))
      have f_128 := (Sta.wr W28 f_24)
      obtain ⟨T129, X129, e129, st129⟩ := getS2 X127 hx hZ hown (host := "") (Or.inl (hw _ (List.mem_of_getElem? (i := 12) rfl))) Via.refl e127 f_128 (g := (mkF m 80 #[.val (.int p1), .val (.int p2), .val (.ref b3), .val (.ref w_PROCESSING), .val (.ref w_CANCELED), .unset] [(.ref w_PROCESSING)])) rfl (hb hby at_80)
      refine Go.st st129 ?_
      show Go p e below _ (T129.setTop (mkF m 83 #[.val (.int p1), .val (.int p2), .val (.ref b3), .val (.ref w_PROCESSING), .val (.ref w_CANCELED), .unset] [(.ref w_CANCELED), (.ref w_PROCESSING)]))
      refine Go.st (fun _ kk => Jvm.RoadKit.acmp (g := (mkF m 83 #[.val (.int p1), .val (.int p2), .val (.ref b3), .val (.ref w_PROCESSING), .val (.ref w_CANCELED), .unset] [(.ref w_CANCELED), (.ref w_PROCESSING)])) X129 hx rfl rfl rfl (pc0 := 83) (pc' := 112) (same := false) rfl (hb hby at_83) rfl (decide_eq_false fun q => (Fld.ne F_ordinal_w_PROCESSING F_ordinal_w_CANCELED (by decide)) (Value.ref.inj q)) (by decide) (by decide) kk) ?_
      show Go p e below _ (T129.setTop (mkF m 112 #[.val (.int p1), .val (.int p2), .val (.ref b3), .val (.ref w_PROCESSING), .val (.ref w_CANCELED), .unset] []))
      refine Go.st (fun _ kk => XS.iconst X129.here hx rfl (hb hby at_112) kk) ?_
      show Go p e below _ (T129.setTop (mkF m 113 #[.val (.int p1), .val (.int p2), .val (.ref b3), .val (.ref w_PROCESSING), .val (.ref w_CANCELED), .unset] [(.int (0 : Int32))]))
      refine Go.st (fun _ kk => XS.istore X129.here hx rfl (hb hby at_113) rfl (l' := #[.val (.int p1), .val (.int p2), .val (.ref b3), .val (.ref w_PROCESSING), .val (.ref w_CANCELED), .val (.int (0 : Int32))]) rfl kk) ?_
      show Go p e below _ (T129.setTop (mkF m 115 #[.val (.int p1), .val (.int p2), .val (.ref b3), .val (.ref w_PROCESSING), .val (.ref w_CANCELED), .val (.int (0 : Int32))] []))
      refine Go.st (fun _ kk => XS.aloadN X129.here hx rfl (hb hby at_115) rfl rfl  kk) ?_
      show Go p e below _ (T129.setTop (mkF m 116 #[.val (.int p1), .val (.int p2), .val (.ref b3), .val (.ref w_PROCESSING), .val (.ref w_CANCELED), .val (.int (0 : Int32))] [(.ref w_PROCESSING)]))
      refine Go.st (fun _ kk => XS.aload X129.here hx rfl (hb hby at_116) rfl rfl  kk) ?_
      show Go p e below _ (T129.setTop (mkF m 118 #[.val (.int p1), .val (.int p2), .val (.ref b3), .val (.ref w_PROCESSING), .val (.ref w_CANCELED), .val (.int (0 : Int32))] [(.ref w_CANCELED), (.ref w_PROCESSING)]))
      have f_130 := (Exa.wr W28 (Exa.wr W23 (Exa.wr W18 (Exa.wr W13 f_12))))
      have f_131 := (F_rank_w_PROCESSING.keep K28 nin0)
      have f_132 := (F_rank_w_CANCELED.keep K28 nin0)
      obtain ⟨cq133, kq133, q133a, q133b, q133c⟩ := isOf hZ e129 f_130
      obtain ⟨_, _, ⟨T133, L133, k133, n133⟩, -, X133, ⟨Lc133, hQ133, l133, y133, z133⟩, st133⟩ := X129.virtualBack hx (y := (⟨"com/example/charge_ledger/chargeledger/model/PaymentStatus", "outranks", "(Lcom/example/charge_ledger/chargeledger/model/PaymentStatus;)Z"⟩ : MethodName)) (z := (⟨"com/example/charge_ledger/chargeledger/model/PaymentStatus", "outranks", "(Lcom/example/charge_ledger/chargeledger/model/PaymentStatus;)Z"⟩ : MethodName)) hown (mvT hZ (hw _ (List.mem_of_getElem? (i := 15) rfl))) (mvT hZ (hw _ (List.mem_of_getElem? (i := 16) rfl))) (notFace_of_selects (args := #[]) (mvT hZ (hw _ (List.mem_of_getElem? (i := 18) rfl)))) (mvT hZ (hw _ (List.mem_of_getElem? (i := 18) rfl))) (mvT hZ (hw _ (List.mem_of_getElem? (i := 17) rfl))) (by decide) (backOf (W := 0) (rm1_f l Z a0 hw [] w_PROCESSING w_CANCELED (0 : Int32) (1 : Int32) h28 n0 (Nat.le_trans Z0 K28.1) f_131 f_132 (by decide : ¬ ((1 : Int32) < (0 : Int32)))) hZ (hw _ (List.mem_of_getElem? (i := 19) rfl)) (hw _ (List.mem_of_getElem? (i := 3) rfl)) (by decide) (by decide)) q133a q133c (g := (mkF m 118 #[.val (.int p1), .val (.int p2), .val (.ref b3), .val (.ref w_PROCESSING), .val (.ref w_CANCELED), .val (.int (0 : Int32))] [(.ref w_CANCELED), (.ref w_PROCESSING)])) rfl (by rw [hml]; rfl) (Steps.refl _) (argsL := [(.ref w_CANCELED)]) (rest := []) (lenOf pd_0 rfl) rfl (by show 2 * 0 + _ ≤ _; exact Nat.le_of_eq rfl) (hb hby at_118) (fun _ _ => ⟨rfl, e129, (by decide : 1 + 0 ≤ _), (by decide : 5 + 0 ≤ _)⟩)
      dsimp only [Pt.U, Pt.locs, Pt.cells, Pt.slots] at X133 l133 y133 z133 st133 hQ133
      subst l133 y133 z133
      obtain ⟨rfl, N133q, eq133⟩ := hQ133
      have N133 := Fr.app N28 N133q
      refine Go.tr st133 ?_
      show Go p e below _ (T133.setTop (mkF m 121 #[.val (.int p1), .val (.int p2), .val (.ref b3), .val (.ref w_PROCESSING), .val (.ref w_CANCELED), .val (.int (0 : Int32))] [(.int (0 : Int32))]))
      refine Go.st (fun _ kk => XS.iload X133.here hx rfl (hb hby at_121) rfl  kk) ?_
      show Go p e below _ (T133.setTop (mkF m 123 #[.val (.int p1), .val (.int p2), .val (.ref b3), .val (.ref w_PROCESSING), .val (.ref w_CANCELED), .val (.int (0 : Int32))] [(.int (0 : Int32)), (.int (0 : Int32))]))
      refine Go.st (fun _ kk => XS.icmpNo X133.here hx rfl (hb hby at_123) rfl (teq (by decide : ((0 : Int32) = (0 : Int32)))).2 kk) ?_
      show Go p e below _ (T133.setTop (mkF m 126 #[.val (.int p1), .val (.int p2), .val (.ref b3), .val (.ref w_PROCESSING), .val (.ref w_CANCELED), .val (.int (0 : Int32))] []))
      refine Go.st (fun _ kk => XS.iconst X133.here hx rfl (hb hby at_126) kk) ?_
      show Go p e below _ (T133.setTop (mkF m 127 #[.val (.int p1), .val (.int p2), .val (.ref b3), .val (.ref w_PROCESSING), .val (.ref w_CANCELED), .val (.int (0 : Int32))] [(.int (1 : Int32))]))
      refine Go.st (fun _ kk => XS.goto X133.here hx rfl (pc0 := 127) (pc' := 131) rfl (hb hby at_127) (by decide) (by decide) kk) ?_
      show Go p e below _ (T133.setTop (mkF m 131 #[.val (.int p1), .val (.int p2), .val (.ref b3), .val (.ref w_PROCESSING), .val (.ref w_CANCELED), .val (.int (0 : Int32))] [(.int (1 : Int32))]))
      exact Go.ret (Q := Q0 n0) X133 (v := some (.int (1 : Int32))) (fun h => by rw [Bd.returns] at h; cases h) Bd.notSynchronized (fun fs hr => retN X133 hx (t := .boolean) Bd.returns (by simp) (hb hby at_131) hr) eq133 ⟨rfl, N133⟩ (by decide) (by decide)
  · skip
    rw [hk31]
    show Go p e below _ (T28.setTop (mkF m 42 #[.val (.int p1), .val (.int p2), .val (.ref b3), .unset, .unset, .unset] [(.int (2 : Int32)), (.ref b3)]))
    obtain ⟨clq134, Arq134, caq134, saq134, naq134, haq134, gaq134⟩ := id V28
    have inq134 : ¬ ((2 : Int32) < 0 ∨ clq134.slots.size ≤ ((2 : Int32)).toNatClampNeg) := inb_of saq134 ⟨by decide, by decide⟩
    have atq134 : clq134.slots[((2 : Int32)).toNatClampNeg]? = some (.ref w_SUCCEEDED) := haq134.at inq134 rfl
    refine Go.st (fun _ kk => X28.aaload hx (j := (2 : Int32)) (v := (.ref w_SUCCEEDED)) (by rw [e28]; exact Arq134.1) (State.isArrayOf_alike hZ.alike Arq134.2.1) rfl Arq134.2.2 inq134 atq134 (g := (mkF m 42 #[.val (.int p1), .val (.int p2), .val (.ref b3), .unset, .unset, .unset] [(.int (2 : Int32)), (.ref b3)])) rfl rfl (hb hby at_42) _ kk) ?_
    show Go p e below _ (T28.setTop (mkF m 43 #[.val (.int p1), .val (.int p2), .val (.ref b3), .unset, .unset, .unset] [(.ref w_SUCCEEDED)]))
    refine Go.st (fun _ kk => XS.astoreN X28.here hx rfl (hb hby at_43) rfl rfl (l' := #[.val (.int p1), .val (.int p2), .val (.ref b3), .val (.ref w_SUCCEEDED), .unset, .unset]) rfl kk) ?_
    show Go p e below _ (T28.setTop (mkF m 44 #[.val (.int p1), .val (.int p2), .val (.ref b3), .val (.ref w_SUCCEEDED), .unset, .unset] []))
    refine Go.st (fun _ kk => XS.aloadN X28.here hx rfl (hb hby at_44) rfl rfl  kk) ?_
    show Go p e below _ (T28.setTop (mkF m 45 #[.val (.int p1), .val (.int p2), .val (.ref b3), .val (.ref w_SUCCEEDED), .unset, .unset] [(.ref b3)]))
    refine Go.st (fun _ kk => XS.iloadN X28.here hx rfl (hb hby at_45) rfl  kk) ?_
    show Go p e below _ (T28.setTop (mkF m 46 #[.val (.int p1), .val (.int p2), .val (.ref b3), .val (.ref w_SUCCEEDED), .unset, .unset] [(.int p2), (.ref b3)]))
    refine Go.st (fun _ kk => X28.ldcInt hx hown (mvT hZ (hw _ (List.mem_of_getElem? (i := 14) rfl))) (g := (mkF m 46 #[.val (.int p1), .val (.int p2), .val (.ref b3), .val (.ref w_SUCCEEDED), .unset, .unset] [(.int p2), (.ref b3)])) rfl (hb hby at_46) _ kk) ?_
    show Go p e below _ (T28.setTop (mkF m 48 #[.val (.int p1), .val (.int p2), .val (.ref b3), .val (.ref w_SUCCEEDED), .unset, .unset] [(.int (2147483647 : Int32)), (.int p2), (.ref b3)]))
    refine Go.st (fun _ kk => XS.iand X28.here hx rfl (hb hby at_48) rfl kk) ?_
    show Go p e below _ (T28.setTop (mkF m 49 #[.val (.int p1), .val (.int p2), .val (.ref b3), .val (.ref w_SUCCEEDED), .unset, .unset] [(.int (p2 &&& (2147483647 : Int32))), (.ref b3)]))
    refine Go.st (fun _ kk => XS.iconst X28.here hx rfl (hb hby at_49) kk) ?_
    show Go p e below _ (T28.setTop (mkF m 50 #[.val (.int p1), .val (.int p2), .val (.ref b3), .val (.ref w_SUCCEEDED), .unset, .unset] [(.int (5 : Int32)), (.int (p2 &&& (2147483647 : Int32))), (.ref b3)]))
    refine Go.st (fun _ kk => iremM (g := (mkF m 50 #[.val (.int p1), .val (.int p2), .val (.ref b3), .val (.ref w_SUCCEEDED), .unset, .unset] [(.int (5 : Int32)), (.int (p2 &&& (2147483647 : Int32))), (.ref b3)])) X28 hx rfl (hb hby at_50) rfl (by decide : ¬ ((5 : Int32) = (0 : Int32))) kk) ?_
    show Go p e below _ (T28.setTop (mkF m 51 #[.val (.int p1), .val (.int p2), .val (.ref b3), .val (.ref w_SUCCEEDED), .unset, .unset] [(.int ((p2 &&& (2147483647 : Int32)) % (5 : Int32))), (.ref b3)]))
    rcases (own_k p2 : ((p2 &&& (2147483647 : Int32)) % (5 : Int32)) = (0 : Int32) ∨ ((p2 &&& (2147483647 : Int32)) % (5 : Int32)) = (1 : Int32) ∨ ((p2 &&& (2147483647 : Int32)) % (5 : Int32)) = (2 : Int32) ∨ ((p2 &&& (2147483647 : Int32)) % (5 : Int32)) = (3 : Int32) ∨ ((p2 &&& (2147483647 : Int32)) % (5 : Int32)) = (4 : Int32)) with hk135 | hk136 | hk137 | hk138 | hk139
    · skip
      rw [hk135]
      show Go p e below _ (T28.setTop (mkF m 51 #[.val (.int p1), .val (.int p2), .val (.ref b3), .val (.ref w_SUCCEEDED), .unset, .unset] [(.int (0 : Int32)), (.ref b3)]))
      obtain ⟨clq140, Arq140, caq140, saq140, naq140, haq140, gaq140⟩ := id V28
      have inq140 : ¬ ((0 : Int32) < 0 ∨ clq140.slots.size ≤ ((0 : Int32)).toNatClampNeg) := inb_of saq140 ⟨by decide, by decide⟩
      have atq140 : clq140.slots[((0 : Int32)).toNatClampNeg]? = some (.ref w_REQUIRES_PAYMENT_METHOD) := haq140.at inq140 rfl
      refine Go.st (fun _ kk => X28.aaload hx (j := (0 : Int32)) (v := (.ref w_REQUIRES_PAYMENT_METHOD)) (by rw [e28]; exact Arq140.1) (State.isArrayOf_alike hZ.alike Arq140.2.1) rfl Arq140.2.2 inq140 atq140 (g := (mkF m 51 #[.val (.int p1), .val (.int p2), .val (.ref b3), .val (.ref w_SUCCEEDED), .unset, .unset] [(.int (0 : Int32)), (.ref b3)])) rfl rfl (hb hby at_51) _ kk) ?_
      show Go p e below _ (T28.setTop (mkF m 52 #[.val (.int p1), .val (.int p2), .val (.ref b3), .val (.ref w_SUCCEEDED), .unset, .unset] [(.ref w_REQUIRES_PAYMENT_METHOD)]))
      refine Go.st (fun _ kk => XS.astore X28.here hx rfl (hb hby at_52) rfl rfl (l' := #[.val (.int p1), .val (.int p2), .val (.ref b3), .val (.ref w_SUCCEEDED), .val (.ref w_REQUIRES_PAYMENT_METHOD), .unset]) rfl kk) ?_
      show Go p e below _ (T28.setTop (mkF m 54 #[.val (.int p1), .val (.int p2), .val (.ref b3), .val (.ref w_SUCCEEDED), .val (.ref w_REQUIRES_PAYMENT_METHOD), .unset] []))
      refine Go.st (fun _ kk => XS.aloadN X28.here hx rfl (hb hby at_54) rfl rfl  kk) ?_
      show Go p e below _ (T28.setTop (mkF m 55 #[.val (.int p1), .val (.int p2), .val (.ref b3), .val (.ref w_SUCCEEDED), .val (.ref w_REQUIRES_PAYMENT_METHOD), .unset] [(.ref w_SUCCEEDED)]))
      have f_141 := (Sta.wr W28 (Sta.wr W23 (Sta.wr W18 f_14)))
      obtain ⟨T142, X142, e142, st142⟩ := getS2 X28 hx hZ hown (host := "") (Or.inl (hw _ (List.mem_of_getElem? (i := 8) rfl))) Via.refl e28 f_141 (g := (mkF m 55 #[.val (.int p1), .val (.int p2), .val (.ref b3), .val (.ref w_SUCCEEDED), .val (.ref w_REQUIRES_PAYMENT_METHOD), .unset] [(.ref w_SUCCEEDED)])) rfl (hb hby at_55)
      refine Go.st st142 ?_
      show Go p e below _ (T142.setTop (mkF m 58 #[.val (.int p1), .val (.int p2), .val (.ref b3), .val (.ref w_SUCCEEDED), .val (.ref w_REQUIRES_PAYMENT_METHOD), .unset] [(.ref w_SUCCEEDED), (.ref w_SUCCEEDED)]))
      refine Go.st (fun _ kk => Jvm.RoadKit.acmp (g := (mkF m 58 #[.val (.int p1), .val (.int p2), .val (.ref b3), .val (.ref w_SUCCEEDED), .val (.ref w_REQUIRES_PAYMENT_METHOD), .unset] [(.ref w_SUCCEEDED), (.ref w_SUCCEEDED)])) X142 hx rfl rfl rfl (pc0 := 58) (pc' := 61) (same := true) rfl (hb hby at_58) rfl (decide_eq_true (congrArg Value.ref (rfl : w_SUCCEEDED = w_SUCCEEDED))) (by decide) (by decide) kk) ?_
      show Go p e below _ (T142.setTop (mkF m 61 #[.val (.int p1), .val (.int p2), .val (.ref b3), .val (.ref w_SUCCEEDED), .val (.ref w_REQUIRES_PAYMENT_METHOD), .unset] []))
      refine Go.st (fun _ kk => XS.aload X142.here hx rfl (hb hby at_61) rfl rfl  kk) ?_
      show Go p e below _ (T142.setTop (mkF m 63 #[.val (.int p1), .val (.int p2), .val (.ref b3), .val (.ref w_SUCCEEDED), .val (.ref w_REQUIRES_PAYMENT_METHOD), .unset] [(.ref w_REQUIRES_PAYMENT_METHOD)]))
      obtain ⟨T143, X143, e143, st143⟩ := getS2 X142 hx hZ hown (host := "") (Or.inl (hw _ (List.mem_of_getElem? (i := 8) rfl))) Via.refl e142 f_141 (g := (mkF m 63 #[.val (.int p1), .val (.int p2), .val (.ref b3), .val (.ref w_SUCCEEDED), .val (.ref w_REQUIRES_PAYMENT_METHOD), .unset] [(.ref w_REQUIRES_PAYMENT_METHOD)])) rfl (hb hby at_63)
      refine Go.st st143 ?_
      show Go p e below _ (T143.setTop (mkF m 66 #[.val (.int p1), .val (.int p2), .val (.ref b3), .val (.ref w_SUCCEEDED), .val (.ref w_REQUIRES_PAYMENT_METHOD), .unset] [(.ref w_SUCCEEDED), (.ref w_REQUIRES_PAYMENT_METHOD)]))
      refine Go.st (fun _ kk => Jvm.RoadKit.acmp (g := (mkF m 66 #[.val (.int p1), .val (.int p2), .val (.ref b3), .val (.ref w_SUCCEEDED), .val (.ref w_REQUIRES_PAYMENT_METHOD), .unset] [(.ref w_SUCCEEDED), (.ref w_REQUIRES_PAYMENT_METHOD)])) X143 hx rfl rfl rfl (pc0 := 66) (pc' := 69) (same := false) rfl (hb hby at_66) rfl (decide_eq_false fun q => (Fld.ne F_ordinal_w_REQUIRES_PAYMENT_METHOD F_ordinal_w_SUCCEEDED (by decide)) (Value.ref.inj q)) (by decide) (by decide) kk) ?_
      show Go p e below _ (T143.setTop (mkF m 69 #[.val (.int p1), .val (.int p2), .val (.ref b3), .val (.ref w_SUCCEEDED), .val (.ref w_REQUIRES_PAYMENT_METHOD), .unset] []))
      refine Go.st (fun _ kk => XS.iconst X143.here hx rfl (hb hby at_69) kk) ?_
      show Go p e below _ (T143.setTop (mkF m 70 #[.val (.int p1), .val (.int p2), .val (.ref b3), .val (.ref w_SUCCEEDED), .val (.ref w_REQUIRES_PAYMENT_METHOD), .unset] [(.int (1 : Int32))]))
      refine Go.st (fun _ kk => XS.goto X143.here hx rfl (pc0 := 70) (pc' := 74) rfl (hb hby at_70) (by decide) (by decide) kk) ?_
      show Go p e below _ (T143.setTop (mkF m 74 #[.val (.int p1), .val (.int p2), .val (.ref b3), .val (.ref w_SUCCEEDED), .val (.ref w_REQUIRES_PAYMENT_METHOD), .unset] [(.int (1 : Int32))]))
      refine Go.st (fun _ kk => XS.istore X143.here hx rfl (hb hby at_74) rfl (l' := #[.val (.int p1), .val (.int p2), .val (.ref b3), .val (.ref w_SUCCEEDED), .val (.ref w_REQUIRES_PAYMENT_METHOD), .val (.int (1 : Int32))]) rfl kk) ?_
      show Go p e below _ (T143.setTop (mkF m 76 #[.val (.int p1), .val (.int p2), .val (.ref b3), .val (.ref w_SUCCEEDED), .val (.ref w_REQUIRES_PAYMENT_METHOD), .val (.int (1 : Int32))] []))
      refine Go.st (fun _ kk => XS.goto X143.here hx rfl (pc0 := 76) (pc' := 115) rfl (hb hby at_76) (by decide) (by decide) kk) ?_
      show Go p e below _ (T143.setTop (mkF m 115 #[.val (.int p1), .val (.int p2), .val (.ref b3), .val (.ref w_SUCCEEDED), .val (.ref w_REQUIRES_PAYMENT_METHOD), .val (.int (1 : Int32))] []))
      refine Go.st (fun _ kk => XS.aloadN X143.here hx rfl (hb hby at_115) rfl rfl  kk) ?_
      show Go p e below _ (T143.setTop (mkF m 116 #[.val (.int p1), .val (.int p2), .val (.ref b3), .val (.ref w_SUCCEEDED), .val (.ref w_REQUIRES_PAYMENT_METHOD), .val (.int (1 : Int32))] [(.ref w_SUCCEEDED)]))
      refine Go.st (fun _ kk => XS.aload X143.here hx rfl (hb hby at_116) rfl rfl  kk) ?_
      show Go p e below _ (T143.setTop (mkF m 118 #[.val (.int p1), .val (.int p2), .val (.ref b3), .val (.ref w_SUCCEEDED), .val (.ref w_REQUIRES_PAYMENT_METHOD), .val (.int (1 : Int32))] [(.ref w_REQUIRES_PAYMENT_METHOD), (.ref w_SUCCEEDED)]))
      have f_144 := (Exa.wr W28 (Exa.wr W23 (Exa.wr W18 f_17)))
      have f_145 := (F_rank_w_SUCCEEDED.keep K28 nin0)
      have f_146 := (F_rank_w_REQUIRES_PAYMENT_METHOD.keep K28 nin0)
      obtain ⟨cq147, kq147, q147a, q147b, q147c⟩ := isOf hZ e143 f_144
      obtain ⟨_, _, ⟨T147, L147, k147, n147⟩, -, X147, ⟨Lc147, hQ147, l147, y147, z147⟩, st147⟩ := X143.virtualBack hx (y := (⟨"com/example/charge_ledger/chargeledger/model/PaymentStatus", "outranks", "(Lcom/example/charge_ledger/chargeledger/model/PaymentStatus;)Z"⟩ : MethodName)) (z := (⟨"com/example/charge_ledger/chargeledger/model/PaymentStatus", "outranks", "(Lcom/example/charge_ledger/chargeledger/model/PaymentStatus;)Z"⟩ : MethodName)) hown (mvT hZ (hw _ (List.mem_of_getElem? (i := 15) rfl))) (mvT hZ (hw _ (List.mem_of_getElem? (i := 16) rfl))) (notFace_of_selects (args := #[]) (mvT hZ (hw _ (List.mem_of_getElem? (i := 18) rfl)))) (mvT hZ (hw _ (List.mem_of_getElem? (i := 18) rfl))) (mvT hZ (hw _ (List.mem_of_getElem? (i := 17) rfl))) (by decide) (backOf (W := 0) (rm1_t l Z a0 hw [] w_SUCCEEDED w_REQUIRES_PAYMENT_METHOD (2 : Int32) (0 : Int32) h28 n0 (Nat.le_trans Z0 K28.1) f_145 f_146 (by decide : ((0 : Int32) < (2 : Int32)))) hZ (hw _ (List.mem_of_getElem? (i := 19) rfl)) (hw _ (List.mem_of_getElem? (i := 3) rfl)) (by decide) (by decide)) q147a q147c (g := (mkF m 118 #[.val (.int p1), .val (.int p2), .val (.ref b3), .val (.ref w_SUCCEEDED), .val (.ref w_REQUIRES_PAYMENT_METHOD), .val (.int (1 : Int32))] [(.ref w_REQUIRES_PAYMENT_METHOD), (.ref w_SUCCEEDED)])) rfl (by rw [hml]; rfl) (Steps.refl _) (argsL := [(.ref w_REQUIRES_PAYMENT_METHOD)]) (rest := []) (lenOf pd_0 rfl) rfl (by show 2 * 0 + _ ≤ _; exact Nat.le_of_eq rfl) (hb hby at_118) (fun _ _ => ⟨rfl, e143, (by decide : 1 + 0 ≤ _), (by decide : 5 + 0 ≤ _)⟩)
      dsimp only [Pt.U, Pt.locs, Pt.cells, Pt.slots] at X147 l147 y147 z147 st147 hQ147
      subst l147 y147 z147
      obtain ⟨rfl, N147q, eq147⟩ := hQ147
      have N147 := Fr.app N28 N147q
      refine Go.tr st147 ?_
      show Go p e below _ (T147.setTop (mkF m 121 #[.val (.int p1), .val (.int p2), .val (.ref b3), .val (.ref w_SUCCEEDED), .val (.ref w_REQUIRES_PAYMENT_METHOD), .val (.int (1 : Int32))] [(.int (1 : Int32))]))
      refine Go.st (fun _ kk => XS.iload X147.here hx rfl (hb hby at_121) rfl  kk) ?_
      show Go p e below _ (T147.setTop (mkF m 123 #[.val (.int p1), .val (.int p2), .val (.ref b3), .val (.ref w_SUCCEEDED), .val (.ref w_REQUIRES_PAYMENT_METHOD), .val (.int (1 : Int32))] [(.int (1 : Int32)), (.int (1 : Int32))]))
      refine Go.st (fun _ kk => XS.icmpNo X147.here hx rfl (hb hby at_123) rfl (teq (by decide : ((1 : Int32) = (1 : Int32)))).2 kk) ?_
      show Go p e below _ (T147.setTop (mkF m 126 #[.val (.int p1), .val (.int p2), .val (.ref b3), .val (.ref w_SUCCEEDED), .val (.ref w_REQUIRES_PAYMENT_METHOD), .val (.int (1 : Int32))] []))
      refine Go.st (fun _ kk => XS.iconst X147.here hx rfl (hb hby at_126) kk) ?_
      show Go p e below _ (T147.setTop (mkF m 127 #[.val (.int p1), .val (.int p2), .val (.ref b3), .val (.ref w_SUCCEEDED), .val (.ref w_REQUIRES_PAYMENT_METHOD), .val (.int (1 : Int32))] [(.int (1 : Int32))]))
      refine Go.st (fun _ kk => XS.goto X147.here hx rfl (pc0 := 127) (pc' := 131) rfl (hb hby at_127) (by decide) (by decide) kk) ?_
      show Go p e below _ (T147.setTop (mkF m 131 #[.val (.int p1), .val (.int p2), .val (.ref b3), .val (.ref w_SUCCEEDED), .val (.ref w_REQUIRES_PAYMENT_METHOD), .val (.int (1 : Int32))] [(.int (1 : Int32))]))
      exact Go.ret (Q := Q0 n0) X147 (v := some (.int (1 : Int32))) (fun h => by rw [Bd.returns] at h; cases h) Bd.notSynchronized (fun fs hr => retN X147 hx (t := .boolean) Bd.returns (by simp) (hb hby at_131) hr) eq147 ⟨rfl, N147⟩ (by decide) (by decide)
    · skip
      rw [hk136]
      show Go p e below _ (T28.setTop (mkF m 51 #[.val (.int p1), .val (.int p2), .val (.ref b3), .val (.ref w_SUCCEEDED), .unset, .unset] [(.int (1 : Int32)), (.ref b3)]))
      obtain ⟨clq148, Arq148, caq148, saq148, naq148, haq148, gaq148⟩ := id V28
      have inq148 : ¬ ((1 : Int32) < 0 ∨ clq148.slots.size ≤ ((1 : Int32)).toNatClampNeg) := inb_of saq148 ⟨by decide, by decide⟩
      have atq148 : clq148.slots[((1 : Int32)).toNatClampNeg]? = some (.ref w_PROCESSING) := haq148.at inq148 rfl
      refine Go.st (fun _ kk => X28.aaload hx (j := (1 : Int32)) (v := (.ref w_PROCESSING)) (by rw [e28]; exact Arq148.1) (State.isArrayOf_alike hZ.alike Arq148.2.1) rfl Arq148.2.2 inq148 atq148 (g := (mkF m 51 #[.val (.int p1), .val (.int p2), .val (.ref b3), .val (.ref w_SUCCEEDED), .unset, .unset] [(.int (1 : Int32)), (.ref b3)])) rfl rfl (hb hby at_51) _ kk) ?_
      show Go p e below _ (T28.setTop (mkF m 52 #[.val (.int p1), .val (.int p2), .val (.ref b3), .val (.ref w_SUCCEEDED), .unset, .unset] [(.ref w_PROCESSING)]))
      refine Go.st (fun _ kk => XS.astore X28.here hx rfl (hb hby at_52) rfl rfl (l' := #[.val (.int p1), .val (.int p2), .val (.ref b3), .val (.ref w_SUCCEEDED), .val (.ref w_PROCESSING), .unset]) rfl kk) ?_
      show Go p e below _ (T28.setTop (mkF m 54 #[.val (.int p1), .val (.int p2), .val (.ref b3), .val (.ref w_SUCCEEDED), .val (.ref w_PROCESSING), .unset] []))
      refine Go.st (fun _ kk => XS.aloadN X28.here hx rfl (hb hby at_54) rfl rfl  kk) ?_
      show Go p e below _ (T28.setTop (mkF m 55 #[.val (.int p1), .val (.int p2), .val (.ref b3), .val (.ref w_SUCCEEDED), .val (.ref w_PROCESSING), .unset] [(.ref w_SUCCEEDED)]))
      have f_149 := (Sta.wr W28 (Sta.wr W23 (Sta.wr W18 f_14)))
      obtain ⟨T150, X150, e150, st150⟩ := getS2 X28 hx hZ hown (host := "") (Or.inl (hw _ (List.mem_of_getElem? (i := 8) rfl))) Via.refl e28 f_149 (g := (mkF m 55 #[.val (.int p1), .val (.int p2), .val (.ref b3), .val (.ref w_SUCCEEDED), .val (.ref w_PROCESSING), .unset] [(.ref w_SUCCEEDED)])) rfl (hb hby at_55)
      refine Go.st st150 ?_
      show Go p e below _ (T150.setTop (mkF m 58 #[.val (.int p1), .val (.int p2), .val (.ref b3), .val (.ref w_SUCCEEDED), .val (.ref w_PROCESSING), .unset] [(.ref w_SUCCEEDED), (.ref w_SUCCEEDED)]))
      refine Go.st (fun _ kk => Jvm.RoadKit.acmp (g := (mkF m 58 #[.val (.int p1), .val (.int p2), .val (.ref b3), .val (.ref w_SUCCEEDED), .val (.ref w_PROCESSING), .unset] [(.ref w_SUCCEEDED), (.ref w_SUCCEEDED)])) X150 hx rfl rfl rfl (pc0 := 58) (pc' := 61) (same := true) rfl (hb hby at_58) rfl (decide_eq_true (congrArg Value.ref (rfl : w_SUCCEEDED = w_SUCCEEDED))) (by decide) (by decide) kk) ?_
      show Go p e below _ (T150.setTop (mkF m 61 #[.val (.int p1), .val (.int p2), .val (.ref b3), .val (.ref w_SUCCEEDED), .val (.ref w_PROCESSING), .unset] []))
      refine Go.st (fun _ kk => XS.aload X150.here hx rfl (hb hby at_61) rfl rfl  kk) ?_
      show Go p e below _ (T150.setTop (mkF m 63 #[.val (.int p1), .val (.int p2), .val (.ref b3), .val (.ref w_SUCCEEDED), .val (.ref w_PROCESSING), .unset] [(.ref w_PROCESSING)]))
      obtain ⟨T151, X151, e151, st151⟩ := getS2 X150 hx hZ hown (host := "") (Or.inl (hw _ (List.mem_of_getElem? (i := 8) rfl))) Via.refl e150 f_149 (g := (mkF m 63 #[.val (.int p1), .val (.int p2), .val (.ref b3), .val (.ref w_SUCCEEDED), .val (.ref w_PROCESSING), .unset] [(.ref w_PROCESSING)])) rfl (hb hby at_63)
      refine Go.st st151 ?_
      show Go p e below _ (T151.setTop (mkF m 66 #[.val (.int p1), .val (.int p2), .val (.ref b3), .val (.ref w_SUCCEEDED), .val (.ref w_PROCESSING), .unset] [(.ref w_SUCCEEDED), (.ref w_PROCESSING)]))
      refine Go.st (fun _ kk => Jvm.RoadKit.acmp (g := (mkF m 66 #[.val (.int p1), .val (.int p2), .val (.ref b3), .val (.ref w_SUCCEEDED), .val (.ref w_PROCESSING), .unset] [(.ref w_SUCCEEDED), (.ref w_PROCESSING)])) X151 hx rfl rfl rfl (pc0 := 66) (pc' := 69) (same := false) rfl (hb hby at_66) rfl (decide_eq_false fun q => (Fld.ne F_ordinal_w_PROCESSING F_ordinal_w_SUCCEEDED (by decide)) (Value.ref.inj q)) (by decide) (by decide) kk) ?_
      show Go p e below _ (T151.setTop (mkF m 69 #[.val (.int p1), .val (.int p2), .val (.ref b3), .val (.ref w_SUCCEEDED), .val (.ref w_PROCESSING), .unset] []))
      refine Go.st (fun _ kk => XS.iconst X151.here hx rfl (hb hby at_69) kk) ?_
      show Go p e below _ (T151.setTop (mkF m 70 #[.val (.int p1), .val (.int p2), .val (.ref b3), .val (.ref w_SUCCEEDED), .val (.ref w_PROCESSING), .unset] [(.int (1 : Int32))]))
      refine Go.st (fun _ kk => XS.goto X151.here hx rfl (pc0 := 70) (pc' := 74) rfl (hb hby at_70) (by decide) (by decide) kk) ?_
      show Go p e below _ (T151.setTop (mkF m 74 #[.val (.int p1), .val (.int p2), .val (.ref b3), .val (.ref w_SUCCEEDED), .val (.ref w_PROCESSING), .unset] [(.int (1 : Int32))]))
      refine Go.st (fun _ kk => XS.istore X151.here hx rfl (hb hby at_74) rfl (l' := #[.val (.int p1), .val (.int p2), .val (.ref b3), .val (.ref w_SUCCEEDED), .val (.ref w_PROCESSING), .val (.int (1 : Int32))]) rfl kk) ?_
      show Go p e below _ (T151.setTop (mkF m 76 #[.val (.int p1), .val (.int p2), .val (.ref b3), .val (.ref w_SUCCEEDED), .val (.ref w_PROCESSING), .val (.int (1 : Int32))] []))
      refine Go.st (fun _ kk => XS.goto X151.here hx rfl (pc0 := 76) (pc' := 115) rfl (hb hby at_76) (by decide) (by decide) kk) ?_
      show Go p e below _ (T151.setTop (mkF m 115 #[.val (.int p1), .val (.int p2), .val (.ref b3), .val (.ref w_SUCCEEDED), .val (.ref w_PROCESSING), .val (.int (1 : Int32))] []))
      refine Go.st (fun _ kk => XS.aloadN X151.here hx rfl (hb hby at_115) rfl rfl  kk) ?_
      show Go p e below _ (T151.setTop (mkF m 116 #[.val (.int p1), .val (.int p2), .val (.ref b3), .val (.ref w_SUCCEEDED), .val (.ref w_PROCESSING), .val (.int (1 : Int32))] [(.ref w_SUCCEEDED)]))
      refine Go.st (fun _ kk => XS.aload X151.here hx rfl (hb hby at_116) rfl rfl  kk) ?_
      show Go p e below _ (T151.setTop (mkF m 118 #[.val (.int p1), .val (.int p2), .val (.ref b3), .val (.ref w_SUCCEEDED), .val (.ref w_PROCESSING), .val (.int (1 : Int32))] [(.ref w_PROCESSING), (.ref w_SUCCEEDED)]))
      have f_152 := (Exa.wr W28 (Exa.wr W23 (Exa.wr W18 f_17)))
      have f_153 := (F_rank_w_SUCCEEDED.keep K28 nin0)
      have f_154 := (F_rank_w_PROCESSING.keep K28 nin0)
      obtain ⟨cq155, kq155, q155a, q155b, q155c⟩ := isOf hZ e151 f_152
      obtain ⟨_, _, ⟨T155, L155, k155, n155⟩, -, X155, ⟨Lc155, hQ155, l155, y155, z155⟩, st155⟩ := X151.virtualBack hx (y := (⟨"com/example/charge_ledger/chargeledger/model/PaymentStatus", "outranks", "(Lcom/example/charge_ledger/chargeledger/model/PaymentStatus;)Z"⟩ : MethodName)) (z := (⟨"com/example/charge_ledger/chargeledger/model/PaymentStatus", "outranks", "(Lcom/example/charge_ledger/chargeledger/model/PaymentStatus;)Z"⟩ : MethodName)) hown (mvT hZ (hw _ (List.mem_of_getElem? (i := 15) rfl))) (mvT hZ (hw _ (List.mem_of_getElem? (i := 16) rfl))) (notFace_of_selects (args := #[]) (mvT hZ (hw _ (List.mem_of_getElem? (i := 18) rfl)))) (mvT hZ (hw _ (List.mem_of_getElem? (i := 18) rfl))) (mvT hZ (hw _ (List.mem_of_getElem? (i := 17) rfl))) (by decide) (backOf (W := 0) (rm1_t l Z a0 hw [] w_SUCCEEDED w_PROCESSING (2 : Int32) (0 : Int32) h28 n0 (Nat.le_trans Z0 K28.1) f_153 f_154 (by decide : ((0 : Int32) < (2 : Int32)))) hZ (hw _ (List.mem_of_getElem? (i := 19) rfl)) (hw _ (List.mem_of_getElem? (i := 3) rfl)) (by decide) (by decide)) q155a q155c (g := (mkF m 118 #[.val (.int p1), .val (.int p2), .val (.ref b3), .val (.ref w_SUCCEEDED), .val (.ref w_PROCESSING), .val (.int (1 : Int32))] [(.ref w_PROCESSING), (.ref w_SUCCEEDED)])) rfl (by rw [hml]; rfl) (Steps.refl _) (argsL := [(.ref w_PROCESSING)]) (rest := []) (lenOf pd_0 rfl) rfl (by show 2 * 0 + _ ≤ _; exact Nat.le_of_eq rfl) (hb hby at_118) (fun _ _ => ⟨rfl, e151, (by decide : 1 + 0 ≤ _), (by decide : 5 + 0 ≤ _)⟩)
      dsimp only [Pt.U, Pt.locs, Pt.cells, Pt.slots] at X155 l155 y155 z155 st155 hQ155
      subst l155 y155 z155
      obtain ⟨rfl, N155q, eq155⟩ := hQ155
      have N155 := Fr.app N28 N155q
      refine Go.tr st155 ?_
      show Go p e below _ (T155.setTop (mkF m 121 #[.val (.int p1), .val (.int p2), .val (.ref b3), .val (.ref w_SUCCEEDED), .val (.ref w_PROCESSING), .val (.int (1 : Int32))] [(.int (1 : Int32))]))
      refine Go.st (fun _ kk => XS.iload X155.here hx rfl (hb hby at_121) rfl  kk) ?_
      show Go p e below _ (T155.setTop (mkF m 123 #[.val (.int p1), .val (.int p2), .val (.ref b3), .val (.ref w_SUCCEEDED), .val (.ref w_PROCESSING), .val (.int (1 : Int32))] [(.int (1 : Int32)), (.int (1 : Int32))]))
      refine Go.st (fun _ kk => XS.icmpNo X155.here hx rfl (hb hby at_123) rfl (teq (by decide : ((1 : Int32) = (1 : Int32)))).2 kk) ?_
      show Go p e below _ (T155.setTop (mkF m 126 #[.val (.int p1), .val (.int p2), .val (.ref b3), .val (.ref w_SUCCEEDED), .val (.ref w_PROCESSING), .val (.int (1 : Int32))] []))
      refine Go.st (fun _ kk => XS.iconst X155.here hx rfl (hb hby at_126) kk) ?_
      show Go p e below _ (T155.setTop (mkF m 127 #[.val (.int p1), .val (.int p2), .val (.ref b3), .val (.ref w_SUCCEEDED), .val (.ref w_PROCESSING), .val (.int (1 : Int32))] [(.int (1 : Int32))]))
      refine Go.st (fun _ kk => XS.goto X155.here hx rfl (pc0 := 127) (pc' := 131) rfl (hb hby at_127) (by decide) (by decide) kk) ?_
      show Go p e below _ (T155.setTop (mkF m 131 #[.val (.int p1), .val (.int p2), .val (.ref b3), .val (.ref w_SUCCEEDED), .val (.ref w_PROCESSING), .val (.int (1 : Int32))] [(.int (1 : Int32))]))
      exact Go.ret (Q := Q0 n0) X155 (v := some (.int (1 : Int32))) (fun h => by rw [Bd.returns] at h; cases h) Bd.notSynchronized (fun fs hr => retN X155 hx (t := .boolean) Bd.returns (by simp) (hb hby at_131) hr) eq155 ⟨rfl, N155⟩ (by decide) (by decide)
    · skip
      rw [hk137]
      show Go p e below _ (T28.setTop (mkF m 51 #[.val (.int p1), .val (.int p2), .val (.ref b3), .val (.ref w_SUCCEEDED), .unset, .unset] [(.int (2 : Int32)), (.ref b3)]))
      obtain ⟨clq156, Arq156, caq156, saq156, naq156, haq156, gaq156⟩ := id V28
      have inq156 : ¬ ((2 : Int32) < 0 ∨ clq156.slots.size ≤ ((2 : Int32)).toNatClampNeg) := inb_of saq156 ⟨by decide, by decide⟩
      have atq156 : clq156.slots[((2 : Int32)).toNatClampNeg]? = some (.ref w_SUCCEEDED) := haq156.at inq156 rfl
      refine Go.st (fun _ kk => X28.aaload hx (j := (2 : Int32)) (v := (.ref w_SUCCEEDED)) (by rw [e28]; exact Arq156.1) (State.isArrayOf_alike hZ.alike Arq156.2.1) rfl Arq156.2.2 inq156 atq156 (g := (mkF m 51 #[.val (.int p1), .val (.int p2), .val (.ref b3), .val (.ref w_SUCCEEDED), .unset, .unset] [(.int (2 : Int32)), (.ref b3)])) rfl rfl (hb hby at_51) _ kk) ?_
      show Go p e below _ (T28.setTop (mkF m 52 #[.val (.int p1), .val (.int p2), .val (.ref b3), .val (.ref w_SUCCEEDED), .unset, .unset] [(.ref w_SUCCEEDED)]))
      refine Go.st (fun _ kk => XS.astore X28.here hx rfl (hb hby at_52) rfl rfl (l' := #[.val (.int p1), .val (.int p2), .val (.ref b3), .val (.ref w_SUCCEEDED), .val (.ref w_SUCCEEDED), .unset]) rfl kk) ?_
      show Go p e below _ (T28.setTop (mkF m 54 #[.val (.int p1), .val (.int p2), .val (.ref b3), .val (.ref w_SUCCEEDED), .val (.ref w_SUCCEEDED), .unset] []))
      refine Go.st (fun _ kk => XS.aloadN X28.here hx rfl (hb hby at_54) rfl rfl  kk) ?_
      show Go p e below _ (T28.setTop (mkF m 55 #[.val (.int p1), .val (.int p2), .val (.ref b3), .val (.ref w_SUCCEEDED), .val (.ref w_SUCCEEDED), .unset] [(.ref w_SUCCEEDED)]))
      have f_157 := (Sta.wr W28 (Sta.wr W23 (Sta.wr W18 f_14)))
      obtain ⟨T158, X158, e158, st158⟩ := getS2 X28 hx hZ hown (host := "") (Or.inl (hw _ (List.mem_of_getElem? (i := 8) rfl))) Via.refl e28 f_157 (g := (mkF m 55 #[.val (.int p1), .val (.int p2), .val (.ref b3), .val (.ref w_SUCCEEDED), .val (.ref w_SUCCEEDED), .unset] [(.ref w_SUCCEEDED)])) rfl (hb hby at_55)
      refine Go.st st158 ?_
      show Go p e below _ (T158.setTop (mkF m 58 #[.val (.int p1), .val (.int p2), .val (.ref b3), .val (.ref w_SUCCEEDED), .val (.ref w_SUCCEEDED), .unset] [(.ref w_SUCCEEDED), (.ref w_SUCCEEDED)]))
      refine Go.st (fun _ kk => Jvm.RoadKit.acmp (g := (mkF m 58 #[.val (.int p1), .val (.int p2), .val (.ref b3), .val (.ref w_SUCCEEDED), .val (.ref w_SUCCEEDED), .unset] [(.ref w_SUCCEEDED), (.ref w_SUCCEEDED)])) X158 hx rfl rfl rfl (pc0 := 58) (pc' := 61) (same := true) rfl (hb hby at_58) rfl (decide_eq_true (congrArg Value.ref (rfl : w_SUCCEEDED = w_SUCCEEDED))) (by decide) (by decide) kk) ?_
      show Go p e below _ (T158.setTop (mkF m 61 #[.val (.int p1), .val (.int p2), .val (.ref b3), .val (.ref w_SUCCEEDED), .val (.ref w_SUCCEEDED), .unset] []))
      refine Go.st (fun _ kk => XS.aload X158.here hx rfl (hb hby at_61) rfl rfl  kk) ?_
      show Go p e below _ (T158.setTop (mkF m 63 #[.val (.int p1), .val (.int p2), .val (.ref b3), .val (.ref w_SUCCEEDED), .val (.ref w_SUCCEEDED), .unset] [(.ref w_SUCCEEDED)]))
      obtain ⟨T159, X159, e159, st159⟩ := getS2 X158 hx hZ hown (host := "") (Or.inl (hw _ (List.mem_of_getElem? (i := 8) rfl))) Via.refl e158 f_157 (g := (mkF m 63 #[.val (.int p1), .val (.int p2), .val (.ref b3), .val (.ref w_SUCCEEDED), .val (.ref w_SUCCEEDED), .unset] [(.ref w_SUCCEEDED)])) rfl (hb hby at_63)
      refine Go.st st159 ?_
      show Go p e below _ (T159.setTop (mkF m 66 #[.val (.int p1), .val (.int p2), .val (.ref b3), .val (.ref w_SUCCEEDED), .val (.ref w_SUCCEEDED), .unset] [(.ref w_SUCCEEDED), (.ref w_SUCCEEDED)]))
      refine Go.st (fun _ kk => Jvm.RoadKit.acmp (g := (mkF m 66 #[.val (.int p1), .val (.int p2), .val (.ref b3), .val (.ref w_SUCCEEDED), .val (.ref w_SUCCEEDED), .unset] [(.ref w_SUCCEEDED), (.ref w_SUCCEEDED)])) X159 hx rfl rfl rfl (pc0 := 66) (pc' := 73) (same := true) rfl (hb hby at_66) rfl (decide_eq_true (congrArg Value.ref (rfl : w_SUCCEEDED = w_SUCCEEDED))) (by decide) (by decide) kk) ?_
      show Go p e below _ (T159.setTop (mkF m 73 #[.val (.int p1), .val (.int p2), .val (.ref b3), .val (.ref w_SUCCEEDED), .val (.ref w_SUCCEEDED), .unset] []))
      refine Go.st (fun _ kk => XS.iconst X159.here hx rfl (hb hby at_73) kk) ?_
      show Go p e below _ (T159.setTop (mkF m 74 #[.val (.int p1), .val (.int p2), .val (.ref b3), .val (.ref w_SUCCEEDED), .val (.ref w_SUCCEEDED), .unset] [(.int (0 : Int32))]))
      refine Go.st (fun _ kk => XS.istore X159.here hx rfl (hb hby at_74) rfl (l' := #[.val (.int p1), .val (.int p2), .val (.ref b3), .val (.ref w_SUCCEEDED), .val (.ref w_SUCCEEDED), .val (.int (0 : Int32))]) rfl kk) ?_
      show Go p e below _ (T159.setTop (mkF m 76 #[.val (.int p1), .val (.int p2), .val (.ref b3), .val (.ref w_SUCCEEDED), .val (.ref w_SUCCEEDED), .val (.int (0 : Int32))] []))
      refine Go.st (fun _ kk => XS.goto X159.here hx rfl (pc0 := 76) (pc' := 115) rfl (hb hby at_76) (by decide) (by decide) kk) ?_
      show Go p e below _ (T159.setTop (mkF m 115 #[.val (.int p1), .val (.int p2), .val (.ref b3), .val (.ref w_SUCCEEDED), .val (.ref w_SUCCEEDED), .val (.int (0 : Int32))] []))
      refine Go.st (fun _ kk => XS.aloadN X159.here hx rfl (hb hby at_115) rfl rfl  kk) ?_
      show Go p e below _ (T159.setTop (mkF m 116 #[.val (.int p1), .val (.int p2), .val (.ref b3), .val (.ref w_SUCCEEDED), .val (.ref w_SUCCEEDED), .val (.int (0 : Int32))] [(.ref w_SUCCEEDED)]))
      refine Go.st (fun _ kk => XS.aload X159.here hx rfl (hb hby at_116) rfl rfl  kk) ?_
      show Go p e below _ (T159.setTop (mkF m 118 #[.val (.int p1), .val (.int p2), .val (.ref b3), .val (.ref w_SUCCEEDED), .val (.ref w_SUCCEEDED), .val (.int (0 : Int32))] [(.ref w_SUCCEEDED), (.ref w_SUCCEEDED)]))
      have f_160 := (Exa.wr W28 (Exa.wr W23 (Exa.wr W18 f_17)))
      have f_161 := (F_rank_w_SUCCEEDED.keep K28 nin0)
      obtain ⟨cq162, kq162, q162a, q162b, q162c⟩ := isOf hZ e159 f_160
      obtain ⟨_, _, ⟨T162, L162, k162, n162⟩, -, X162, ⟨Lc162, hQ162, l162, y162, z162⟩, st162⟩ := X159.virtualBack hx (y := (⟨"com/example/charge_ledger/chargeledger/model/PaymentStatus", "outranks", "(Lcom/example/charge_ledger/chargeledger/model/PaymentStatus;)Z"⟩ : MethodName)) (z := (⟨"com/example/charge_ledger/chargeledger/model/PaymentStatus", "outranks", "(Lcom/example/charge_ledger/chargeledger/model/PaymentStatus;)Z"⟩ : MethodName)) hown (mvT hZ (hw _ (List.mem_of_getElem? (i := 15) rfl))) (mvT hZ (hw _ (List.mem_of_getElem? (i := 16) rfl))) (notFace_of_selects (args := #[]) (mvT hZ (hw _ (List.mem_of_getElem? (i := 18) rfl)))) (mvT hZ (hw _ (List.mem_of_getElem? (i := 18) rfl))) (mvT hZ (hw _ (List.mem_of_getElem? (i := 17) rfl))) (by decide) (backOf (W := 0) (rm1_f l Z a0 hw [] w_SUCCEEDED w_SUCCEEDED (2 : Int32) (2 : Int32) h28 n0 (Nat.le_trans Z0 K28.1) f_161 f_161 (by decide : ¬ ((2 : Int32) < (2 : Int32)))) hZ (hw _ (List.mem_of_getElem? (i := 19) rfl)) (hw _ (List.mem_of_getElem? (i := 3) rfl)) (by decide) (by decide)) q162a q162c (g := (mkF m 118 #[.val (.int p1), .val (.int p2), .val (.ref b3), .val (.ref w_SUCCEEDED), .val (.ref w_SUCCEEDED), .val (.int (0 : Int32))] [(.ref w_SUCCEEDED), (.ref w_SUCCEEDED)])) rfl (by rw [hml]; rfl) (Steps.refl _) (argsL := [(.ref w_SUCCEEDED)]) (rest := []) (lenOf pd_0 rfl) rfl (by show 2 * 0 + _ ≤ _; exact Nat.le_of_eq rfl) (hb hby at_118) (fun _ _ => ⟨rfl, e159, (by decide : 1 + 0 ≤ _), (by decide : 5 + 0 ≤ _)⟩)
      dsimp only [Pt.U, Pt.locs, Pt.cells, Pt.slots] at X162 l162 y162 z162 st162 hQ162
      subst l162 y162 z162
      obtain ⟨rfl, N162q, eq162⟩ := hQ162
      have N162 := Fr.app N28 N162q
      refine Go.tr st162 ?_
      show Go p e below _ (T162.setTop (mkF m 121 #[.val (.int p1), .val (.int p2), .val (.ref b3), .val (.ref w_SUCCEEDED), .val (.ref w_SUCCEEDED), .val (.int (0 : Int32))] [(.int (0 : Int32))]))
      refine Go.st (fun _ kk => XS.iload X162.here hx rfl (hb hby at_121) rfl  kk) ?_
      show Go p e below _ (T162.setTop (mkF m 123 #[.val (.int p1), .val (.int p2), .val (.ref b3), .val (.ref w_SUCCEEDED), .val (.ref w_SUCCEEDED), .val (.int (0 : Int32))] [(.int (0 : Int32)), (.int (0 : Int32))]))
      refine Go.st (fun _ kk => XS.icmpNo X162.here hx rfl (hb hby at_123) rfl (teq (by decide : ((0 : Int32) = (0 : Int32)))).2 kk) ?_
      show Go p e below _ (T162.setTop (mkF m 126 #[.val (.int p1), .val (.int p2), .val (.ref b3), .val (.ref w_SUCCEEDED), .val (.ref w_SUCCEEDED), .val (.int (0 : Int32))] []))
      refine Go.st (fun _ kk => XS.iconst X162.here hx rfl (hb hby at_126) kk) ?_
      show Go p e below _ (T162.setTop (mkF m 127 #[.val (.int p1), .val (.int p2), .val (.ref b3), .val (.ref w_SUCCEEDED), .val (.ref w_SUCCEEDED), .val (.int (0 : Int32))] [(.int (1 : Int32))]))
      refine Go.st (fun _ kk => XS.goto X162.here hx rfl (pc0 := 127) (pc' := 131) rfl (hb hby at_127) (by decide) (by decide) kk) ?_
      show Go p e below _ (T162.setTop (mkF m 131 #[.val (.int p1), .val (.int p2), .val (.ref b3), .val (.ref w_SUCCEEDED), .val (.ref w_SUCCEEDED), .val (.int (0 : Int32))] [(.int (1 : Int32))]))
      exact Go.ret (Q := Q0 n0) X162 (v := some (.int (1 : Int32))) (fun h => by rw [Bd.returns] at h; cases h) Bd.notSynchronized (fun fs hr => retN X162 hx (t := .boolean) Bd.returns (by simp) (hb hby at_131) hr) eq162 ⟨rfl, N162⟩ (by decide) (by decide)
    · skip
      rw [hk138]
      show Go p e below _ (T28.setTop (mkF m 51 #[.val (.int p1), .val (.int p2), .val (.ref b3), .val (.ref w_SUCCEEDED), .unset, .unset] [(.int (3 : Int32)), (.ref b3)]))
      obtain ⟨clq163, Arq163, caq163, saq163, naq163, haq163, gaq163⟩ := id V28
      have inq163 : ¬ ((3 : Int32) < 0 ∨ clq163.slots.size ≤ ((3 : Int32)).toNatClampNeg) := inb_of saq163 ⟨by decide, by decide⟩
      have atq163 : clq163.slots[((3 : Int32)).toNatClampNeg]? = some (.ref w_FAILED) := haq163.at inq163 rfl
      refine Go.st (fun _ kk => X28.aaload hx (j := (3 : Int32)) (v := (.ref w_FAILED)) (by rw [e28]; exact Arq163.1) (State.isArrayOf_alike hZ.alike Arq163.2.1) rfl Arq163.2.2 inq163 atq163 (g := (mkF m 51 #[.val (.int p1), .val (.int p2), .val (.ref b3), .val (.ref w_SUCCEEDED), .unset, .unset] [(.int (3 : Int32)), (.ref b3)])) rfl rfl (hb hby at_51) _ kk) ?_
      show Go p e below _ (T28.setTop (mkF m 52 #[.val (.int p1), .val (.int p2), .val (.ref b3), .val (.ref w_SUCCEEDED), .unset, .unset] [(.ref w_FAILED)]))
      refine Go.st (fun _ kk => XS.astore X28.here hx rfl (hb hby at_52) rfl rfl (l' := #[.val (.int p1), .val (.int p2), .val (.ref b3), .val (.ref w_SUCCEEDED), .val (.ref w_FAILED), .unset]) rfl kk) ?_
      show Go p e below _ (T28.setTop (mkF m 54 #[.val (.int p1), .val (.int p2), .val (.ref b3), .val (.ref w_SUCCEEDED), .val (.ref w_FAILED), .unset] []))
      refine Go.st (fun _ kk => XS.aloadN X28.here hx rfl (hb hby at_54) rfl rfl  kk) ?_
      show Go p e below _ (T28.setTop (mkF m 55 #[.val (.int p1), .val (.int p2), .val (.ref b3), .val (.ref w_SUCCEEDED), .val (.ref w_FAILED), .unset] [(.ref w_SUCCEEDED)]))
      have f_164 := (Sta.wr W28 (Sta.wr W23 (Sta.wr W18 f_14)))
      obtain ⟨T165, X165, e165, st165⟩ := getS2 X28 hx hZ hown (host := "") (Or.inl (hw _ (List.mem_of_getElem? (i := 8) rfl))) Via.refl e28 f_164 (g := (mkF m 55 #[.val (.int p1), .val (.int p2), .val (.ref b3), .val (.ref w_SUCCEEDED), .val (.ref w_FAILED), .unset] [(.ref w_SUCCEEDED)])) rfl (hb hby at_55)
      refine Go.st st165 ?_
      show Go p e below _ (T165.setTop (mkF m 58 #[.val (.int p1), .val (.int p2), .val (.ref b3), .val (.ref w_SUCCEEDED), .val (.ref w_FAILED), .unset] [(.ref w_SUCCEEDED), (.ref w_SUCCEEDED)]))
      refine Go.st (fun _ kk => Jvm.RoadKit.acmp (g := (mkF m 58 #[.val (.int p1), .val (.int p2), .val (.ref b3), .val (.ref w_SUCCEEDED), .val (.ref w_FAILED), .unset] [(.ref w_SUCCEEDED), (.ref w_SUCCEEDED)])) X165 hx rfl rfl rfl (pc0 := 58) (pc' := 61) (same := true) rfl (hb hby at_58) rfl (decide_eq_true (congrArg Value.ref (rfl : w_SUCCEEDED = w_SUCCEEDED))) (by decide) (by decide) kk) ?_
      show Go p e below _ (T165.setTop (mkF m 61 #[.val (.int p1), .val (.int p2), .val (.ref b3), .val (.ref w_SUCCEEDED), .val (.ref w_FAILED), .unset] []))
      refine Go.st (fun _ kk => XS.aload X165.here hx rfl (hb hby at_61) rfl rfl  kk) ?_
      show Go p e below _ (T165.setTop (mkF m 63 #[.val (.int p1), .val (.int p2), .val (.ref b3), .val (.ref w_SUCCEEDED), .val (.ref w_FAILED), .unset] [(.ref w_FAILED)]))
      obtain ⟨T166, X166, e166, st166⟩ := getS2 X165 hx hZ hown (host := "") (Or.inl (hw _ (List.mem_of_getElem? (i := 8) rfl))) Via.refl e165 f_164 (g := (mkF m 63 #[.val (.int p1), .val (.int p2), .val (.ref b3), .val (.ref w_SUCCEEDED), .val (.ref w_FAILED), .unset] [(.ref w_FAILED)])) rfl (hb hby at_63)
      refine Go.st st166 ?_
      show Go p e below _ (T166.setTop (mkF m 66 #[.val (.int p1), .val (.int p2), .val (.ref b3), .val (.ref w_SUCCEEDED), .val (.ref w_FAILED), .unset] [(.ref w_SUCCEEDED), (.ref w_FAILED)]))
      refine Go.st (fun _ kk => Jvm.RoadKit.acmp (g := (mkF m 66 #[.val (.int p1), .val (.int p2), .val (.ref b3), .val (.ref w_SUCCEEDED), .val (.ref w_FAILED), .unset] [(.ref w_SUCCEEDED), (.ref w_FAILED)])) X166 hx rfl rfl rfl (pc0 := 66) (pc' := 69) (same := false) rfl (hb hby at_66) rfl (decide_eq_false fun q => (Fld.ne F_rank_w_FAILED F_rank_w_SUCCEEDED (by decide)) (Value.ref.inj q)) (by decide) (by decide) kk) ?_
      show Go p e below _ (T166.setTop (mkF m 69 #[.val (.int p1), .val (.int p2), .val (.ref b3), .val (.ref w_SUCCEEDED), .val (.ref w_FAILED), .unset] []))
      refine Go.st (fun _ kk => XS.iconst X166.here hx rfl (hb hby at_69) kk) ?_
      show Go p e below _ (T166.setTop (mkF m 70 #[.val (.int p1), .val (.int p2), .val (.ref b3), .val (.ref w_SUCCEEDED), .val (.ref w_FAILED), .unset] [(.int (1 : Int32))]))
      refine Go.st (fun _ kk => XS.goto X166.here hx rfl (pc0 := 70) (pc' := 74) rfl (hb hby at_70) (by decide) (by decide) kk) ?_
      show Go p e below _ (T166.setTop (mkF m 74 #[.val (.int p1), .val (.int p2), .val (.ref b3), .val (.ref w_SUCCEEDED), .val (.ref w_FAILED), .unset] [(.int (1 : Int32))]))
      refine Go.st (fun _ kk => XS.istore X166.here hx rfl (hb hby at_74) rfl (l' := #[.val (.int p1), .val (.int p2), .val (.ref b3), .val (.ref w_SUCCEEDED), .val (.ref w_FAILED), .val (.int (1 : Int32))]) rfl kk) ?_
      show Go p e below _ (T166.setTop (mkF m 76 #[.val (.int p1), .val (.int p2), .val (.ref b3), .val (.ref w_SUCCEEDED), .val (.ref w_FAILED), .val (.int (1 : Int32))] []))
      refine Go.st (fun _ kk => XS.goto X166.here hx rfl (pc0 := 76) (pc' := 115) rfl (hb hby at_76) (by decide) (by decide) kk) ?_
      show Go p e below _ (T166.setTop (mkF m 115 #[.val (.int p1), .val (.int p2), .val (.ref b3), .val (.ref w_SUCCEEDED), .val (.ref w_FAILED), .val (.int (1 : Int32))] []))
      refine Go.st (fun _ kk => XS.aloadN X166.here hx rfl (hb hby at_115) rfl rfl  kk) ?_
      show Go p e below _ (T166.setTop (mkF m 116 #[.val (.int p1), .val (.int p2), .val (.ref b3), .val (.ref w_SUCCEEDED), .val (.ref w_FAILED), .val (.int (1 : Int32))] [(.ref w_SUCCEEDED)]))
      refine Go.st (fun _ kk => XS.aload X166.here hx rfl (hb hby at_116) rfl rfl  kk) ?_
      show Go p e below _ (T166.setTop (mkF m 118 #[.val (.int p1), .val (.int p2), .val (.ref b3), .val (.ref w_SUCCEEDED), .val (.ref w_FAILED), .val (.int (1 : Int32))] [(.ref w_FAILED), (.ref w_SUCCEEDED)]))
      have f_167 := (Exa.wr W28 (Exa.wr W23 (Exa.wr W18 f_17)))
      have f_168 := (F_rank_w_SUCCEEDED.keep K28 nin0)
      have f_169 := (F_rank_w_FAILED.keep K28 nin0)
      obtain ⟨cq170, kq170, q170a, q170b, q170c⟩ := isOf hZ e166 f_167
      obtain ⟨_, _, ⟨T170, L170, k170, n170⟩, -, X170, ⟨Lc170, hQ170, l170, y170, z170⟩, st170⟩ := X166.virtualBack hx (y := (⟨"com/example/charge_ledger/chargeledger/model/PaymentStatus", "outranks", "(Lcom/example/charge_ledger/chargeledger/model/PaymentStatus;)Z"⟩ : MethodName)) (z := (⟨"com/example/charge_ledger/chargeledger/model/PaymentStatus", "outranks", "(Lcom/example/charge_ledger/chargeledger/model/PaymentStatus;)Z"⟩ : MethodName)) hown (mvT hZ (hw _ (List.mem_of_getElem? (i := 15) rfl))) (mvT hZ (hw _ (List.mem_of_getElem? (i := 16) rfl))) (notFace_of_selects (args := #[]) (mvT hZ (hw _ (List.mem_of_getElem? (i := 18) rfl)))) (mvT hZ (hw _ (List.mem_of_getElem? (i := 18) rfl))) (mvT hZ (hw _ (List.mem_of_getElem? (i := 17) rfl))) (by decide) (backOf (W := 0) (rm1_t l Z a0 hw [] w_SUCCEEDED w_FAILED (2 : Int32) (0 : Int32) h28 n0 (Nat.le_trans Z0 K28.1) f_168 f_169 (by decide : ((0 : Int32) < (2 : Int32)))) hZ (hw _ (List.mem_of_getElem? (i := 19) rfl)) (hw _ (List.mem_of_getElem? (i := 3) rfl)) (by decide) (by decide)) q170a q170c (g := (mkF m 118 #[.val (.int p1), .val (.int p2), .val (.ref b3), .val (.ref w_SUCCEEDED), .val (.ref w_FAILED), .val (.int (1 : Int32))] [(.ref w_FAILED), (.ref w_SUCCEEDED)])) rfl (by rw [hml]; rfl) (Steps.refl _) (argsL := [(.ref w_FAILED)]) (rest := []) (lenOf pd_0 rfl) rfl (by show 2 * 0 + _ ≤ _; exact Nat.le_of_eq rfl) (hb hby at_118) (fun _ _ => ⟨rfl, e166, (by decide : 1 + 0 ≤ _), (by decide : 5 + 0 ≤ _)⟩)
      dsimp only [Pt.U, Pt.locs, Pt.cells, Pt.slots] at X170 l170 y170 z170 st170 hQ170
      subst l170 y170 z170
      obtain ⟨rfl, N170q, eq170⟩ := hQ170
      have N170 := Fr.app N28 N170q
      refine Go.tr st170 ?_
      show Go p e below _ (T170.setTop (mkF m 121 #[.val (.int p1), .val (.int p2), .val (.ref b3), .val (.ref w_SUCCEEDED), .val (.ref w_FAILED), .val (.int (1 : Int32))] [(.int (1 : Int32))]))
      refine Go.st (fun _ kk => XS.iload X170.here hx rfl (hb hby at_121) rfl  kk) ?_
      show Go p e below _ (T170.setTop (mkF m 123 #[.val (.int p1), .val (.int p2), .val (.ref b3), .val (.ref w_SUCCEEDED), .val (.ref w_FAILED), .val (.int (1 : Int32))] [(.int (1 : Int32)), (.int (1 : Int32))]))
      refine Go.st (fun _ kk => XS.icmpNo X170.here hx rfl (hb hby at_123) rfl (teq (by decide : ((1 : Int32) = (1 : Int32)))).2 kk) ?_
      show Go p e below _ (T170.setTop (mkF m 126 #[.val (.int p1), .val (.int p2), .val (.ref b3), .val (.ref w_SUCCEEDED), .val (.ref w_FAILED), .val (.int (1 : Int32))] []))
      refine Go.st (fun _ kk => XS.iconst X170.here hx rfl (hb hby at_126) kk) ?_
      show Go p e below _ (T170.setTop (mkF m 127 #[.val (.int p1), .val (.int p2), .val (.ref b3), .val (.ref w_SUCCEEDED), .val (.ref w_FAILED), .val (.int (1 : Int32))] [(.int (1 : Int32))]))
      refine Go.st (fun _ kk => XS.goto X170.here hx rfl (pc0 := 127) (pc' := 131) rfl (hb hby at_127) (by decide) (by decide) kk) ?_
      show Go p e below _ (T170.setTop (mkF m 131 #[.val (.int p1), .val (.int p2), .val (.ref b3), .val (.ref w_SUCCEEDED), .val (.ref w_FAILED), .val (.int (1 : Int32))] [(.int (1 : Int32))]))
      exact Go.ret (Q := Q0 n0) X170 (v := some (.int (1 : Int32))) (fun h => by rw [Bd.returns] at h; cases h) Bd.notSynchronized (fun fs hr => retN X170 hx (t := .boolean) Bd.returns (by simp) (hb hby at_131) hr) eq170 ⟨rfl, N170⟩ (by decide) (by decide)
    · skip
      rw [hk139]
      show Go p e below _ (T28.setTop (mkF m 51 #[.val (.int p1), .val (.int p2), .val (.ref b3), .val (.ref w_SUCCEEDED), .unset, .unset] [(.int (4 : Int32)), (.ref b3)]))
      obtain ⟨clq171, Arq171, caq171, saq171, naq171, haq171, gaq171⟩ := id V28
      have inq171 : ¬ ((4 : Int32) < 0 ∨ clq171.slots.size ≤ ((4 : Int32)).toNatClampNeg) := inb_of saq171 ⟨by decide, by decide⟩
      have atq171 : clq171.slots[((4 : Int32)).toNatClampNeg]? = some (.ref w_CANCELED) := haq171.at inq171 rfl
      refine Go.st (fun _ kk => X28.aaload hx (j := (4 : Int32)) (v := (.ref w_CANCELED)) (by rw [e28]; exact Arq171.1) (State.isArrayOf_alike hZ.alike Arq171.2.1) rfl Arq171.2.2 inq171 atq171 (g := (mkF m 51 #[.val (.int p1), .val (.int p2), .val (.ref b3), .val (.ref w_SUCCEEDED), .unset, .unset] [(.int (4 : Int32)), (.ref b3)])) rfl rfl (hb hby at_51) _ kk) ?_
      show Go p e below _ (T28.setTop (mkF m 52 #[.val (.int p1), .val (.int p2), .val (.ref b3), .val (.ref w_SUCCEEDED), .unset, .unset] [(.ref w_CANCELED)]))
      refine Go.st (fun _ kk => XS.astore X28.here hx rfl (hb hby at_52) rfl rfl (l' := #[.val (.int p1), .val (.int p2), .val (.ref b3), .val (.ref w_SUCCEEDED), .val (.ref w_CANCELED), .unset]) rfl kk) ?_
      show Go p e below _ (T28.setTop (mkF m 54 #[.val (.int p1), .val (.int p2), .val (.ref b3), .val (.ref w_SUCCEEDED), .val (.ref w_CANCELED), .unset] []))
      refine Go.st (fun _ kk => XS.aloadN X28.here hx rfl (hb hby at_54) rfl rfl  kk) ?_
      show Go p e below _ (T28.setTop (mkF m 55 #[.val (.int p1), .val (.int p2), .val (.ref b3), .val (.ref w_SUCCEEDED), .val (.ref w_CANCELED), .unset] [(.ref w_SUCCEEDED)]))
      have f_172 := (Sta.wr W28 (Sta.wr W23 (Sta.wr W18 f_14)))
      obtain ⟨T173, X173, e173, st173⟩ := getS2 X28 hx hZ hown (host := "") (Or.inl (hw _ (List.mem_of_getElem? (i := 8) rfl))) Via.refl e28 f_172 (g := (mkF m 55 #[.val (.int p1), .val (.int p2), .val (.ref b3), .val (.ref w_SUCCEEDED), .val (.ref w_CANCELED), .unset] [(.ref w_SUCCEEDED)])) rfl (hb hby at_55)
      refine Go.st st173 ?_
      show Go p e below _ (T173.setTop (mkF m 58 #[.val (.int p1), .val (.int p2), .val (.ref b3), .val (.ref w_SUCCEEDED), .val (.ref w_CANCELED), .unset] [(.ref w_SUCCEEDED), (.ref w_SUCCEEDED)]))
      refine Go.st (fun _ kk => Jvm.RoadKit.acmp (g := (mkF m 58 #[.val (.int p1), .val (.int p2), .val (.ref b3), .val (.ref w_SUCCEEDED), .val (.ref w_CANCELED), .unset] [(.ref w_SUCCEEDED), (.ref w_SUCCEEDED)])) X173 hx rfl rfl rfl (pc0 := 58) (pc' := 61) (same := true) rfl (hb hby at_58) rfl (decide_eq_true (congrArg Value.ref (rfl : w_SUCCEEDED = w_SUCCEEDED))) (by decide) (by decide) kk) ?_
      show Go p e below _ (T173.setTop (mkF m 61 #[.val (.int p1), .val (.int p2), .val (.ref b3), .val (.ref w_SUCCEEDED), .val (.ref w_CANCELED), .unset] []))
      refine Go.st (fun _ kk => XS.aload X173.here hx rfl (hb hby at_61) rfl rfl  kk) ?_
      show Go p e below _ (T173.setTop (mkF m 63 #[.val (.int p1), .val (.int p2), .val (.ref b3), .val (.ref w_SUCCEEDED), .val (.ref w_CANCELED), .unset] [(.ref w_CANCELED)]))
      obtain ⟨T174, X174, e174, st174⟩ := getS2 X173 hx hZ hown (host := "") (Or.inl (hw _ (List.mem_of_getElem? (i := 8) rfl))) Via.refl e173 f_172 (g := (mkF m 63 #[.val (.int p1), .val (.int p2), .val (.ref b3), .val (.ref w_SUCCEEDED), .val (.ref w_CANCELED), .unset] [(.ref w_CANCELED)])) rfl (hb hby at_63)
      refine Go.st st174 ?_
      show Go p e below _ (T174.setTop (mkF m 66 #[.val (.int p1), .val (.int p2), .val (.ref b3), .val (.ref w_SUCCEEDED), .val (.ref w_CANCELED), .unset] [(.ref w_SUCCEEDED), (.ref w_CANCELED)]))
      refine Go.st (fun _ kk => Jvm.RoadKit.acmp (g := (mkF m 66 #[.val (.int p1), .val (.int p2), .val (.ref b3), .val (.ref w_SUCCEEDED), .val (.ref w_CANCELED), .unset] [(.ref w_SUCCEEDED), (.ref w_CANCELED)])) X174 hx rfl rfl rfl (pc0 := 66) (pc' := 69) (same := false) rfl (hb hby at_66) rfl (decide_eq_false fun q => (Fld.ne F_ordinal_w_CANCELED F_ordinal_w_SUCCEEDED (by decide)) (Value.ref.inj q)) (by decide) (by decide) kk) ?_
      show Go p e below _ (T174.setTop (mkF m 69 #[.val (.int p1), .val (.int p2), .val (.ref b3), .val (.ref w_SUCCEEDED), .val (.ref w_CANCELED), .unset] []))
      refine Go.st (fun _ kk => XS.iconst X174.here hx rfl (hb hby at_69) kk) ?_
      show Go p e below _ (T174.setTop (mkF m 70 #[.val (.int p1), .val (.int p2), .val (.ref b3), .val (.ref w_SUCCEEDED), .val (.ref w_CANCELED), .unset] [(.int (1 : Int32))]))
      refine Go.st (fun _ kk => XS.goto X174.here hx rfl (pc0 := 70) (pc' := 74) rfl (hb hby at_70) (by decide) (by decide) kk) ?_
      show Go p e below _ (T174.setTop (mkF m 74 #[.val (.int p1), .val (.int p2), .val (.ref b3), .val (.ref w_SUCCEEDED), .val (.ref w_CANCELED), .unset] [(.int (1 : Int32))]))
      refine Go.st (fun _ kk => XS.istore X174.here hx rfl (hb hby at_74) rfl (l' := #[.val (.int p1), .val (.int p2), .val (.ref b3), .val (.ref w_SUCCEEDED), .val (.ref w_CANCELED), .val (.int (1 : Int32))]) rfl kk) ?_
      show Go p e below _ (T174.setTop (mkF m 76 #[.val (.int p1), .val (.int p2), .val (.ref b3), .val (.ref w_SUCCEEDED), .val (.ref w_CANCELED), .val (.int (1 : Int32))] []))
      refine Go.st (fun _ kk => XS.goto X174.here hx rfl (pc0 := 76) (pc' := 115) rfl (hb hby at_76) (by decide) (by decide) kk) ?_
      show Go p e below _ (T174.setTop (mkF m 115 #[.val (.int p1), .val (.int p2), .val (.ref b3), .val (.ref w_SUCCEEDED), .val (.ref w_CANCELED), .val (.int (1 : Int32))] []))
      refine Go.st (fun _ kk => XS.aloadN X174.here hx rfl (hb hby at_115) rfl rfl  kk) ?_
      show Go p e below _ (T174.setTop (mkF m 116 #[.val (.int p1), .val (.int p2), .val (.ref b3), .val (.ref w_SUCCEEDED), .val (.ref w_CANCELED), .val (.int (1 : Int32))] [(.ref w_SUCCEEDED)]))
      refine Go.st (fun _ kk => XS.aload X174.here hx rfl (hb hby at_116) rfl rfl  kk) ?_
      show Go p e below _ (T174.setTop (mkF m 118 #[.val (.int p1), .val (.int p2), .val (.ref b3), .val (.ref w_SUCCEEDED), .val (.ref w_CANCELED), .val (.int (1 : Int32))] [(.ref w_CANCELED), (.ref w_SUCCEEDED)]))
      have f_175 := (Exa.wr W28 (Exa.wr W23 (Exa.wr W18 f_17)))
      have f_176 := (F_rank_w_SUCCEEDED.keep K28 nin0)
      have f_177 := (F_rank_w_CANCELED.keep K28 nin0)
      obtain ⟨cq178, kq178, q178a, q178b, q178c⟩ := isOf hZ e174 f_175
      obtain ⟨_, _, ⟨T178, L178, k178, n178⟩, -, X178, ⟨Lc178, hQ178, l178, y178, z178⟩, st178⟩ := X174.virtualBack hx (y := (⟨"com/example/charge_ledger/chargeledger/model/PaymentStatus", "outranks", "(Lcom/example/charge_ledger/chargeledger/model/PaymentStatus;)Z"⟩ : MethodName)) (z := (⟨"com/example/charge_ledger/chargeledger/model/PaymentStatus", "outranks", "(Lcom/example/charge_ledger/chargeledger/model/PaymentStatus;)Z"⟩ : MethodName)) hown (mvT hZ (hw _ (List.mem_of_getElem? (i := 15) rfl))) (mvT hZ (hw _ (List.mem_of_getElem? (i := 16) rfl))) (notFace_of_selects (args := #[]) (mvT hZ (hw _ (List.mem_of_getElem? (i := 18) rfl)))) (mvT hZ (hw _ (List.mem_of_getElem? (i := 18) rfl))) (mvT hZ (hw _ (List.mem_of_getElem? (i := 17) rfl))) (by decide) (backOf (W := 0) (rm1_t l Z a0 hw [] w_SUCCEEDED w_CANCELED (2 : Int32) (1 : Int32) h28 n0 (Nat.le_trans Z0 K28.1) f_176 f_177 (by decide : ((1 : Int32) < (2 : Int32)))) hZ (hw _ (List.mem_of_getElem? (i := 19) rfl)) (hw _ (List.mem_of_getElem? (i := 3) rfl)) (by decide) (by decide)) q178a q178c (g := (mkF m 118 #[.val (.int p1), .val (.int p2), .val (.ref b3), .val (.ref w_SUCCEEDED), .val (.ref w_CANCELED), .val (.int (1 : Int32))] [(.ref w_CANCELED), (.ref w_SUCCEEDED)])) rfl (by rw [hml]; rfl) (Steps.refl _) (argsL := [(.ref w_CANCELED)]) (rest := []) (lenOf pd_0 rfl) rfl (by show 2 * 0 + _ ≤ _; exact Nat.le_of_eq rfl) (hb hby at_118) (fun _ _ => ⟨rfl, e174, (by decide : 1 + 0 ≤ _), (by decide : 5 + 0 ≤ _)⟩)
      dsimp only [Pt.U, Pt.locs, Pt.cells, Pt.slots] at X178 l178 y178 z178 st178 hQ178
      subst l178 y178 z178
      obtain ⟨rfl, N178q, eq178⟩ := hQ178
      have N178 := Fr.app N28 N178q
      refine Go.tr st178 ?_
      show Go p e below _ (T178.setTop (mkF m 121 #[.val (.int p1), .val (.int p2), .val (.ref b3), .val (.ref w_SUCCEEDED), .val (.ref w_CANCELED), .val (.int (1 : Int32))] [(.int (1 : Int32))]))
      refine Go.st (fun _ kk => XS.iload X178.here hx rfl (hb hby at_121) rfl  kk) ?_
      show Go p e below _ (T178.setTop (mkF m 123 #[.val (.int p1), .val (.int p2), .val (.ref b3), .val (.ref w_SUCCEEDED), .val (.ref w_CANCELED), .val (.int (1 : Int32))] [(.int (1 : Int32)), (.int (1 : Int32))]))
      refine Go.st (fun _ kk => XS.icmpNo X178.here hx rfl (hb hby at_123) rfl (teq (by decide : ((1 : Int32) = (1 : Int32)))).2 kk) ?_
      show Go p e below _ (T178.setTop (mkF m 126 #[.val (.int p1), .val (.int p2), .val (.ref b3), .val (.ref w_SUCCEEDED), .val (.ref w_CANCELED), .val (.int (1 : Int32))] []))
      refine Go.st (fun _ kk => XS.iconst X178.here hx rfl (hb hby at_126) kk) ?_
      show Go p e below _ (T178.setTop (mkF m 127 #[.val (.int p1), .val (.int p2), .val (.ref b3), .val (.ref w_SUCCEEDED), .val (.ref w_CANCELED), .val (.int (1 : Int32))] [(.int (1 : Int32))]))
      refine Go.st (fun _ kk => XS.goto X178.here hx rfl (pc0 := 127) (pc' := 131) rfl (hb hby at_127) (by decide) (by decide) kk) ?_
      show Go p e below _ (T178.setTop (mkF m 131 #[.val (.int p1), .val (.int p2), .val (.ref b3), .val (.ref w_SUCCEEDED), .val (.ref w_CANCELED), .val (.int (1 : Int32))] [(.int (1 : Int32))]))
      exact Go.ret (Q := Q0 n0) X178 (v := some (.int (1 : Int32))) (fun h => by rw [Bd.returns] at h; cases h) Bd.notSynchronized (fun fs hr => retN X178 hx (t := .boolean) Bd.returns (by simp) (hb hby at_131) hr) eq178 ⟨rfl, N178⟩ (by decide) (by decide)
  · skip
    rw [hk32]
    show Go p e below _ (T28.setTop (mkF m 42 #[.val (.int p1), .val (.int p2), .val (.ref b3), .unset, .unset, .unset] [(.int (3 : Int32)), (.ref b3)]))
    obtain ⟨clq179, Arq179, caq179, saq179, naq179, haq179, gaq179⟩ := id V28
    have inq179 : ¬ ((3 : Int32) < 0 ∨ clq179.slots.size ≤ ((3 : Int32)).toNatClampNeg) := inb_of saq179 ⟨by decide, by decide⟩
    have atq179 : clq179.slots[((3 : Int32)).toNatClampNeg]? = some (.ref w_FAILED) := haq179.at inq179 rfl
    refine Go.st (fun _ kk => X28.aaload hx (j := (3 : Int32)) (v := (.ref w_FAILED)) (by rw [e28]; exact Arq179.1) (State.isArrayOf_alike hZ.alike Arq179.2.1) rfl Arq179.2.2 inq179 atq179 (g := (mkF m 42 #[.val (.int p1), .val (.int p2), .val (.ref b3), .unset, .unset, .unset] [(.int (3 : Int32)), (.ref b3)])) rfl rfl (hb hby at_42) _ kk) ?_
    show Go p e below _ (T28.setTop (mkF m 43 #[.val (.int p1), .val (.int p2), .val (.ref b3), .unset, .unset, .unset] [(.ref w_FAILED)]))
    refine Go.st (fun _ kk => XS.astoreN X28.here hx rfl (hb hby at_43) rfl rfl (l' := #[.val (.int p1), .val (.int p2), .val (.ref b3), .val (.ref w_FAILED), .unset, .unset]) rfl kk) ?_
    show Go p e below _ (T28.setTop (mkF m 44 #[.val (.int p1), .val (.int p2), .val (.ref b3), .val (.ref w_FAILED), .unset, .unset] []))
    refine Go.st (fun _ kk => XS.aloadN X28.here hx rfl (hb hby at_44) rfl rfl  kk) ?_
    show Go p e below _ (T28.setTop (mkF m 45 #[.val (.int p1), .val (.int p2), .val (.ref b3), .val (.ref w_FAILED), .unset, .unset] [(.ref b3)]))
    refine Go.st (fun _ kk => XS.iloadN X28.here hx rfl (hb hby at_45) rfl  kk) ?_
    show Go p e below _ (T28.setTop (mkF m 46 #[.val (.int p1), .val (.int p2), .val (.ref b3), .val (.ref w_FAILED), .unset, .unset] [(.int p2), (.ref b3)]))
    refine Go.st (fun _ kk => X28.ldcInt hx hown (mvT hZ (hw _ (List.mem_of_getElem? (i := 14) rfl))) (g := (mkF m 46 #[.val (.int p1), .val (.int p2), .val (.ref b3), .val (.ref w_FAILED), .unset, .unset] [(.int p2), (.ref b3)])) rfl (hb hby at_46) _ kk) ?_
    show Go p e below _ (T28.setTop (mkF m 48 #[.val (.int p1), .val (.int p2), .val (.ref b3), .val (.ref w_FAILED), .unset, .unset] [(.int (2147483647 : Int32)), (.int p2), (.ref b3)]))
    refine Go.st (fun _ kk => XS.iand X28.here hx rfl (hb hby at_48) rfl kk) ?_
    show Go p e below _ (T28.setTop (mkF m 49 #[.val (.int p1), .val (.int p2), .val (.ref b3), .val (.ref w_FAILED), .unset, .unset] [(.int (p2 &&& (2147483647 : Int32))), (.ref b3)]))
    refine Go.st (fun _ kk => XS.iconst X28.here hx rfl (hb hby at_49) kk) ?_
    show Go p e below _ (T28.setTop (mkF m 50 #[.val (.int p1), .val (.int p2), .val (.ref b3), .val (.ref w_FAILED), .unset, .unset] [(.int (5 : Int32)), (.int (p2 &&& (2147483647 : Int32))), (.ref b3)]))
    refine Go.st (fun _ kk => iremM (g := (mkF m 50 #[.val (.int p1), .val (.int p2), .val (.ref b3), .val (.ref w_FAILED), .unset, .unset] [(.int (5 : Int32)), (.int (p2 &&& (2147483647 : Int32))), (.ref b3)])) X28 hx rfl (hb hby at_50) rfl (by decide : ¬ ((5 : Int32) = (0 : Int32))) kk) ?_
    show Go p e below _ (T28.setTop (mkF m 51 #[.val (.int p1), .val (.int p2), .val (.ref b3), .val (.ref w_FAILED), .unset, .unset] [(.int ((p2 &&& (2147483647 : Int32)) % (5 : Int32))), (.ref b3)]))
    rcases (own_k p2 : ((p2 &&& (2147483647 : Int32)) % (5 : Int32)) = (0 : Int32) ∨ ((p2 &&& (2147483647 : Int32)) % (5 : Int32)) = (1 : Int32) ∨ ((p2 &&& (2147483647 : Int32)) % (5 : Int32)) = (2 : Int32) ∨ ((p2 &&& (2147483647 : Int32)) % (5 : Int32)) = (3 : Int32) ∨ ((p2 &&& (2147483647 : Int32)) % (5 : Int32)) = (4 : Int32)) with hk180 | hk181 | hk182 | hk183 | hk184
    · skip
      rw [hk180]
      show Go p e below _ (T28.setTop (mkF m 51 #[.val (.int p1), .val (.int p2), .val (.ref b3), .val (.ref w_FAILED), .unset, .unset] [(.int (0 : Int32)), (.ref b3)]))
      obtain ⟨clq185, Arq185, caq185, saq185, naq185, haq185, gaq185⟩ := id V28
      have inq185 : ¬ ((0 : Int32) < 0 ∨ clq185.slots.size ≤ ((0 : Int32)).toNatClampNeg) := inb_of saq185 ⟨by decide, by decide⟩
      have atq185 : clq185.slots[((0 : Int32)).toNatClampNeg]? = some (.ref w_REQUIRES_PAYMENT_METHOD) := haq185.at inq185 rfl
      refine Go.st (fun _ kk => X28.aaload hx (j := (0 : Int32)) (v := (.ref w_REQUIRES_PAYMENT_METHOD)) (by rw [e28]; exact Arq185.1) (State.isArrayOf_alike hZ.alike Arq185.2.1) rfl Arq185.2.2 inq185 atq185 (g := (mkF m 51 #[.val (.int p1), .val (.int p2), .val (.ref b3), .val (.ref w_FAILED), .unset, .unset] [(.int (0 : Int32)), (.ref b3)])) rfl rfl (hb hby at_51) _ kk) ?_
      show Go p e below _ (T28.setTop (mkF m 52 #[.val (.int p1), .val (.int p2), .val (.ref b3), .val (.ref w_FAILED), .unset, .unset] [(.ref w_REQUIRES_PAYMENT_METHOD)]))
      refine Go.st (fun _ kk => XS.astore X28.here hx rfl (hb hby at_52) rfl rfl (l' := #[.val (.int p1), .val (.int p2), .val (.ref b3), .val (.ref w_FAILED), .val (.ref w_REQUIRES_PAYMENT_METHOD), .unset]) rfl kk) ?_
      show Go p e below _ (T28.setTop (mkF m 54 #[.val (.int p1), .val (.int p2), .val (.ref b3), .val (.ref w_FAILED), .val (.ref w_REQUIRES_PAYMENT_METHOD), .unset] []))
      refine Go.st (fun _ kk => XS.aloadN X28.here hx rfl (hb hby at_54) rfl rfl  kk) ?_
      show Go p e below _ (T28.setTop (mkF m 55 #[.val (.int p1), .val (.int p2), .val (.ref b3), .val (.ref w_FAILED), .val (.ref w_REQUIRES_PAYMENT_METHOD), .unset] [(.ref w_FAILED)]))
      have f_186 := (Sta.wr W28 (Sta.wr W23 (Sta.wr W18 f_14)))
      obtain ⟨T187, X187, e187, st187⟩ := getS2 X28 hx hZ hown (host := "") (Or.inl (hw _ (List.mem_of_getElem? (i := 8) rfl))) Via.refl e28 f_186 (g := (mkF m 55 #[.val (.int p1), .val (.int p2), .val (.ref b3), .val (.ref w_FAILED), .val (.ref w_REQUIRES_PAYMENT_METHOD), .unset] [(.ref w_FAILED)])) rfl (hb hby at_55)
      refine Go.st st187 ?_
      show Go p e below _ (T187.setTop (mkF m 58 #[.val (.int p1), .val (.int p2), .val (.ref b3), .val (.ref w_FAILED), .val (.ref w_REQUIRES_PAYMENT_METHOD), .unset] [(.ref w_SUCCEEDED), (.ref w_FAILED)]))
      refine Go.st (fun _ kk => Jvm.RoadKit.acmp (g := (mkF m 58 #[.val (.int p1), .val (.int p2), .val (.ref b3), .val (.ref w_FAILED), .val (.ref w_REQUIRES_PAYMENT_METHOD), .unset] [(.ref w_SUCCEEDED), (.ref w_FAILED)])) X187 hx rfl rfl rfl (pc0 := 58) (pc' := 79) (same := false) rfl (hb hby at_58) rfl (decide_eq_false fun q => (Fld.ne F_rank_w_FAILED F_rank_w_SUCCEEDED (by decide)) (Value.ref.inj q)) (by decide) (by decide) kk) ?_
      show Go p e below _ (T187.setTop (mkF m 79 #[.val (.int p1), .val (.int p2), .val (.ref b3), .val (.ref w_FAILED), .val (.ref w_REQUIRES_PAYMENT_METHOD), .unset] []))
      refine Go.st (fun _ kk => XS.aloadN X187.here hx rfl (hb hby at_79) rfl rfl  kk) ?_
      show Go p e below _ (T187.setTop (mkF m 80 #[.val (.int p1), .val (.int p2), .val (.ref b3), .val (.ref w_FAILED), .val (.ref w_REQUIRES_PAYMENT_METHOD), .unset] [(.ref w_FAILED)]))
      have f_188 := (Sta.wr W28 f_24)
      obtain ⟨T189, X189, e189, st189⟩ := getS2 X187 hx hZ hown (host := "") (Or.inl (hw _ (List.mem_of_getElem? (i := 12) rfl))) Via.refl e187 f_188 (g := (mkF m 80 #[.val (.int p1), .val (.int p2), .val (.ref b3), .val (.ref w_FAILED), .val (.ref w_REQUIRES_PAYMENT_METHOD), .unset] [(.ref w_FAILED)])) rfl (hb hby at_80)
      refine Go.st st189 ?_
      show Go p e below _ (T189.setTop (mkF m 83 #[.val (.int p1), .val (.int p2), .val (.ref b3), .val (.ref w_FAILED), .val (.ref w_REQUIRES_PAYMENT_METHOD), .unset] [(.ref w_CANCELED), (.ref w_FAILED)]))
      refine Go.st (fun _ kk => Jvm.RoadKit.acmp (g := (mkF m 83 #[.val (.int p1), .val (.int p2), .val (.ref b3), .val (.ref w_FAILED), .val (.ref w_REQUIRES_PAYMENT_METHOD), .unset] [(.ref w_CANCELED), (.ref w_FAILED)])) X189 hx rfl rfl rfl (pc0 := 83) (pc' := 112) (same := false) rfl (hb hby at_83) rfl (decide_eq_false fun q => (Fld.ne F_rank_w_FAILED F_rank_w_CANCELED (by decide)) (Value.ref.inj q)) (by decide) (by decide) kk) ?_
      show Go p e below _ (T189.setTop (mkF m 112 #[.val (.int p1), .val (.int p2), .val (.ref b3), .val (.ref w_FAILED), .val (.ref w_REQUIRES_PAYMENT_METHOD), .unset] []))
      refine Go.st (fun _ kk => XS.iconst X189.here hx rfl (hb hby at_112) kk) ?_
      show Go p e below _ (T189.setTop (mkF m 113 #[.val (.int p1), .val (.int p2), .val (.ref b3), .val (.ref w_FAILED), .val (.ref w_REQUIRES_PAYMENT_METHOD), .unset] [(.int (0 : Int32))]))
      refine Go.st (fun _ kk => XS.istore X189.here hx rfl (hb hby at_113) rfl (l' := #[.val (.int p1), .val (.int p2), .val (.ref b3), .val (.ref w_FAILED), .val (.ref w_REQUIRES_PAYMENT_METHOD), .val (.int (0 : Int32))]) rfl kk) ?_
      show Go p e below _ (T189.setTop (mkF m 115 #[.val (.int p1), .val (.int p2), .val (.ref b3), .val (.ref w_FAILED), .val (.ref w_REQUIRES_PAYMENT_METHOD), .val (.int (0 : Int32))] []))
      refine Go.st (fun _ kk => XS.aloadN X189.here hx rfl (hb hby at_115) rfl rfl  kk) ?_
      show Go p e below _ (T189.setTop (mkF m 116 #[.val (.int p1), .val (.int p2), .val (.ref b3), .val (.ref w_FAILED), .val (.ref w_REQUIRES_PAYMENT_METHOD), .val (.int (0 : Int32))] [(.ref w_FAILED)]))
      refine Go.st (fun _ kk => XS.aload X189.here hx rfl (hb hby at_116) rfl rfl  kk) ?_
      show Go p e below _ (T189.setTop (mkF m 118 #[.val (.int p1), .val (.int p2), .val (.ref b3), .val (.ref w_FAILED), .val (.ref w_REQUIRES_PAYMENT_METHOD), .val (.int (0 : Int32))] [(.ref w_REQUIRES_PAYMENT_METHOD), (.ref w_FAILED)]))
      have f_190 := (Exa.wr W28 (Exa.wr W23 f_22))
      have f_191 := (F_rank_w_FAILED.keep K28 nin0)
      have f_192 := (F_rank_w_REQUIRES_PAYMENT_METHOD.keep K28 nin0)
      obtain ⟨cq193, kq193, q193a, q193b, q193c⟩ := isOf hZ e189 f_190
      obtain ⟨_, _, ⟨T193, L193, k193, n193⟩, -, X193, ⟨Lc193, hQ193, l193, y193, z193⟩, st193⟩ := X189.virtualBack hx (y := (⟨"com/example/charge_ledger/chargeledger/model/PaymentStatus", "outranks", "(Lcom/example/charge_ledger/chargeledger/model/PaymentStatus;)Z"⟩ : MethodName)) (z := (⟨"com/example/charge_ledger/chargeledger/model/PaymentStatus", "outranks", "(Lcom/example/charge_ledger/chargeledger/model/PaymentStatus;)Z"⟩ : MethodName)) hown (mvT hZ (hw _ (List.mem_of_getElem? (i := 15) rfl))) (mvT hZ (hw _ (List.mem_of_getElem? (i := 16) rfl))) (notFace_of_selects (args := #[]) (mvT hZ (hw _ (List.mem_of_getElem? (i := 18) rfl)))) (mvT hZ (hw _ (List.mem_of_getElem? (i := 18) rfl))) (mvT hZ (hw _ (List.mem_of_getElem? (i := 17) rfl))) (by decide) (backOf (W := 0) (rm1_f l Z a0 hw [] w_FAILED w_REQUIRES_PAYMENT_METHOD (0 : Int32) (0 : Int32) h28 n0 (Nat.le_trans Z0 K28.1) f_191 f_192 (by decide : ¬ ((0 : Int32) < (0 : Int32)))) hZ (hw _ (List.mem_of_getElem? (i := 19) rfl)) (hw _ (List.mem_of_getElem? (i := 3) rfl)) (by decide) (by decide)) q193a q193c (g := (mkF m 118 #[.val (.int p1), .val (.int p2), .val (.ref b3), .val (.ref w_FAILED), .val (.ref w_REQUIRES_PAYMENT_METHOD), .val (.int (0 : Int32))] [(.ref w_REQUIRES_PAYMENT_METHOD), (.ref w_FAILED)])) rfl (by rw [hml]; rfl) (Steps.refl _) (argsL := [(.ref w_REQUIRES_PAYMENT_METHOD)]) (rest := []) (lenOf pd_0 rfl) rfl (by show 2 * 0 + _ ≤ _; exact Nat.le_of_eq rfl) (hb hby at_118) (fun _ _ => ⟨rfl, e189, (by decide : 1 + 0 ≤ _), (by decide : 5 + 0 ≤ _)⟩)
      dsimp only [Pt.U, Pt.locs, Pt.cells, Pt.slots] at X193 l193 y193 z193 st193 hQ193
      subst l193 y193 z193
      obtain ⟨rfl, N193q, eq193⟩ := hQ193
      have N193 := Fr.app N28 N193q
      refine Go.tr st193 ?_
      show Go p e below _ (T193.setTop (mkF m 121 #[.val (.int p1), .val (.int p2), .val (.ref b3), .val (.ref w_FAILED), .val (.ref w_REQUIRES_PAYMENT_METHOD), .val (.int (0 : Int32))] [(.int (0 : Int32))]))
      refine Go.st (fun _ kk => XS.iload X193.here hx rfl (hb hby at_121) rfl  kk) ?_
      show Go p e below _ (T193.setTop (mkF m 123 #[.val (.int p1), .val (.int p2), .val (.ref b3), .val (.ref w_FAILED), .val (.ref w_REQUIRES_PAYMENT_METHOD), .val (.int (0 : Int32))] [(.int (0 : Int32)), (.int (0 : Int32))]))
      refine Go.st (fun _ kk => XS.icmpNo X193.here hx rfl (hb hby at_123) rfl (teq (by decide : ((0 : Int32) = (0 : Int32)))).2 kk) ?_
      show Go p e below _ (T193.setTop (mkF m 126 #[.val (.int p1), .val (.int p2), .val (.ref b3), .val (.ref w_FAILED), .val (.ref w_REQUIRES_PAYMENT_METHOD), .val (.int (0 : Int32))] []))
      refine Go.st (fun _ kk => XS.iconst X193.here hx rfl (hb hby at_126) kk) ?_
      show Go p e below _ (T193.setTop (mkF m 127 #[.val (.int p1), .val (.int p2), .val (.ref b3), .val (.ref w_FAILED), .val (.ref w_REQUIRES_PAYMENT_METHOD), .val (.int (0 : Int32))] [(.int (1 : Int32))]))
      refine Go.st (fun _ kk => XS.goto X193.here hx rfl (pc0 := 127) (pc' := 131) rfl (hb hby at_127) (by decide) (by decide) kk) ?_
      show Go p e below _ (T193.setTop (mkF m 131 #[.val (.int p1), .val (.int p2), .val (.ref b3), .val (.ref w_FAILED), .val (.ref w_REQUIRES_PAYMENT_METHOD), .val (.int (0 : Int32))] [(.int (1 : Int32))]))
      exact Go.ret (Q := Q0 n0) X193 (v := some (.int (1 : Int32))) (fun h => by rw [Bd.returns] at h; cases h) Bd.notSynchronized (fun fs hr => retN X193 hx (t := .boolean) Bd.returns (by simp) (hb hby at_131) hr) eq193 ⟨rfl, N193⟩ (by decide) (by decide)
    · skip
      rw [hk181]
      show Go p e below _ (T28.setTop (mkF m 51 #[.val (.int p1), .val (.int p2), .val (.ref b3), .val (.ref w_FAILED), .unset, .unset] [(.int (1 : Int32)), (.ref b3)]))
      obtain ⟨clq194, Arq194, caq194, saq194, naq194, haq194, gaq194⟩ := id V28
      have inq194 : ¬ ((1 : Int32) < 0 ∨ clq194.slots.size ≤ ((1 : Int32)).toNatClampNeg) := inb_of saq194 ⟨by decide, by decide⟩
      have atq194 : clq194.slots[((1 : Int32)).toNatClampNeg]? = some (.ref w_PROCESSING) := haq194.at inq194 rfl
      refine Go.st (fun _ kk => X28.aaload hx (j := (1 : Int32)) (v := (.ref w_PROCESSING)) (by rw [e28]; exact Arq194.1) (State.isArrayOf_alike hZ.alike Arq194.2.1) rfl Arq194.2.2 inq194 atq194 (g := (mkF m 51 #[.val (.int p1), .val (.int p2), .val (.ref b3), .val (.ref w_FAILED), .unset, .unset] [(.int (1 : Int32)), (.ref b3)])) rfl rfl (hb hby at_51) _ kk) ?_
      show Go p e below _ (T28.setTop (mkF m 52 #[.val (.int p1), .val (.int p2), .val (.ref b3), .val (.ref w_FAILED), .unset, .unset] [(.ref w_PROCESSING)]))
      refine Go.st (fun _ kk => XS.astore X28.here hx rfl (hb hby at_52) rfl rfl (l' := #[.val (.int p1), .val (.int p2), .val (.ref b3), .val (.ref w_FAILED), .val (.ref w_PROCESSING), .unset]) rfl kk) ?_
      show Go p e below _ (T28.setTop (mkF m 54 #[.val (.int p1), .val (.int p2), .val (.ref b3), .val (.ref w_FAILED), .val (.ref w_PROCESSING), .unset] []))
      refine Go.st (fun _ kk => XS.aloadN X28.here hx rfl (hb hby at_54) rfl rfl  kk) ?_
      show Go p e below _ (T28.setTop (mkF m 55 #[.val (.int p1), .val (.int p2), .val (.ref b3), .val (.ref w_FAILED), .val (.ref w_PROCESSING), .unset] [(.ref w_FAILED)]))
      have f_195 := (Sta.wr W28 (Sta.wr W23 (Sta.wr W18 f_14)))
      obtain ⟨T196, X196, e196, st196⟩ := getS2 X28 hx hZ hown (host := "") (Or.inl (hw _ (List.mem_of_getElem? (i := 8) rfl))) Via.refl e28 f_195 (g := (mkF m 55 #[.val (.int p1), .val (.int p2), .val (.ref b3), .val (.ref w_FAILED), .val (.ref w_PROCESSING), .unset] [(.ref w_FAILED)])) rfl (hb hby at_55)
      refine Go.st st196 ?_
      show Go p e below _ (T196.setTop (mkF m 58 #[.val (.int p1), .val (.int p2), .val (.ref b3), .val (.ref w_FAILED), .val (.ref w_PROCESSING), .unset] [(.ref w_SUCCEEDED), (.ref w_FAILED)]))
      refine Go.st (fun _ kk => Jvm.RoadKit.acmp (g := (mkF m 58 #[.val (.int p1), .val (.int p2), .val (.ref b3), .val (.ref w_FAILED), .val (.ref w_PROCESSING), .unset] [(.ref w_SUCCEEDED), (.ref w_FAILED)])) X196 hx rfl rfl rfl (pc0 := 58) (pc' := 79) (same := false) rfl (hb hby at_58) rfl (decide_eq_false fun q => (Fld.ne F_rank_w_FAILED F_rank_w_SUCCEEDED (by decide)) (Value.ref.inj q)) (by decide) (by decide) kk) ?_
      show Go p e below _ (T196.setTop (mkF m 79 #[.val (.int p1), .val (.int p2), .val (.ref b3), .val (.ref w_FAILED), .val (.ref w_PROCESSING), .unset] []))
      refine Go.st (fun _ kk => XS.aloadN X196.here hx rfl (hb hby at_79) rfl rfl  kk) ?_
      show Go p e below _ (T196.setTop (mkF m 80 #[.val (.int p1), .val (.int p2), .val (.ref b3), .val (.ref w_FAILED), .val (.ref w_PROCESSING), .unset] [(.ref w_FAILED)]))
      have f_197 := (Sta.wr W28 f_24)
      obtain ⟨T198, X198, e198, st198⟩ := getS2 X196 hx hZ hown (host := "") (Or.inl (hw _ (List.mem_of_getElem? (i := 12) rfl))) Via.refl e196 f_197 (g := (mkF m 80 #[.val (.int p1), .val (.int p2), .val (.ref b3), .val (.ref w_FAILED), .val (.ref w_PROCESSING), .unset] [(.ref w_FAILED)])) rfl (hb hby at_80)
      refine Go.st st198 ?_
      show Go p e below _ (T198.setTop (mkF m 83 #[.val (.int p1), .val (.int p2), .val (.ref b3), .val (.ref w_FAILED), .val (.ref w_PROCESSING), .unset] [(.ref w_CANCELED), (.ref w_FAILED)]))
      refine Go.st (fun _ kk => Jvm.RoadKit.acmp (g := (mkF m 83 #[.val (.int p1), .val (.int p2), .val (.ref b3), .val (.ref w_FAILED), .val (.ref w_PROCESSING), .unset] [(.ref w_CANCELED), (.ref w_FAILED)])) X198 hx rfl rfl rfl (pc0 := 83) (pc' := 112) (same := false) rfl (hb hby at_83) rfl (decide_eq_false fun q => (Fld.ne F_rank_w_FAILED F_rank_w_CANCELED (by decide)) (Value.ref.inj q)) (by decide) (by decide) kk) ?_
      show Go p e below _ (T198.setTop (mkF m 112 #[.val (.int p1), .val (.int p2), .val (.ref b3), .val (.ref w_FAILED), .val (.ref w_PROCESSING), .unset] []))
      refine Go.st (fun _ kk => XS.iconst X198.here hx rfl (hb hby at_112) kk) ?_
      show Go p e below _ (T198.setTop (mkF m 113 #[.val (.int p1), .val (.int p2), .val (.ref b3), .val (.ref w_FAILED), .val (.ref w_PROCESSING), .unset] [(.int (0 : Int32))]))
      refine Go.st (fun _ kk => XS.istore X198.here hx rfl (hb hby at_113) rfl (l' := #[.val (.int p1), .val (.int p2), .val (.ref b3), .val (.ref w_FAILED), .val (.ref w_PROCESSING), .val (.int (0 : Int32))]) rfl kk) ?_
      show Go p e below _ (T198.setTop (mkF m 115 #[.val (.int p1), .val (.int p2), .val (.ref b3), .val (.ref w_FAILED), .val (.ref w_PROCESSING), .val (.int (0 : Int32))] []))
      refine Go.st (fun _ kk => XS.aloadN X198.here hx rfl (hb hby at_115) rfl rfl  kk) ?_
      show Go p e below _ (T198.setTop (mkF m 116 #[.val (.int p1), .val (.int p2), .val (.ref b3), .val (.ref w_FAILED), .val (.ref w_PROCESSING), .val (.int (0 : Int32))] [(.ref w_FAILED)]))
      refine Go.st (fun _ kk => XS.aload X198.here hx rfl (hb hby at_116) rfl rfl  kk) ?_
      show Go p e below _ (T198.setTop (mkF m 118 #[.val (.int p1), .val (.int p2), .val (.ref b3), .val (.ref w_FAILED), .val (.ref w_PROCESSING), .val (.int (0 : Int32))] [(.ref w_PROCESSING), (.ref w_FAILED)]))
      have f_199 := (Exa.wr W28 (Exa.wr W23 f_22))
      have f_200 := (F_rank_w_FAILED.keep K28 nin0)
      have f_201 := (F_rank_w_PROCESSING.keep K28 nin0)
      obtain ⟨cq202, kq202, q202a, q202b, q202c⟩ := isOf hZ e198 f_199
      obtain ⟨_, _, ⟨T202, L202, k202, n202⟩, -, X202, ⟨Lc202, hQ202, l202, y202, z202⟩, st202⟩ := X198.virtualBack hx (y := (⟨"com/example/charge_ledger/chargeledger/model/PaymentStatus", "outranks", "(Lcom/example/charge_ledger/chargeledger/model/PaymentStatus;)Z"⟩ : MethodName)) (z := (⟨"com/example/charge_ledger/chargeledger/model/PaymentStatus", "outranks", "(Lcom/example/charge_ledger/chargeledger/model/PaymentStatus;)Z"⟩ : MethodName)) hown (mvT hZ (hw _ (List.mem_of_getElem? (i := 15) rfl))) (mvT hZ (hw _ (List.mem_of_getElem? (i := 16) rfl))) (notFace_of_selects (args := #[]) (mvT hZ (hw _ (List.mem_of_getElem? (i := 18) rfl)))) (mvT hZ (hw _ (List.mem_of_getElem? (i := 18) rfl))) (mvT hZ (hw _ (List.mem_of_getElem? (i := 17) rfl))) (by decide) (backOf (W := 0) (rm1_f l Z a0 hw [] w_FAILED w_PROCESSING (0 : Int32) (0 : Int32) h28 n0 (Nat.le_trans Z0 K28.1) f_200 f_201 (by decide : ¬ ((0 : Int32) < (0 : Int32)))) hZ (hw _ (List.mem_of_getElem? (i := 19) rfl)) (hw _ (List.mem_of_getElem? (i := 3) rfl)) (by decide) (by decide)) q202a q202c (g := (mkF m 118 #[.val (.int p1), .val (.int p2), .val (.ref b3), .val (.ref w_FAILED), .val (.ref w_PROCESSING), .val (.int (0 : Int32))] [(.ref w_PROCESSING), (.ref w_FAILED)])) rfl (by rw [hml]; rfl) (Steps.refl _) (argsL := [(.ref w_PROCESSING)]) (rest := []) (lenOf pd_0 rfl) rfl (by show 2 * 0 + _ ≤ _; exact Nat.le_of_eq rfl) (hb hby at_118) (fun _ _ => ⟨rfl, e198, (by decide : 1 + 0 ≤ _), (by decide : 5 + 0 ≤ _)⟩)
      dsimp only [Pt.U, Pt.locs, Pt.cells, Pt.slots] at X202 l202 y202 z202 st202 hQ202
      subst l202 y202 z202
      obtain ⟨rfl, N202q, eq202⟩ := hQ202
      have N202 := Fr.app N28 N202q
      refine Go.tr st202 ?_
      show Go p e below _ (T202.setTop (mkF m 121 #[.val (.int p1), .val (.int p2), .val (.ref b3), .val (.ref w_FAILED), .val (.ref w_PROCESSING), .val (.int (0 : Int32))] [(.int (0 : Int32))]))
      refine Go.st (fun _ kk => XS.iload X202.here hx rfl (hb hby at_121) rfl  kk) ?_
      show Go p e below _ (T202.setTop (mkF m 123 #[.val (.int p1), .val (.int p2), .val (.ref b3), .val (.ref w_FAILED), .val (.ref w_PROCESSING), .val (.int (0 : Int32))] [(.int (0 : Int32)), (.int (0 : Int32))]))
      refine Go.st (fun _ kk => XS.icmpNo X202.here hx rfl (hb hby at_123) rfl (teq (by decide : ((0 : Int32) = (0 : Int32)))).2 kk) ?_
      show Go p e below _ (T202.setTop (mkF m 126 #[.val (.int p1), .val (.int p2), .val (.ref b3), .val (.ref w_FAILED), .val (.ref w_PROCESSING), .val (.int (0 : Int32))] []))
      refine Go.st (fun _ kk => XS.iconst X202.here hx rfl (hb hby at_126) kk) ?_
      show Go p e below _ (T202.setTop (mkF m 127 #[.val (.int p1), .val (.int p2), .val (.ref b3), .val (.ref w_FAILED), .val (.ref w_PROCESSING), .val (.int (0 : Int32))] [(.int (1 : Int32))]))
      refine Go.st (fun _ kk => XS.goto X202.here hx rfl (pc0 := 127) (pc' := 131) rfl (hb hby at_127) (by decide) (by decide) kk) ?_
      show Go p e below _ (T202.setTop (mkF m 131 #[.val (.int p1), .val (.int p2), .val (.ref b3), .val (.ref w_FAILED), .val (.ref w_PROCESSING), .val (.int (0 : Int32))] [(.int (1 : Int32))]))
      exact Go.ret (Q := Q0 n0) X202 (v := some (.int (1 : Int32))) (fun h => by rw [Bd.returns] at h; cases h) Bd.notSynchronized (fun fs hr => retN X202 hx (t := .boolean) Bd.returns (by simp) (hb hby at_131) hr) eq202 ⟨rfl, N202⟩ (by decide) (by decide)
    · skip
      rw [hk182]
      show Go p e below _ (T28.setTop (mkF m 51 #[.val (.int p1), .val (.int p2), .val (.ref b3), .val (.ref w_FAILED), .unset, .unset] [(.int (2 : Int32)), (.ref b3)]))
      obtain ⟨clq203, Arq203, caq203, saq203, naq203, haq203, gaq203⟩ := id V28
      have inq203 : ¬ ((2 : Int32) < 0 ∨ clq203.slots.size ≤ ((2 : Int32)).toNatClampNeg) := inb_of saq203 ⟨by decide, by decide⟩
      have atq203 : clq203.slots[((2 : Int32)).toNatClampNeg]? = some (.ref w_SUCCEEDED) := haq203.at inq203 rfl
      refine Go.st (fun _ kk => X28.aaload hx (j := (2 : Int32)) (v := (.ref w_SUCCEEDED)) (by rw [e28]; exact Arq203.1) (State.isArrayOf_alike hZ.alike Arq203.2.1) rfl Arq203.2.2 inq203 atq203 (g := (mkF m 51 #[.val (.int p1), .val (.int p2), .val (.ref b3), .val (.ref w_FAILED), .unset, .unset] [(.int (2 : Int32)), (.ref b3)])) rfl rfl (hb hby at_51) _ kk) ?_
      show Go p e below _ (T28.setTop (mkF m 52 #[.val (.int p1), .val (.int p2), .val (.ref b3), .val (.ref w_FAILED), .unset, .unset] [(.ref w_SUCCEEDED)]))
      refine Go.st (fun _ kk => XS.astore X28.here hx rfl (hb hby at_52) rfl rfl (l' := #[.val (.int p1), .val (.int p2), .val (.ref b3), .val (.ref w_FAILED), .val (.ref w_SUCCEEDED), .unset]) rfl kk) ?_
      show Go p e below _ (T28.setTop (mkF m 54 #[.val (.int p1), .val (.int p2), .val (.ref b3), .val (.ref w_FAILED), .val (.ref w_SUCCEEDED), .unset] []))
      refine Go.st (fun _ kk => XS.aloadN X28.here hx rfl (hb hby at_54) rfl rfl  kk) ?_
      show Go p e below _ (T28.setTop (mkF m 55 #[.val (.int p1), .val (.int p2), .val (.ref b3), .val (.ref w_FAILED), .val (.ref w_SUCCEEDED), .unset] [(.ref w_FAILED)]))
      have f_204 := (Sta.wr W28 (Sta.wr W23 (Sta.wr W18 f_14)))
      obtain ⟨T205, X205, e205, st205⟩ := getS2 X28 hx hZ hown (host := "") (Or.inl (hw _ (List.mem_of_getElem? (i := 8) rfl))) Via.refl e28 f_204 (g := (mkF m 55 #[.val (.int p1), .val (.int p2), .val (.ref b3), .val (.ref w_FAILED), .val (.ref w_SUCCEEDED), .unset] [(.ref w_FAILED)])) rfl (hb hby at_55)
      refine Go.st st205 ?_
      show Go p e below _ (T205.setTop (mkF m 58 #[.val (.int p1), .val (.int p2), .val (.ref b3), .val (.ref w_FAILED), .val (.ref w_SUCCEEDED), .unset] [(.ref w_SUCCEEDED), (.ref w_FAILED)]))
      refine Go.st (fun _ kk => Jvm.RoadKit.acmp (g := (mkF m 58 #[.val (.int p1), .val (.int p2), .val (.ref b3), .val (.ref w_FAILED), .val (.ref w_SUCCEEDED), .unset] [(.ref w_SUCCEEDED), (.ref w_FAILED)])) X205 hx rfl rfl rfl (pc0 := 58) (pc' := 79) (same := false) rfl (hb hby at_58) rfl (decide_eq_false fun q => (Fld.ne F_rank_w_FAILED F_rank_w_SUCCEEDED (by decide)) (Value.ref.inj q)) (by decide) (by decide) kk) ?_
      show Go p e below _ (T205.setTop (mkF m 79 #[.val (.int p1), .val (.int p2), .val (.ref b3), .val (.ref w_FAILED), .val (.ref w_SUCCEEDED), .unset] []))
      refine Go.st (fun _ kk => XS.aloadN X205.here hx rfl (hb hby at_79) rfl rfl  kk) ?_
      show Go p e below _ (T205.setTop (mkF m 80 #[.val (.int p1), .val (.int p2), .val (.ref b3), .val (.ref w_FAILED), .val (.ref w_SUCCEEDED), .unset] [(.ref w_FAILED)]))
      have f_206 := (Sta.wr W28 f_24)
      obtain ⟨T207, X207, e207, st207⟩ := getS2 X205 hx hZ hown (host := "") (Or.inl (hw _ (List.mem_of_getElem? (i := 12) rfl))) Via.refl e205 f_206 (g := (mkF m 80 #[.val (.int p1), .val (.int p2), .val (.ref b3), .val (.ref w_FAILED), .val (.ref w_SUCCEEDED), .unset] [(.ref w_FAILED)])) rfl (hb hby at_80)
      refine Go.st st207 ?_
      show Go p e below _ (T207.setTop (mkF m 83 #[.val (.int p1), .val (.int p2), .val (.ref b3), .val (.ref w_FAILED), .val (.ref w_SUCCEEDED), .unset] [(.ref w_CANCELED), (.ref w_FAILED)]))
      refine Go.st (fun _ kk => Jvm.RoadKit.acmp (g := (mkF m 83 #[.val (.int p1), .val (.int p2), .val (.ref b3), .val (.ref w_FAILED), .val (.ref w_SUCCEEDED), .unset] [(.ref w_CANCELED), (.ref w_FAILED)])) X207 hx rfl rfl rfl (pc0 := 83) (pc' := 112) (same := false) rfl (hb hby at_83) rfl (decide_eq_false fun q => (Fld.ne F_rank_w_FAILED F_rank_w_CANCELED (by decide)) (Value.ref.inj q)) (by decide) (by decide) kk) ?_
      show Go p e below _ (T207.setTop (mkF m 112 #[.val (.int p1), .val (.int p2), .val (.ref b3), .val (.ref w_FAILED), .val (.ref w_SUCCEEDED), .unset] []))
      refine Go.st (fun _ kk => XS.iconst X207.here hx rfl (hb hby at_112) kk) ?_
      show Go p e below _ (T207.setTop (mkF m 113 #[.val (.int p1), .val (.int p2), .val (.ref b3), .val (.ref w_FAILED), .val (.ref w_SUCCEEDED), .unset] [(.int (0 : Int32))]))
      refine Go.st (fun _ kk => XS.istore X207.here hx rfl (hb hby at_113) rfl (l' := #[.val (.int p1), .val (.int p2), .val (.ref b3), .val (.ref w_FAILED), .val (.ref w_SUCCEEDED), .val (.int (0 : Int32))]) rfl kk) ?_
      show Go p e below _ (T207.setTop (mkF m 115 #[.val (.int p1), .val (.int p2), .val (.ref b3), .val (.ref w_FAILED), .val (.ref w_SUCCEEDED), .val (.int (0 : Int32))] []))
      refine Go.st (fun _ kk => XS.aloadN X207.here hx rfl (hb hby at_115) rfl rfl  kk) ?_
      show Go p e below _ (T207.setTop (mkF m 116 #[.val (.int p1), .val (.int p2), .val (.ref b3), .val (.ref w_FAILED), .val (.ref w_SUCCEEDED), .val (.int (0 : Int32))] [(.ref w_FAILED)]))
      refine Go.st (fun _ kk => XS.aload X207.here hx rfl (hb hby at_116) rfl rfl  kk) ?_
      show Go p e below _ (T207.setTop (mkF m 118 #[.val (.int p1), .val (.int p2), .val (.ref b3), .val (.ref w_FAILED), .val (.ref w_SUCCEEDED), .val (.int (0 : Int32))] [(.ref w_SUCCEEDED), (.ref w_FAILED)]))
      have f_208 := (Exa.wr W28 (Exa.wr W23 f_22))
      have f_209 := (F_rank_w_FAILED.keep K28 nin0)
      have f_210 := (F_rank_w_SUCCEEDED.keep K28 nin0)
      obtain ⟨cq211, kq211, q211a, q211b, q211c⟩ := isOf hZ e207 f_208
      obtain ⟨_, _, ⟨T211, L211, k211, n211⟩, -, X211, ⟨Lc211, hQ211, l211, y211, z211⟩, st211⟩ := X207.virtualBack hx (y := (⟨"com/example/charge_ledger/chargeledger/model/PaymentStatus", "outranks", "(Lcom/example/charge_ledger/chargeledger/model/PaymentStatus;)Z"⟩ : MethodName)) (z := (⟨"com/example/charge_ledger/chargeledger/model/PaymentStatus", "outranks", "(Lcom/example/charge_ledger/chargeledger/model/PaymentStatus;)Z"⟩ : MethodName)) hown (mvT hZ (hw _ (List.mem_of_getElem? (i := 15) rfl))) (mvT hZ (hw _ (List.mem_of_getElem? (i := 16) rfl))) (notFace_of_selects (args := #[]) (mvT hZ (hw _ (List.mem_of_getElem? (i := 18) rfl)))) (mvT hZ (hw _ (List.mem_of_getElem? (i := 18) rfl))) (mvT hZ (hw _ (List.mem_of_getElem? (i := 17) rfl))) (by decide) (backOf (W := 0) (rm1_f l Z a0 hw [] w_FAILED w_SUCCEEDED (0 : Int32) (2 : Int32) h28 n0 (Nat.le_trans Z0 K28.1) f_209 f_210 (by decide : ¬ ((2 : Int32) < (0 : Int32)))) hZ (hw _ (List.mem_of_getElem? (i := 19) rfl)) (hw _ (List.mem_of_getElem? (i := 3) rfl)) (by decide) (by decide)) q211a q211c (g := (mkF m 118 #[.val (.int p1), .val (.int p2), .val (.ref b3), .val (.ref w_FAILED), .val (.ref w_SUCCEEDED), .val (.int (0 : Int32))] [(.ref w_SUCCEEDED), (.ref w_FAILED)])) rfl (by rw [hml]; rfl) (Steps.refl _) (argsL := [(.ref w_SUCCEEDED)]) (rest := []) (lenOf pd_0 rfl) rfl (by show 2 * 0 + _ ≤ _; exact Nat.le_of_eq rfl) (hb hby at_118) (fun _ _ => ⟨rfl, e207, (by decide : 1 + 0 ≤ _), (by decide : 5 + 0 ≤ _)⟩)
      dsimp only [Pt.U, Pt.locs, Pt.cells, Pt.slots] at X211 l211 y211 z211 st211 hQ211
      subst l211 y211 z211
      obtain ⟨rfl, N211q, eq211⟩ := hQ211
      have N211 := Fr.app N28 N211q
      refine Go.tr st211 ?_
      show Go p e below _ (T211.setTop (mkF m 121 #[.val (.int p1), .val (.int p2), .val (.ref b3), .val (.ref w_FAILED), .val (.ref w_SUCCEEDED), .val (.int (0 : Int32))] [(.int (0 : Int32))]))
      refine Go.st (fun _ kk => XS.iload X211.here hx rfl (hb hby at_121) rfl  kk) ?_
      show Go p e below _ (T211.setTop (mkF m 123 #[.val (.int p1), .val (.int p2), .val (.ref b3), .val (.ref w_FAILED), .val (.ref w_SUCCEEDED), .val (.int (0 : Int32))] [(.int (0 : Int32)), (.int (0 : Int32))]))
      refine Go.st (fun _ kk => XS.icmpNo X211.here hx rfl (hb hby at_123) rfl (teq (by decide : ((0 : Int32) = (0 : Int32)))).2 kk) ?_
      show Go p e below _ (T211.setTop (mkF m 126 #[.val (.int p1), .val (.int p2), .val (.ref b3), .val (.ref w_FAILED), .val (.ref w_SUCCEEDED), .val (.int (0 : Int32))] []))
      refine Go.st (fun _ kk => XS.iconst X211.here hx rfl (hb hby at_126) kk) ?_
      show Go p e below _ (T211.setTop (mkF m 127 #[.val (.int p1), .val (.int p2), .val (.ref b3), .val (.ref w_FAILED), .val (.ref w_SUCCEEDED), .val (.int (0 : Int32))] [(.int (1 : Int32))]))
      refine Go.st (fun _ kk => XS.goto X211.here hx rfl (pc0 := 127) (pc' := 131) rfl (hb hby at_127) (by decide) (by decide) kk) ?_
      show Go p e below _ (T211.setTop (mkF m 131 #[.val (.int p1), .val (.int p2), .val (.ref b3), .val (.ref w_FAILED), .val (.ref w_SUCCEEDED), .val (.int (0 : Int32))] [(.int (1 : Int32))]))
      exact Go.ret (Q := Q0 n0) X211 (v := some (.int (1 : Int32))) (fun h => by rw [Bd.returns] at h; cases h) Bd.notSynchronized (fun fs hr => retN X211 hx (t := .boolean) Bd.returns (by simp) (hb hby at_131) hr) eq211 ⟨rfl, N211⟩ (by decide) (by decide)
    · skip
      rw [hk183]
      show Go p e below _ (T28.setTop (mkF m 51 #[.val (.int p1), .val (.int p2), .val (.ref b3), .val (.ref w_FAILED), .unset, .unset] [(.int (3 : Int32)), (.ref b3)]))
      obtain ⟨clq212, Arq212, caq212, saq212, naq212, haq212, gaq212⟩ := id V28
      have inq212 : ¬ ((3 : Int32) < 0 ∨ clq212.slots.size ≤ ((3 : Int32)).toNatClampNeg) := inb_of saq212 ⟨by decide, by decide⟩
      have atq212 : clq212.slots[((3 : Int32)).toNatClampNeg]? = some (.ref w_FAILED) := haq212.at inq212 rfl
      refine Go.st (fun _ kk => X28.aaload hx (j := (3 : Int32)) (v := (.ref w_FAILED)) (by rw [e28]; exact Arq212.1) (State.isArrayOf_alike hZ.alike Arq212.2.1) rfl Arq212.2.2 inq212 atq212 (g := (mkF m 51 #[.val (.int p1), .val (.int p2), .val (.ref b3), .val (.ref w_FAILED), .unset, .unset] [(.int (3 : Int32)), (.ref b3)])) rfl rfl (hb hby at_51) _ kk) ?_
      show Go p e below _ (T28.setTop (mkF m 52 #[.val (.int p1), .val (.int p2), .val (.ref b3), .val (.ref w_FAILED), .unset, .unset] [(.ref w_FAILED)]))
      refine Go.st (fun _ kk => XS.astore X28.here hx rfl (hb hby at_52) rfl rfl (l' := #[.val (.int p1), .val (.int p2), .val (.ref b3), .val (.ref w_FAILED), .val (.ref w_FAILED), .unset]) rfl kk) ?_
      show Go p e below _ (T28.setTop (mkF m 54 #[.val (.int p1), .val (.int p2), .val (.ref b3), .val (.ref w_FAILED), .val (.ref w_FAILED), .unset] []))
      refine Go.st (fun _ kk => XS.aloadN X28.here hx rfl (hb hby at_54) rfl rfl  kk) ?_
      show Go p e below _ (T28.setTop (mkF m 55 #[.val (.int p1), .val (.int p2), .val (.ref b3), .val (.ref w_FAILED), .val (.ref w_FAILED), .unset] [(.ref w_FAILED)]))
      have f_213 := (Sta.wr W28 (Sta.wr W23 (Sta.wr W18 f_14)))
      obtain ⟨T214, X214, e214, st214⟩ := getS2 X28 hx hZ hown (host := "") (Or.inl (hw _ (List.mem_of_getElem? (i := 8) rfl))) Via.refl e28 f_213 (g := (mkF m 55 #[.val (.int p1), .val (.int p2), .val (.ref b3), .val (.ref w_FAILED), .val (.ref w_FAILED), .unset] [(.ref w_FAILED)])) rfl (hb hby at_55)
      refine Go.st st214 ?_
      show Go p e below _ (T214.setTop (mkF m 58 #[.val (.int p1), .val (.int p2), .val (.ref b3), .val (.ref w_FAILED), .val (.ref w_FAILED), .unset] [(.ref w_SUCCEEDED), (.ref w_FAILED)]))
      refine Go.st (fun _ kk => Jvm.RoadKit.acmp (g := (mkF m 58 #[.val (.int p1), .val (.int p2), .val (.ref b3), .val (.ref w_FAILED), .val (.ref w_FAILED), .unset] [(.ref w_SUCCEEDED), (.ref w_FAILED)])) X214 hx rfl rfl rfl (pc0 := 58) (pc' := 79) (same := false) rfl (hb hby at_58) rfl (decide_eq_false fun q => (Fld.ne F_rank_w_FAILED F_rank_w_SUCCEEDED (by decide)) (Value.ref.inj q)) (by decide) (by decide) kk) ?_
      show Go p e below _ (T214.setTop (mkF m 79 #[.val (.int p1), .val (.int p2), .val (.ref b3), .val (.ref w_FAILED), .val (.ref w_FAILED), .unset] []))
      refine Go.st (fun _ kk => XS.aloadN X214.here hx rfl (hb hby at_79) rfl rfl  kk) ?_
      show Go p e below _ (T214.setTop (mkF m 80 #[.val (.int p1), .val (.int p2), .val (.ref b3), .val (.ref w_FAILED), .val (.ref w_FAILED), .unset] [(.ref w_FAILED)]))
      have f_215 := (Sta.wr W28 f_24)
      obtain ⟨T216, X216, e216, st216⟩ := getS2 X214 hx hZ hown (host := "") (Or.inl (hw _ (List.mem_of_getElem? (i := 12) rfl))) Via.refl e214 f_215 (g := (mkF m 80 #[.val (.int p1), .val (.int p2), .val (.ref b3), .val (.ref w_FAILED), .val (.ref w_FAILED), .unset] [(.ref w_FAILED)])) rfl (hb hby at_80)
      refine Go.st st216 ?_
      show Go p e below _ (T216.setTop (mkF m 83 #[.val (.int p1), .val (.int p2), .val (.ref b3), .val (.ref w_FAILED), .val (.ref w_FAILED), .unset] [(.ref w_CANCELED), (.ref w_FAILED)]))
      refine Go.st (fun _ kk => Jvm.RoadKit.acmp (g := (mkF m 83 #[.val (.int p1), .val (.int p2), .val (.ref b3), .val (.ref w_FAILED), .val (.ref w_FAILED), .unset] [(.ref w_CANCELED), (.ref w_FAILED)])) X216 hx rfl rfl rfl (pc0 := 83) (pc' := 112) (same := false) rfl (hb hby at_83) rfl (decide_eq_false fun q => (Fld.ne F_rank_w_FAILED F_rank_w_CANCELED (by decide)) (Value.ref.inj q)) (by decide) (by decide) kk) ?_
      show Go p e below _ (T216.setTop (mkF m 112 #[.val (.int p1), .val (.int p2), .val (.ref b3), .val (.ref w_FAILED), .val (.ref w_FAILED), .unset] []))
      refine Go.st (fun _ kk => XS.iconst X216.here hx rfl (hb hby at_112) kk) ?_
      show Go p e below _ (T216.setTop (mkF m 113 #[.val (.int p1), .val (.int p2), .val (.ref b3), .val (.ref w_FAILED), .val (.ref w_FAILED), .unset] [(.int (0 : Int32))]))
      refine Go.st (fun _ kk => XS.istore X216.here hx rfl (hb hby at_113) rfl (l' := #[.val (.int p1), .val (.int p2), .val (.ref b3), .val (.ref w_FAILED), .val (.ref w_FAILED), .val (.int (0 : Int32))]) rfl kk) ?_
      show Go p e below _ (T216.setTop (mkF m 115 #[.val (.int p1), .val (.int p2), .val (.ref b3), .val (.ref w_FAILED), .val (.ref w_FAILED), .val (.int (0 : Int32))] []))
      refine Go.st (fun _ kk => XS.aloadN X216.here hx rfl (hb hby at_115) rfl rfl  kk) ?_
      show Go p e below _ (T216.setTop (mkF m 116 #[.val (.int p1), .val (.int p2), .val (.ref b3), .val (.ref w_FAILED), .val (.ref w_FAILED), .val (.int (0 : Int32))] [(.ref w_FAILED)]))
      refine Go.st (fun _ kk => XS.aload X216.here hx rfl (hb hby at_116) rfl rfl  kk) ?_
      show Go p e below _ (T216.setTop (mkF m 118 #[.val (.int p1), .val (.int p2), .val (.ref b3), .val (.ref w_FAILED), .val (.ref w_FAILED), .val (.int (0 : Int32))] [(.ref w_FAILED), (.ref w_FAILED)]))
      have f_217 := (Exa.wr W28 (Exa.wr W23 f_22))
      have f_218 := (F_rank_w_FAILED.keep K28 nin0)
      obtain ⟨cq219, kq219, q219a, q219b, q219c⟩ := isOf hZ e216 f_217
      obtain ⟨_, _, ⟨T219, L219, k219, n219⟩, -, X219, ⟨Lc219, hQ219, l219, y219, z219⟩, st219⟩ := X216.virtualBack hx (y := (⟨"com/example/charge_ledger/chargeledger/model/PaymentStatus", "outranks", "(Lcom/example/charge_ledger/chargeledger/model/PaymentStatus;)Z"⟩ : MethodName)) (z := (⟨"com/example/charge_ledger/chargeledger/model/PaymentStatus", "outranks", "(Lcom/example/charge_ledger/chargeledger/model/PaymentStatus;)Z"⟩ : MethodName)) hown (mvT hZ (hw _ (List.mem_of_getElem? (i := 15) rfl))) (mvT hZ (hw _ (List.mem_of_getElem? (i := 16) rfl))) (notFace_of_selects (args := #[]) (mvT hZ (hw _ (List.mem_of_getElem? (i := 18) rfl)))) (mvT hZ (hw _ (List.mem_of_getElem? (i := 18) rfl))) (mvT hZ (hw _ (List.mem_of_getElem? (i := 17) rfl))) (by decide) (backOf (W := 0) (rm1_f l Z a0 hw [] w_FAILED w_FAILED (0 : Int32) (0 : Int32) h28 n0 (Nat.le_trans Z0 K28.1) f_218 f_218 (by decide : ¬ ((0 : Int32) < (0 : Int32)))) hZ (hw _ (List.mem_of_getElem? (i := 19) rfl)) (hw _ (List.mem_of_getElem? (i := 3) rfl)) (by decide) (by decide)) q219a q219c (g := (mkF m 118 #[.val (.int p1), .val (.int p2), .val (.ref b3), .val (.ref w_FAILED), .val (.ref w_FAILED), .val (.int (0 : Int32))] [(.ref w_FAILED), (.ref w_FAILED)])) rfl (by rw [hml]; rfl) (Steps.refl _) (argsL := [(.ref w_FAILED)]) (rest := []) (lenOf pd_0 rfl) rfl (by show 2 * 0 + _ ≤ _; exact Nat.le_of_eq rfl) (hb hby at_118) (fun _ _ => ⟨rfl, e216, (by decide : 1 + 0 ≤ _), (by decide : 5 + 0 ≤ _)⟩)
      dsimp only [Pt.U, Pt.locs, Pt.cells, Pt.slots] at X219 l219 y219 z219 st219 hQ219
      subst l219 y219 z219
      obtain ⟨rfl, N219q, eq219⟩ := hQ219
      have N219 := Fr.app N28 N219q
      refine Go.tr st219 ?_
      show Go p e below _ (T219.setTop (mkF m 121 #[.val (.int p1), .val (.int p2), .val (.ref b3), .val (.ref w_FAILED), .val (.ref w_FAILED), .val (.int (0 : Int32))] [(.int (0 : Int32))]))
      refine Go.st (fun _ kk => XS.iload X219.here hx rfl (hb hby at_121) rfl  kk) ?_
      show Go p e below _ (T219.setTop (mkF m 123 #[.val (.int p1), .val (.int p2), .val (.ref b3), .val (.ref w_FAILED), .val (.ref w_FAILED), .val (.int (0 : Int32))] [(.int (0 : Int32)), (.int (0 : Int32))]))
      refine Go.st (fun _ kk => XS.icmpNo X219.here hx rfl (hb hby at_123) rfl (teq (by decide : ((0 : Int32) = (0 : Int32)))).2 kk) ?_
      show Go p e below _ (T219.setTop (mkF m 126 #[.val (.int p1), .val (.int p2), .val (.ref b3), .val (.ref w_FAILED), .val (.ref w_FAILED), .val (.int (0 : Int32))] []))
      refine Go.st (fun _ kk => XS.iconst X219.here hx rfl (hb hby at_126) kk) ?_
      show Go p e below _ (T219.setTop (mkF m 127 #[.val (.int p1), .val (.int p2), .val (.ref b3), .val (.ref w_FAILED), .val (.ref w_FAILED), .val (.int (0 : Int32))] [(.int (1 : Int32))]))
      refine Go.st (fun _ kk => XS.goto X219.here hx rfl (pc0 := 127) (pc' := 131) rfl (hb hby at_127) (by decide) (by decide) kk) ?_
      show Go p e below _ (T219.setTop (mkF m 131 #[.val (.int p1), .val (.int p2), .val (.ref b3), .val (.ref w_FAILED), .val (.ref w_FAILED), .val (.int (0 : Int32))] [(.int (1 : Int32))]))
      exact Go.ret (Q := Q0 n0) X219 (v := some (.int (1 : Int32))) (fun h => by rw [Bd.returns] at h; cases h) Bd.notSynchronized (fun fs hr => retN X219 hx (t := .boolean) Bd.returns (by simp) (hb hby at_131) hr) eq219 ⟨rfl, N219⟩ (by decide) (by decide)
    · skip
      rw [hk184]
      show Go p e below _ (T28.setTop (mkF m 51 #[.val (.int p1), .val (.int p2), .val (.ref b3), .val (.ref w_FAILED), .unset, .unset] [(.int (4 : Int32)), (.ref b3)]))
      obtain ⟨clq220, Arq220, caq220, saq220, naq220, haq220, gaq220⟩ := id V28
      have inq220 : ¬ ((4 : Int32) < 0 ∨ clq220.slots.size ≤ ((4 : Int32)).toNatClampNeg) := inb_of saq220 ⟨by decide, by decide⟩
      have atq220 : clq220.slots[((4 : Int32)).toNatClampNeg]? = some (.ref w_CANCELED) := haq220.at inq220 rfl
      refine Go.st (fun _ kk => X28.aaload hx (j := (4 : Int32)) (v := (.ref w_CANCELED)) (by rw [e28]; exact Arq220.1) (State.isArrayOf_alike hZ.alike Arq220.2.1) rfl Arq220.2.2 inq220 atq220 (g := (mkF m 51 #[.val (.int p1), .val (.int p2), .val (.ref b3), .val (.ref w_FAILED), .unset, .unset] [(.int (4 : Int32)), (.ref b3)])) rfl rfl (hb hby at_51) _ kk) ?_
      show Go p e below _ (T28.setTop (mkF m 52 #[.val (.int p1), .val (.int p2), .val (.ref b3), .val (.ref w_FAILED), .unset, .unset] [(.ref w_CANCELED)]))
      refine Go.st (fun _ kk => XS.astore X28.here hx rfl (hb hby at_52) rfl rfl (l' := #[.val (.int p1), .val (.int p2), .val (.ref b3), .val (.ref w_FAILED), .val (.ref w_CANCELED), .unset]) rfl kk) ?_
      show Go p e below _ (T28.setTop (mkF m 54 #[.val (.int p1), .val (.int p2), .val (.ref b3), .val (.ref w_FAILED), .val (.ref w_CANCELED), .unset] []))
      refine Go.st (fun _ kk => XS.aloadN X28.here hx rfl (hb hby at_54) rfl rfl  kk) ?_
      show Go p e below _ (T28.setTop (mkF m 55 #[.val (.int p1), .val (.int p2), .val (.ref b3), .val (.ref w_FAILED), .val (.ref w_CANCELED), .unset] [(.ref w_FAILED)]))
      have f_221 := (Sta.wr W28 (Sta.wr W23 (Sta.wr W18 f_14)))
      obtain ⟨T222, X222, e222, st222⟩ := getS2 X28 hx hZ hown (host := "") (Or.inl (hw _ (List.mem_of_getElem? (i := 8) rfl))) Via.refl e28 f_221 (g := (mkF m 55 #[.val (.int p1), .val (.int p2), .val (.ref b3), .val (.ref w_FAILED), .val (.ref w_CANCELED), .unset] [(.ref w_FAILED)])) rfl (hb hby at_55)
      refine Go.st st222 ?_
      show Go p e below _ (T222.setTop (mkF m 58 #[.val (.int p1), .val (.int p2), .val (.ref b3), .val (.ref w_FAILED), .val (.ref w_CANCELED), .unset] [(.ref w_SUCCEEDED), (.ref w_FAILED)]))
      refine Go.st (fun _ kk => Jvm.RoadKit.acmp (g := (mkF m 58 #[.val (.int p1), .val (.int p2), .val (.ref b3), .val (.ref w_FAILED), .val (.ref w_CANCELED), .unset] [(.ref w_SUCCEEDED), (.ref w_FAILED)])) X222 hx rfl rfl rfl (pc0 := 58) (pc' := 79) (same := false) rfl (hb hby at_58) rfl (decide_eq_false fun q => (Fld.ne F_rank_w_FAILED F_rank_w_SUCCEEDED (by decide)) (Value.ref.inj q)) (by decide) (by decide) kk) ?_
      show Go p e below _ (T222.setTop (mkF m 79 #[.val (.int p1), .val (.int p2), .val (.ref b3), .val (.ref w_FAILED), .val (.ref w_CANCELED), .unset] []))
      refine Go.st (fun _ kk => XS.aloadN X222.here hx rfl (hb hby at_79) rfl rfl  kk) ?_
      show Go p e below _ (T222.setTop (mkF m 80 #[.val (.int p1), .val (.int p2), .val (.ref b3), .val (.ref w_FAILED), .val (.ref w_CANCELED), .unset] [(.ref w_FAILED)]))
      have f_223 := (Sta.wr W28 f_24)
      obtain ⟨T224, X224, e224, st224⟩ := getS2 X222 hx hZ hown (host := "") (Or.inl (hw _ (List.mem_of_getElem? (i := 12) rfl))) Via.refl e222 f_223 (g := (mkF m 80 #[.val (.int p1), .val (.int p2), .val (.ref b3), .val (.ref w_FAILED), .val (.ref w_CANCELED), .unset] [(.ref w_FAILED)])) rfl (hb hby at_80)
      refine Go.st st224 ?_
      show Go p e below _ (T224.setTop (mkF m 83 #[.val (.int p1), .val (.int p2), .val (.ref b3), .val (.ref w_FAILED), .val (.ref w_CANCELED), .unset] [(.ref w_CANCELED), (.ref w_FAILED)]))
      refine Go.st (fun _ kk => Jvm.RoadKit.acmp (g := (mkF m 83 #[.val (.int p1), .val (.int p2), .val (.ref b3), .val (.ref w_FAILED), .val (.ref w_CANCELED), .unset] [(.ref w_CANCELED), (.ref w_FAILED)])) X224 hx rfl rfl rfl (pc0 := 83) (pc' := 112) (same := false) rfl (hb hby at_83) rfl (decide_eq_false fun q => (Fld.ne F_rank_w_FAILED F_rank_w_CANCELED (by decide)) (Value.ref.inj q)) (by decide) (by decide) kk) ?_
      show Go p e below _ (T224.setTop (mkF m 112 #[.val (.int p1), .val (.int p2), .val (.ref b3), .val (.ref w_FAILED), .val (.ref w_CANCELED), .unset] []))
      refine Go.st (fun _ kk => XS.iconst X224.here hx rfl (hb hby at_112) kk) ?_
      show Go p e below _ (T224.setTop (mkF m 113 #[.val (.int p1), .val (.int p2), .val (.ref b3), .val (.ref w_FAILED), .val (.ref w_CANCELED), .unset] [(.int (0 : Int32))]))
      refine Go.st (fun _ kk => XS.istore X224.here hx rfl (hb hby at_113) rfl (l' := #[.val (.int p1), .val (.int p2), .val (.ref b3), .val (.ref w_FAILED), .val (.ref w_CANCELED), .val (.int (0 : Int32))]) rfl kk) ?_
      show Go p e below _ (T224.setTop (mkF m 115 #[.val (.int p1), .val (.int p2), .val (.ref b3), .val (.ref w_FAILED), .val (.ref w_CANCELED), .val (.int (0 : Int32))] []))
      refine Go.st (fun _ kk => XS.aloadN X224.here hx rfl (hb hby at_115) rfl rfl  kk) ?_
      show Go p e below _ (T224.setTop (mkF m 116 #[.val (.int p1), .val (.int p2), .val (.ref b3), .val (.ref w_FAILED), .val (.ref w_CANCELED), .val (.int (0 : Int32))] [(.ref w_FAILED)]))
      refine Go.st (fun _ kk => XS.aload X224.here hx rfl (hb hby at_116) rfl rfl  kk) ?_
      show Go p e below _ (T224.setTop (mkF m 118 #[.val (.int p1), .val (.int p2), .val (.ref b3), .val (.ref w_FAILED), .val (.ref w_CANCELED), .val (.int (0 : Int32))] [(.ref w_CANCELED), (.ref w_FAILED)]))
      have f_225 := (Exa.wr W28 (Exa.wr W23 f_22))
      have f_226 := (F_rank_w_FAILED.keep K28 nin0)
      have f_227 := (F_rank_w_CANCELED.keep K28 nin0)
      obtain ⟨cq228, kq228, q228a, q228b, q228c⟩ := isOf hZ e224 f_225
      obtain ⟨_, _, ⟨T228, L228, k228, n228⟩, -, X228, ⟨Lc228, hQ228, l228, y228, z228⟩, st228⟩ := X224.virtualBack hx (y := (⟨"com/example/charge_ledger/chargeledger/model/PaymentStatus", "outranks", "(Lcom/example/charge_ledger/chargeledger/model/PaymentStatus;)Z"⟩ : MethodName)) (z := (⟨"com/example/charge_ledger/chargeledger/model/PaymentStatus", "outranks", "(Lcom/example/charge_ledger/chargeledger/model/PaymentStatus;)Z"⟩ : MethodName)) hown (mvT hZ (hw _ (List.mem_of_getElem? (i := 15) rfl))) (mvT hZ (hw _ (List.mem_of_getElem? (i := 16) rfl))) (notFace_of_selects (args := #[]) (mvT hZ (hw _ (List.mem_of_getElem? (i := 18) rfl)))) (mvT hZ (hw _ (List.mem_of_getElem? (i := 18) rfl))) (mvT hZ (hw _ (List.mem_of_getElem? (i := 17) rfl))) (by decide) (backOf (W := 0) (rm1_f l Z a0 hw [] w_FAILED w_CANCELED (0 : Int32) (1 : Int32) h28 n0 (Nat.le_trans Z0 K28.1) f_226 f_227 (by decide : ¬ ((1 : Int32) < (0 : Int32)))) hZ (hw _ (List.mem_of_getElem? (i := 19) rfl)) (hw _ (List.mem_of_getElem? (i := 3) rfl)) (by decide) (by decide)) q228a q228c (g := (mkF m 118 #[.val (.int p1), .val (.int p2), .val (.ref b3), .val (.ref w_FAILED), .val (.ref w_CANCELED), .val (.int (0 : Int32))] [(.ref w_CANCELED), (.ref w_FAILED)])) rfl (by rw [hml]; rfl) (Steps.refl _) (argsL := [(.ref w_CANCELED)]) (rest := []) (lenOf pd_0 rfl) rfl (by show 2 * 0 + _ ≤ _; exact Nat.le_of_eq rfl) (hb hby at_118) (fun _ _ => ⟨rfl, e224, (by decide : 1 + 0 ≤ _), (by decide : 5 + 0 ≤ _)⟩)
      dsimp only [Pt.U, Pt.locs, Pt.cells, Pt.slots] at X228 l228 y228 z228 st228 hQ228
      subst l228 y228 z228
      obtain ⟨rfl, N228q, eq228⟩ := hQ228
      have N228 := Fr.app N28 N228q
      refine Go.tr st228 ?_
      show Go p e below _ (T228.setTop (mkF m 121 #[.val (.int p1), .val (.int p2), .val (.ref b3), .val (.ref w_FAILED), .val (.ref w_CANCELED), .val (.int (0 : Int32))] [(.int (0 : Int32))]))
      refine Go.st (fun _ kk => XS.iload X228.here hx rfl (hb hby at_121) rfl  kk) ?_
      show Go p e below _ (T228.setTop (mkF m 123 #[.val (.int p1), .val (.int p2), .val (.ref b3), .val (.ref w_FAILED), .val (.ref w_CANCELED), .val (.int (0 : Int32))] [(.int (0 : Int32)), (.int (0 : Int32))]))
      refine Go.st (fun _ kk => XS.icmpNo X228.here hx rfl (hb hby at_123) rfl (teq (by decide : ((0 : Int32) = (0 : Int32)))).2 kk) ?_
      show Go p e below _ (T228.setTop (mkF m 126 #[.val (.int p1), .val (.int p2), .val (.ref b3), .val (.ref w_FAILED), .val (.ref w_CANCELED), .val (.int (0 : Int32))] []))
      refine Go.st (fun _ kk => XS.iconst X228.here hx rfl (hb hby at_126) kk) ?_
      show Go p e below _ (T228.setTop (mkF m 127 #[.val (.int p1), .val (.int p2), .val (.ref b3), .val (.ref w_FAILED), .val (.ref w_CANCELED), .val (.int (0 : Int32))] [(.int (1 : Int32))]))
      refine Go.st (fun _ kk => XS.goto X228.here hx rfl (pc0 := 127) (pc' := 131) rfl (hb hby at_127) (by decide) (by decide) kk) ?_
      show Go p e below _ (T228.setTop (mkF m 131 #[.val (.int p1), .val (.int p2), .val (.ref b3), .val (.ref w_FAILED), .val (.ref w_CANCELED), .val (.int (0 : Int32))] [(.int (1 : Int32))]))
      exact Go.ret (Q := Q0 n0) X228 (v := some (.int (1 : Int32))) (fun h => by rw [Bd.returns] at h; cases h) Bd.notSynchronized (fun fs hr => retN X228 hx (t := .boolean) Bd.returns (by simp) (hb hby at_131) hr) eq228 ⟨rfl, N228⟩ (by decide) (by decide)
  · skip
    rw [hk33]
    show Go p e below _ (T28.setTop (mkF m 42 #[.val (.int p1), .val (.int p2), .val (.ref b3), .unset, .unset, .unset] [(.int (4 : Int32)), (.ref b3)]))
    obtain ⟨clq229, Arq229, caq229, saq229, naq229, haq229, gaq229⟩ := id V28
    have inq229 : ¬ ((4 : Int32) < 0 ∨ clq229.slots.size ≤ ((4 : Int32)).toNatClampNeg) := inb_of saq229 ⟨by decide, by decide⟩
    have atq229 : clq229.slots[((4 : Int32)).toNatClampNeg]? = some (.ref w_CANCELED) := haq229.at inq229 rfl
    refine Go.st (fun _ kk => X28.aaload hx (j := (4 : Int32)) (v := (.ref w_CANCELED)) (by rw [e28]; exact Arq229.1) (State.isArrayOf_alike hZ.alike Arq229.2.1) rfl Arq229.2.2 inq229 atq229 (g := (mkF m 42 #[.val (.int p1), .val (.int p2), .val (.ref b3), .unset, .unset, .unset] [(.int (4 : Int32)), (.ref b3)])) rfl rfl (hb hby at_42) _ kk) ?_
    show Go p e below _ (T28.setTop (mkF m 43 #[.val (.int p1), .val (.int p2), .val (.ref b3), .unset, .unset, .unset] [(.ref w_CANCELED)]))
    refine Go.st (fun _ kk => XS.astoreN X28.here hx rfl (hb hby at_43) rfl rfl (l' := #[.val (.int p1), .val (.int p2), .val (.ref b3), .val (.ref w_CANCELED), .unset, .unset]) rfl kk) ?_
    show Go p e below _ (T28.setTop (mkF m 44 #[.val (.int p1), .val (.int p2), .val (.ref b3), .val (.ref w_CANCELED), .unset, .unset] []))
    refine Go.st (fun _ kk => XS.aloadN X28.here hx rfl (hb hby at_44) rfl rfl  kk) ?_
    show Go p e below _ (T28.setTop (mkF m 45 #[.val (.int p1), .val (.int p2), .val (.ref b3), .val (.ref w_CANCELED), .unset, .unset] [(.ref b3)]))
    refine Go.st (fun _ kk => XS.iloadN X28.here hx rfl (hb hby at_45) rfl  kk) ?_
    show Go p e below _ (T28.setTop (mkF m 46 #[.val (.int p1), .val (.int p2), .val (.ref b3), .val (.ref w_CANCELED), .unset, .unset] [(.int p2), (.ref b3)]))
    refine Go.st (fun _ kk => X28.ldcInt hx hown (mvT hZ (hw _ (List.mem_of_getElem? (i := 14) rfl))) (g := (mkF m 46 #[.val (.int p1), .val (.int p2), .val (.ref b3), .val (.ref w_CANCELED), .unset, .unset] [(.int p2), (.ref b3)])) rfl (hb hby at_46) _ kk) ?_
    show Go p e below _ (T28.setTop (mkF m 48 #[.val (.int p1), .val (.int p2), .val (.ref b3), .val (.ref w_CANCELED), .unset, .unset] [(.int (2147483647 : Int32)), (.int p2), (.ref b3)]))
    refine Go.st (fun _ kk => XS.iand X28.here hx rfl (hb hby at_48) rfl kk) ?_
    show Go p e below _ (T28.setTop (mkF m 49 #[.val (.int p1), .val (.int p2), .val (.ref b3), .val (.ref w_CANCELED), .unset, .unset] [(.int (p2 &&& (2147483647 : Int32))), (.ref b3)]))
    refine Go.st (fun _ kk => XS.iconst X28.here hx rfl (hb hby at_49) kk) ?_
    show Go p e below _ (T28.setTop (mkF m 50 #[.val (.int p1), .val (.int p2), .val (.ref b3), .val (.ref w_CANCELED), .unset, .unset] [(.int (5 : Int32)), (.int (p2 &&& (2147483647 : Int32))), (.ref b3)]))
    refine Go.st (fun _ kk => iremM (g := (mkF m 50 #[.val (.int p1), .val (.int p2), .val (.ref b3), .val (.ref w_CANCELED), .unset, .unset] [(.int (5 : Int32)), (.int (p2 &&& (2147483647 : Int32))), (.ref b3)])) X28 hx rfl (hb hby at_50) rfl (by decide : ¬ ((5 : Int32) = (0 : Int32))) kk) ?_
    show Go p e below _ (T28.setTop (mkF m 51 #[.val (.int p1), .val (.int p2), .val (.ref b3), .val (.ref w_CANCELED), .unset, .unset] [(.int ((p2 &&& (2147483647 : Int32)) % (5 : Int32))), (.ref b3)]))
    rcases (own_k p2 : ((p2 &&& (2147483647 : Int32)) % (5 : Int32)) = (0 : Int32) ∨ ((p2 &&& (2147483647 : Int32)) % (5 : Int32)) = (1 : Int32) ∨ ((p2 &&& (2147483647 : Int32)) % (5 : Int32)) = (2 : Int32) ∨ ((p2 &&& (2147483647 : Int32)) % (5 : Int32)) = (3 : Int32) ∨ ((p2 &&& (2147483647 : Int32)) % (5 : Int32)) = (4 : Int32)) with hk230 | hk231 | hk232 | hk233 | hk234
    · skip
      rw [hk230]
      show Go p e below _ (T28.setTop (mkF m 51 #[.val (.int p1), .val (.int p2), .val (.ref b3), .val (.ref w_CANCELED), .unset, .unset] [(.int (0 : Int32)), (.ref b3)]))
      obtain ⟨clq235, Arq235, caq235, saq235, naq235, haq235, gaq235⟩ := id V28
      have inq235 : ¬ ((0 : Int32) < 0 ∨ clq235.slots.size ≤ ((0 : Int32)).toNatClampNeg) := inb_of saq235 ⟨by decide, by decide⟩
      have atq235 : clq235.slots[((0 : Int32)).toNatClampNeg]? = some (.ref w_REQUIRES_PAYMENT_METHOD) := haq235.at inq235 rfl
      refine Go.st (fun _ kk => X28.aaload hx (j := (0 : Int32)) (v := (.ref w_REQUIRES_PAYMENT_METHOD)) (by rw [e28]; exact Arq235.1) (State.isArrayOf_alike hZ.alike Arq235.2.1) rfl Arq235.2.2 inq235 atq235 (g := (mkF m 51 #[.val (.int p1), .val (.int p2), .val (.ref b3), .val (.ref w_CANCELED), .unset, .unset] [(.int (0 : Int32)), (.ref b3)])) rfl rfl (hb hby at_51) _ kk) ?_
      show Go p e below _ (T28.setTop (mkF m 52 #[.val (.int p1), .val (.int p2), .val (.ref b3), .val (.ref w_CANCELED), .unset, .unset] [(.ref w_REQUIRES_PAYMENT_METHOD)]))
      refine Go.st (fun _ kk => XS.astore X28.here hx rfl (hb hby at_52) rfl rfl (l' := #[.val (.int p1), .val (.int p2), .val (.ref b3), .val (.ref w_CANCELED), .val (.ref w_REQUIRES_PAYMENT_METHOD), .unset]) rfl kk) ?_
      show Go p e below _ (T28.setTop (mkF m 54 #[.val (.int p1), .val (.int p2), .val (.ref b3), .val (.ref w_CANCELED), .val (.ref w_REQUIRES_PAYMENT_METHOD), .unset] []))
      refine Go.st (fun _ kk => XS.aloadN X28.here hx rfl (hb hby at_54) rfl rfl  kk) ?_
      show Go p e below _ (T28.setTop (mkF m 55 #[.val (.int p1), .val (.int p2), .val (.ref b3), .val (.ref w_CANCELED), .val (.ref w_REQUIRES_PAYMENT_METHOD), .unset] [(.ref w_CANCELED)]))
      have f_236 := (Sta.wr W28 (Sta.wr W23 (Sta.wr W18 f_14)))
      obtain ⟨T237, X237, e237, st237⟩ := getS2 X28 hx hZ hown (host := "") (Or.inl (hw _ (List.mem_of_getElem? (i := 8) rfl))) Via.refl e28 f_236 (g := (mkF m 55 #[.val (.int p1), .val (.int p2), .val (.ref b3), .val (.ref w_CANCELED), .val (.ref w_REQUIRES_PAYMENT_METHOD), .unset] [(.ref w_CANCELED)])) rfl (hb hby at_55)
      refine Go.st st237 ?_
      show Go p e below _ (T237.setTop (mkF m 58 #[.val (.int p1), .val (.int p2), .val (.ref b3), .val (.ref w_CANCELED), .val (.ref w_REQUIRES_PAYMENT_METHOD), .unset] [(.ref w_SUCCEEDED), (.ref w_CANCELED)]))
      refine Go.st (fun _ kk => Jvm.RoadKit.acmp (g := (mkF m 58 #[.val (.int p1), .val (.int p2), .val (.ref b3), .val (.ref w_CANCELED), .val (.ref w_REQUIRES_PAYMENT_METHOD), .unset] [(.ref w_SUCCEEDED), (.ref w_CANCELED)])) X237 hx rfl rfl rfl (pc0 := 58) (pc' := 79) (same := false) rfl (hb hby at_58) rfl (decide_eq_false fun q => (Fld.ne F_ordinal_w_CANCELED F_ordinal_w_SUCCEEDED (by decide)) (Value.ref.inj q)) (by decide) (by decide) kk) ?_
      show Go p e below _ (T237.setTop (mkF m 79 #[.val (.int p1), .val (.int p2), .val (.ref b3), .val (.ref w_CANCELED), .val (.ref w_REQUIRES_PAYMENT_METHOD), .unset] []))
      refine Go.st (fun _ kk => XS.aloadN X237.here hx rfl (hb hby at_79) rfl rfl  kk) ?_
      show Go p e below _ (T237.setTop (mkF m 80 #[.val (.int p1), .val (.int p2), .val (.ref b3), .val (.ref w_CANCELED), .val (.ref w_REQUIRES_PAYMENT_METHOD), .unset] [(.ref w_CANCELED)]))
      have f_238 := (Sta.wr W28 f_24)
      obtain ⟨T239, X239, e239, st239⟩ := getS2 X237 hx hZ hown (host := "") (Or.inl (hw _ (List.mem_of_getElem? (i := 12) rfl))) Via.refl e237 f_238 (g := (mkF m 80 #[.val (.int p1), .val (.int p2), .val (.ref b3), .val (.ref w_CANCELED), .val (.ref w_REQUIRES_PAYMENT_METHOD), .unset] [(.ref w_CANCELED)])) rfl (hb hby at_80)
      refine Go.st st239 ?_
      show Go p e below _ (T239.setTop (mkF m 83 #[.val (.int p1), .val (.int p2), .val (.ref b3), .val (.ref w_CANCELED), .val (.ref w_REQUIRES_PAYMENT_METHOD), .unset] [(.ref w_CANCELED), (.ref w_CANCELED)]))
      refine Go.st (fun _ kk => Jvm.RoadKit.acmp (g := (mkF m 83 #[.val (.int p1), .val (.int p2), .val (.ref b3), .val (.ref w_CANCELED), .val (.ref w_REQUIRES_PAYMENT_METHOD), .unset] [(.ref w_CANCELED), (.ref w_CANCELED)])) X239 hx rfl rfl rfl (pc0 := 83) (pc' := 86) (same := true) rfl (hb hby at_83) rfl (decide_eq_true (congrArg Value.ref (rfl : w_CANCELED = w_CANCELED))) (by decide) (by decide) kk) ?_
      show Go p e below _ (T239.setTop (mkF m 86 #[.val (.int p1), .val (.int p2), .val (.ref b3), .val (.ref w_CANCELED), .val (.ref w_REQUIRES_PAYMENT_METHOD), .unset] []))
      refine Go.st (fun _ kk => XS.aload X239.here hx rfl (hb hby at_86) rfl rfl  kk) ?_
      show Go p e below _ (T239.setTop (mkF m 88 #[.val (.int p1), .val (.int p2), .val (.ref b3), .val (.ref w_CANCELED), .val (.ref w_REQUIRES_PAYMENT_METHOD), .unset] [(.ref w_REQUIRES_PAYMENT_METHOD)]))
      obtain ⟨T240, X240, e240, st240⟩ := getS2 X239 hx hZ hown (host := "") (Or.inl (hw _ (List.mem_of_getElem? (i := 8) rfl))) Via.refl e239 f_236 (g := (mkF m 88 #[.val (.int p1), .val (.int p2), .val (.ref b3), .val (.ref w_CANCELED), .val (.ref w_REQUIRES_PAYMENT_METHOD), .unset] [(.ref w_REQUIRES_PAYMENT_METHOD)])) rfl (hb hby at_88)
      refine Go.st st240 ?_
      show Go p e below _ (T240.setTop (mkF m 91 #[.val (.int p1), .val (.int p2), .val (.ref b3), .val (.ref w_CANCELED), .val (.ref w_REQUIRES_PAYMENT_METHOD), .unset] [(.ref w_SUCCEEDED), (.ref w_REQUIRES_PAYMENT_METHOD)]))
      refine Go.st (fun _ kk => Jvm.RoadKit.acmp (g := (mkF m 91 #[.val (.int p1), .val (.int p2), .val (.ref b3), .val (.ref w_CANCELED), .val (.ref w_REQUIRES_PAYMENT_METHOD), .unset] [(.ref w_SUCCEEDED), (.ref w_REQUIRES_PAYMENT_METHOD)])) X240 hx rfl rfl rfl (pc0 := 91) (pc' := 94) (same := false) rfl (hb hby at_91) rfl (decide_eq_false fun q => (Fld.ne F_ordinal_w_REQUIRES_PAYMENT_METHOD F_ordinal_w_SUCCEEDED (by decide)) (Value.ref.inj q)) (by decide) (by decide) kk) ?_
      show Go p e below _ (T240.setTop (mkF m 94 #[.val (.int p1), .val (.int p2), .val (.ref b3), .val (.ref w_CANCELED), .val (.ref w_REQUIRES_PAYMENT_METHOD), .unset] []))
      refine Go.st (fun _ kk => XS.aload X240.here hx rfl (hb hby at_94) rfl rfl  kk) ?_
      show Go p e below _ (T240.setTop (mkF m 96 #[.val (.int p1), .val (.int p2), .val (.ref b3), .val (.ref w_CANCELED), .val (.ref w_REQUIRES_PAYMENT_METHOD), .unset] [(.ref w_REQUIRES_PAYMENT_METHOD)]))
      obtain ⟨T241, X241, e241, st241⟩ := getS2 X240 hx hZ hown (host := "") (Or.inl (hw _ (List.mem_of_getElem? (i := 12) rfl))) Via.refl e240 f_238 (g := (mkF m 96 #[.val (.int p1), .val (.int p2), .val (.ref b3), .val (.ref w_CANCELED), .val (.ref w_REQUIRES_PAYMENT_METHOD), .unset] [(.ref w_REQUIRES_PAYMENT_METHOD)])) rfl (hb hby at_96)
      refine Go.st st241 ?_
      show Go p e below _ (T241.setTop (mkF m 99 #[.val (.int p1), .val (.int p2), .val (.ref b3), .val (.ref w_CANCELED), .val (.ref w_REQUIRES_PAYMENT_METHOD), .unset] [(.ref w_CANCELED), (.ref w_REQUIRES_PAYMENT_METHOD)]))
      refine Go.st (fun _ kk => Jvm.RoadKit.acmp (g := (mkF m 99 #[.val (.int p1), .val (.int p2), .val (.ref b3), .val (.ref w_CANCELED), .val (.ref w_REQUIRES_PAYMENT_METHOD), .unset] [(.ref w_CANCELED), (.ref w_REQUIRES_PAYMENT_METHOD)])) X241 hx rfl rfl rfl (pc0 := 99) (pc' := 102) (same := false) rfl (hb hby at_99) rfl (decide_eq_false fun q => (Fld.ne F_ordinal_w_REQUIRES_PAYMENT_METHOD F_ordinal_w_CANCELED (by decide)) (Value.ref.inj q)) (by decide) (by decide) kk) ?_
      show Go p e below _ (T241.setTop (mkF m 102 #[.val (.int p1), .val (.int p2), .val (.ref b3), .val (.ref w_CANCELED), .val (.ref w_REQUIRES_PAYMENT_METHOD), .unset] []))
      refine Go.st (fun _ kk => XS.iconst X241.here hx rfl (hb hby at_102) kk) ?_
      show Go p e below _ (T241.setTop (mkF m 103 #[.val (.int p1), .val (.int p2), .val (.ref b3), .val (.ref w_CANCELED), .val (.ref w_REQUIRES_PAYMENT_METHOD), .unset] [(.int (1 : Int32))]))
      refine Go.st (fun _ kk => XS.goto X241.here hx rfl (pc0 := 103) (pc' := 107) rfl (hb hby at_103) (by decide) (by decide) kk) ?_
      show Go p e below _ (T241.setTop (mkF m 107 #[.val (.int p1), .val (.int p2), .val (.ref b3), .val (.ref w_CANCELED), .val (.ref w_REQUIRES_PAYMENT_METHOD), .unset] [(.int (1 : Int32))]))
      refine Go.st (fun _ kk => XS.istore X241.here hx rfl (hb hby at_107) rfl (l' := #[.val (.int p1), .val (.int p2), .val (.ref b3), .val (.ref w_CANCELED), .val (.ref w_REQUIRES_PAYMENT_METHOD), .val (.int (1 : Int32))]) rfl kk) ?_
      show Go p e below _ (T241.setTop (mkF m 109 #[.val (.int p1), .val (.int p2), .val (.ref b3), .val (.ref w_CANCELED), .val (.ref w_REQUIRES_PAYMENT_METHOD), .val (.int (1 : Int32))] []))
      refine Go.st (fun _ kk => XS.goto X241.here hx rfl (pc0 := 109) (pc' := 115) rfl (hb hby at_109) (by decide) (by decide) kk) ?_
      show Go p e below _ (T241.setTop (mkF m 115 #[.val (.int p1), .val (.int p2), .val (.ref b3), .val (.ref w_CANCELED), .val (.ref w_REQUIRES_PAYMENT_METHOD), .val (.int (1 : Int32))] []))
      refine Go.st (fun _ kk => XS.aloadN X241.here hx rfl (hb hby at_115) rfl rfl  kk) ?_
      show Go p e below _ (T241.setTop (mkF m 116 #[.val (.int p1), .val (.int p2), .val (.ref b3), .val (.ref w_CANCELED), .val (.ref w_REQUIRES_PAYMENT_METHOD), .val (.int (1 : Int32))] [(.ref w_CANCELED)]))
      refine Go.st (fun _ kk => XS.aload X241.here hx rfl (hb hby at_116) rfl rfl  kk) ?_
      show Go p e below _ (T241.setTop (mkF m 118 #[.val (.int p1), .val (.int p2), .val (.ref b3), .val (.ref w_CANCELED), .val (.ref w_REQUIRES_PAYMENT_METHOD), .val (.int (1 : Int32))] [(.ref w_REQUIRES_PAYMENT_METHOD), (.ref w_CANCELED)]))
      have f_242 := (Exa.wr W28 f_27)
      have f_243 := (F_rank_w_CANCELED.keep K28 nin0)
      have f_244 := (F_rank_w_REQUIRES_PAYMENT_METHOD.keep K28 nin0)
      obtain ⟨cq245, kq245, q245a, q245b, q245c⟩ := isOf hZ e241 f_242
      obtain ⟨_, _, ⟨T245, L245, k245, n245⟩, -, X245, ⟨Lc245, hQ245, l245, y245, z245⟩, st245⟩ := X241.virtualBack hx (y := (⟨"com/example/charge_ledger/chargeledger/model/PaymentStatus", "outranks", "(Lcom/example/charge_ledger/chargeledger/model/PaymentStatus;)Z"⟩ : MethodName)) (z := (⟨"com/example/charge_ledger/chargeledger/model/PaymentStatus", "outranks", "(Lcom/example/charge_ledger/chargeledger/model/PaymentStatus;)Z"⟩ : MethodName)) hown (mvT hZ (hw _ (List.mem_of_getElem? (i := 15) rfl))) (mvT hZ (hw _ (List.mem_of_getElem? (i := 16) rfl))) (notFace_of_selects (args := #[]) (mvT hZ (hw _ (List.mem_of_getElem? (i := 18) rfl)))) (mvT hZ (hw _ (List.mem_of_getElem? (i := 18) rfl))) (mvT hZ (hw _ (List.mem_of_getElem? (i := 17) rfl))) (by decide) (backOf (W := 0) (rm1_t l Z a0 hw [] w_CANCELED w_REQUIRES_PAYMENT_METHOD (1 : Int32) (0 : Int32) h28 n0 (Nat.le_trans Z0 K28.1) f_243 f_244 (by decide : ((0 : Int32) < (1 : Int32)))) hZ (hw _ (List.mem_of_getElem? (i := 19) rfl)) (hw _ (List.mem_of_getElem? (i := 3) rfl)) (by decide) (by decide)) q245a q245c (g := (mkF m 118 #[.val (.int p1), .val (.int p2), .val (.ref b3), .val (.ref w_CANCELED), .val (.ref w_REQUIRES_PAYMENT_METHOD), .val (.int (1 : Int32))] [(.ref w_REQUIRES_PAYMENT_METHOD), (.ref w_CANCELED)])) rfl (by rw [hml]; rfl) (Steps.refl _) (argsL := [(.ref w_REQUIRES_PAYMENT_METHOD)]) (rest := []) (lenOf pd_0 rfl) rfl (by show 2 * 0 + _ ≤ _; exact Nat.le_of_eq rfl) (hb hby at_118) (fun _ _ => ⟨rfl, e241, (by decide : 1 + 0 ≤ _), (by decide : 5 + 0 ≤ _)⟩)
      dsimp only [Pt.U, Pt.locs, Pt.cells, Pt.slots] at X245 l245 y245 z245 st245 hQ245
      subst l245 y245 z245
      obtain ⟨rfl, N245q, eq245⟩ := hQ245
      have N245 := Fr.app N28 N245q
      refine Go.tr st245 ?_
      show Go p e below _ (T245.setTop (mkF m 121 #[.val (.int p1), .val (.int p2), .val (.ref b3), .val (.ref w_CANCELED), .val (.ref w_REQUIRES_PAYMENT_METHOD), .val (.int (1 : Int32))] [(.int (1 : Int32))]))
      refine Go.st (fun _ kk => XS.iload X245.here hx rfl (hb hby at_121) rfl  kk) ?_
      show Go p e below _ (T245.setTop (mkF m 123 #[.val (.int p1), .val (.int p2), .val (.ref b3), .val (.ref w_CANCELED), .val (.ref w_REQUIRES_PAYMENT_METHOD), .val (.int (1 : Int32))] [(.int (1 : Int32)), (.int (1 : Int32))]))
      refine Go.st (fun _ kk => XS.icmpNo X245.here hx rfl (hb hby at_123) rfl (teq (by decide : ((1 : Int32) = (1 : Int32)))).2 kk) ?_
      show Go p e below _ (T245.setTop (mkF m 126 #[.val (.int p1), .val (.int p2), .val (.ref b3), .val (.ref w_CANCELED), .val (.ref w_REQUIRES_PAYMENT_METHOD), .val (.int (1 : Int32))] []))
      refine Go.st (fun _ kk => XS.iconst X245.here hx rfl (hb hby at_126) kk) ?_
      show Go p e below _ (T245.setTop (mkF m 127 #[.val (.int p1), .val (.int p2), .val (.ref b3), .val (.ref w_CANCELED), .val (.ref w_REQUIRES_PAYMENT_METHOD), .val (.int (1 : Int32))] [(.int (1 : Int32))]))
      refine Go.st (fun _ kk => XS.goto X245.here hx rfl (pc0 := 127) (pc' := 131) rfl (hb hby at_127) (by decide) (by decide) kk) ?_
      show Go p e below _ (T245.setTop (mkF m 131 #[.val (.int p1), .val (.int p2), .val (.ref b3), .val (.ref w_CANCELED), .val (.ref w_REQUIRES_PAYMENT_METHOD), .val (.int (1 : Int32))] [(.int (1 : Int32))]))
      exact Go.ret (Q := Q0 n0) X245 (v := some (.int (1 : Int32))) (fun h => by rw [Bd.returns] at h; cases h) Bd.notSynchronized (fun fs hr => retN X245 hx (t := .boolean) Bd.returns (by simp) (hb hby at_131) hr) eq245 ⟨rfl, N245⟩ (by decide) (by decide)
    · skip
      rw [hk231]
      show Go p e below _ (T28.setTop (mkF m 51 #[.val (.int p1), .val (.int p2), .val (.ref b3), .val (.ref w_CANCELED), .unset, .unset] [(.int (1 : Int32)), (.ref b3)]))
      obtain ⟨clq246, Arq246, caq246, saq246, naq246, haq246, gaq246⟩ := id V28
      have inq246 : ¬ ((1 : Int32) < 0 ∨ clq246.slots.size ≤ ((1 : Int32)).toNatClampNeg) := inb_of saq246 ⟨by decide, by decide⟩
      have atq246 : clq246.slots[((1 : Int32)).toNatClampNeg]? = some (.ref w_PROCESSING) := haq246.at inq246 rfl
      refine Go.st (fun _ kk => X28.aaload hx (j := (1 : Int32)) (v := (.ref w_PROCESSING)) (by rw [e28]; exact Arq246.1) (State.isArrayOf_alike hZ.alike Arq246.2.1) rfl Arq246.2.2 inq246 atq246 (g := (mkF m 51 #[.val (.int p1), .val (.int p2), .val (.ref b3), .val (.ref w_CANCELED), .unset, .unset] [(.int (1 : Int32)), (.ref b3)])) rfl rfl (hb hby at_51) _ kk) ?_
      show Go p e below _ (T28.setTop (mkF m 52 #[.val (.int p1), .val (.int p2), .val (.ref b3), .val (.ref w_CANCELED), .unset, .unset] [(.ref w_PROCESSING)]))
      refine Go.st (fun _ kk => XS.astore X28.here hx rfl (hb hby at_52) rfl rfl (l' := #[.val (.int p1), .val (.int p2), .val (.ref b3), .val (.ref w_CANCELED), .val (.ref w_PROCESSING), .unset]) rfl kk) ?_
      show Go p e below _ (T28.setTop (mkF m 54 #[.val (.int p1), .val (.int p2), .val (.ref b3), .val (.ref w_CANCELED), .val (.ref w_PROCESSING), .unset] []))
      refine Go.st (fun _ kk => XS.aloadN X28.here hx rfl (hb hby at_54) rfl rfl  kk) ?_
      show Go p e below _ (T28.setTop (mkF m 55 #[.val (.int p1), .val (.int p2), .val (.ref b3), .val (.ref w_CANCELED), .val (.ref w_PROCESSING), .unset] [(.ref w_CANCELED)]))
      have f_247 := (Sta.wr W28 (Sta.wr W23 (Sta.wr W18 f_14)))
      obtain ⟨T248, X248, e248, st248⟩ := getS2 X28 hx hZ hown (host := "") (Or.inl (hw _ (List.mem_of_getElem? (i := 8) rfl))) Via.refl e28 f_247 (g := (mkF m 55 #[.val (.int p1), .val (.int p2), .val (.ref b3), .val (.ref w_CANCELED), .val (.ref w_PROCESSING), .unset] [(.ref w_CANCELED)])) rfl (hb hby at_55)
      refine Go.st st248 ?_
      show Go p e below _ (T248.setTop (mkF m 58 #[.val (.int p1), .val (.int p2), .val (.ref b3), .val (.ref w_CANCELED), .val (.ref w_PROCESSING), .unset] [(.ref w_SUCCEEDED), (.ref w_CANCELED)]))
      refine Go.st (fun _ kk => Jvm.RoadKit.acmp (g := (mkF m 58 #[.val (.int p1), .val (.int p2), .val (.ref b3), .val (.ref w_CANCELED), .val (.ref w_PROCESSING), .unset] [(.ref w_SUCCEEDED), (.ref w_CANCELED)])) X248 hx rfl rfl rfl (pc0 := 58) (pc' := 79) (same := false) rfl (hb hby at_58) rfl (decide_eq_false fun q => (Fld.ne F_ordinal_w_CANCELED F_ordinal_w_SUCCEEDED (by decide)) (Value.ref.inj q)) (by decide) (by decide) kk) ?_
      show Go p e below _ (T248.setTop (mkF m 79 #[.val (.int p1), .val (.int p2), .val (.ref b3), .val (.ref w_CANCELED), .val (.ref w_PROCESSING), .unset] []))
      refine Go.st (fun _ kk => XS.aloadN X248.here hx rfl (hb hby at_79) rfl rfl  kk) ?_
      show Go p e below _ (T248.setTop (mkF m 80 #[.val (.int p1), .val (.int p2), .val (.ref b3), .val (.ref w_CANCELED), .val (.ref w_PROCESSING), .unset] [(.ref w_CANCELED)]))
      have f_249 := (Sta.wr W28 f_24)
      obtain ⟨T250, X250, e250, st250⟩ := getS2 X248 hx hZ hown (host := "") (Or.inl (hw _ (List.mem_of_getElem? (i := 12) rfl))) Via.refl e248 f_249 (g := (mkF m 80 #[.val (.int p1), .val (.int p2), .val (.ref b3), .val (.ref w_CANCELED), .val (.ref w_PROCESSING), .unset] [(.ref w_CANCELED)])) rfl (hb hby at_80)
      refine Go.st st250 ?_
      show Go p e below _ (T250.setTop (mkF m 83 #[.val (.int p1), .val (.int p2), .val (.ref b3), .val (.ref w_CANCELED), .val (.ref w_PROCESSING), .unset] [(.ref w_CANCELED), (.ref w_CANCELED)]))
      refine Go.st (fun _ kk => Jvm.RoadKit.acmp (g := (mkF m 83 #[.val (.int p1), .val (.int p2), .val (.ref b3), .val (.ref w_CANCELED), .val (.ref w_PROCESSING), .unset] [(.ref w_CANCELED), (.ref w_CANCELED)])) X250 hx rfl rfl rfl (pc0 := 83) (pc' := 86) (same := true) rfl (hb hby at_83) rfl (decide_eq_true (congrArg Value.ref (rfl : w_CANCELED = w_CANCELED))) (by decide) (by decide) kk) ?_
      show Go p e below _ (T250.setTop (mkF m 86 #[.val (.int p1), .val (.int p2), .val (.ref b3), .val (.ref w_CANCELED), .val (.ref w_PROCESSING), .unset] []))
      refine Go.st (fun _ kk => XS.aload X250.here hx rfl (hb hby at_86) rfl rfl  kk) ?_
      show Go p e below _ (T250.setTop (mkF m 88 #[.val (.int p1), .val (.int p2), .val (.ref b3), .val (.ref w_CANCELED), .val (.ref w_PROCESSING), .unset] [(.ref w_PROCESSING)]))
      obtain ⟨T251, X251, e251, st251⟩ := getS2 X250 hx hZ hown (host := "") (Or.inl (hw _ (List.mem_of_getElem? (i := 8) rfl))) Via.refl e250 f_247 (g := (mkF m 88 #[.val (.int p1), .val (.int p2), .val (.ref b3), .val (.ref w_CANCELED), .val (.ref w_PROCESSING), .unset] [(.ref w_PROCESSING)])) rfl (hb hby at_88)
      refine Go.st st251 ?_
      show Go p e below _ (T251.setTop (mkF m 91 #[.val (.int p1), .val (.int p2), .val (.ref b3), .val (.ref w_CANCELED), .val (.ref w_PROCESSING), .unset] [(.ref w_SUCCEEDED), (.ref w_PROCESSING)]))
      refine Go.st (fun _ kk => Jvm.RoadKit.acmp (g := (mkF m 91 #[.val (.int p1), .val (.int p2), .val (.ref b3), .val (.ref w_CANCELED), .val (.ref w_PROCESSING), .unset] [(.ref w_SUCCEEDED), (.ref w_PROCESSING)])) X251 hx rfl rfl rfl (pc0 := 91) (pc' := 94) (same := false) rfl (hb hby at_91) rfl (decide_eq_false fun q => (Fld.ne F_ordinal_w_PROCESSING F_ordinal_w_SUCCEEDED (by decide)) (Value.ref.inj q)) (by decide) (by decide) kk) ?_
      show Go p e below _ (T251.setTop (mkF m 94 #[.val (.int p1), .val (.int p2), .val (.ref b3), .val (.ref w_CANCELED), .val (.ref w_PROCESSING), .unset] []))
      refine Go.st (fun _ kk => XS.aload X251.here hx rfl (hb hby at_94) rfl rfl  kk) ?_
      show Go p e below _ (T251.setTop (mkF m 96 #[.val (.int p1), .val (.int p2), .val (.ref b3), .val (.ref w_CANCELED), .val (.ref w_PROCESSING), .unset] [(.ref w_PROCESSING)]))
      obtain ⟨T252, X252, e252, st252⟩ := getS2 X251 hx hZ hown (host := "") (Or.inl (hw _ (List.mem_of_getElem? (i := 12) rfl))) Via.refl e251 f_249 (g := (mkF m 96 #[.val (.int p1), .val (.int p2), .val (.ref b3), .val (.ref w_CANCELED), .val (.ref w_PROCESSING), .unset] [(.ref w_PROCESSING)])) rfl (hb hby at_96)
      refine Go.st st252 ?_
      show Go p e below _ (T252.setTop (mkF m 99 #[.val (.int p1), .val (.int p2), .val (.ref b3), .val (.ref w_CANCELED), .val (.ref w_PROCESSING), .unset] [(.ref w_CANCELED), (.ref w_PROCESSING)]))
      refine Go.st (fun _ kk => Jvm.RoadKit.acmp (g := (mkF m 99 #[.val (.int p1), .val (.int p2), .val (.ref b3), .val (.ref w_CANCELED), .val (.ref w_PROCESSING), .unset] [(.ref w_CANCELED), (.ref w_PROCESSING)])) X252 hx rfl rfl rfl (pc0 := 99) (pc' := 102) (same := false) rfl (hb hby at_99) rfl (decide_eq_false fun q => (Fld.ne F_ordinal_w_PROCESSING F_ordinal_w_CANCELED (by decide)) (Value.ref.inj q)) (by decide) (by decide) kk) ?_
      show Go p e below _ (T252.setTop (mkF m 102 #[.val (.int p1), .val (.int p2), .val (.ref b3), .val (.ref w_CANCELED), .val (.ref w_PROCESSING), .unset] []))
      refine Go.st (fun _ kk => XS.iconst X252.here hx rfl (hb hby at_102) kk) ?_
      show Go p e below _ (T252.setTop (mkF m 103 #[.val (.int p1), .val (.int p2), .val (.ref b3), .val (.ref w_CANCELED), .val (.ref w_PROCESSING), .unset] [(.int (1 : Int32))]))
      refine Go.st (fun _ kk => XS.goto X252.here hx rfl (pc0 := 103) (pc' := 107) rfl (hb hby at_103) (by decide) (by decide) kk) ?_
      show Go p e below _ (T252.setTop (mkF m 107 #[.val (.int p1), .val (.int p2), .val (.ref b3), .val (.ref w_CANCELED), .val (.ref w_PROCESSING), .unset] [(.int (1 : Int32))]))
      refine Go.st (fun _ kk => XS.istore X252.here hx rfl (hb hby at_107) rfl (l' := #[.val (.int p1), .val (.int p2), .val (.ref b3), .val (.ref w_CANCELED), .val (.ref w_PROCESSING), .val (.int (1 : Int32))]) rfl kk) ?_
      show Go p e below _ (T252.setTop (mkF m 109 #[.val (.int p1), .val (.int p2), .val (.ref b3), .val (.ref w_CANCELED), .val (.ref w_PROCESSING), .val (.int (1 : Int32))] []))
      refine Go.st (fun _ kk => XS.goto X252.here hx rfl (pc0 := 109) (pc' := 115) rfl (hb hby at_109) (by decide) (by decide) kk) ?_
      show Go p e below _ (T252.setTop (mkF m 115 #[.val (.int p1), .val (.int p2), .val (.ref b3), .val (.ref w_CANCELED), .val (.ref w_PROCESSING), .val (.int (1 : Int32))] []))
      refine Go.st (fun _ kk => XS.aloadN X252.here hx rfl (hb hby at_115) rfl rfl  kk) ?_
      show Go p e below _ (T252.setTop (mkF m 116 #[.val (.int p1), .val (.int p2), .val (.ref b3), .val (.ref w_CANCELED), .val (.ref w_PROCESSING), .val (.int (1 : Int32))] [(.ref w_CANCELED)]))
      refine Go.st (fun _ kk => XS.aload X252.here hx rfl (hb hby at_116) rfl rfl  kk) ?_
      show Go p e below _ (T252.setTop (mkF m 118 #[.val (.int p1), .val (.int p2), .val (.ref b3), .val (.ref w_CANCELED), .val (.ref w_PROCESSING), .val (.int (1 : Int32))] [(.ref w_PROCESSING), (.ref w_CANCELED)]))
      have f_253 := (Exa.wr W28 f_27)
      have f_254 := (F_rank_w_CANCELED.keep K28 nin0)
      have f_255 := (F_rank_w_PROCESSING.keep K28 nin0)
      obtain ⟨cq256, kq256, q256a, q256b, q256c⟩ := isOf hZ e252 f_253
      obtain ⟨_, _, ⟨T256, L256, k256, n256⟩, -, X256, ⟨Lc256, hQ256, l256, y256, z256⟩, st256⟩ := X252.virtualBack hx (y := (⟨"com/example/charge_ledger/chargeledger/model/PaymentStatus", "outranks", "(Lcom/example/charge_ledger/chargeledger/model/PaymentStatus;)Z"⟩ : MethodName)) (z := (⟨"com/example/charge_ledger/chargeledger/model/PaymentStatus", "outranks", "(Lcom/example/charge_ledger/chargeledger/model/PaymentStatus;)Z"⟩ : MethodName)) hown (mvT hZ (hw _ (List.mem_of_getElem? (i := 15) rfl))) (mvT hZ (hw _ (List.mem_of_getElem? (i := 16) rfl))) (notFace_of_selects (args := #[]) (mvT hZ (hw _ (List.mem_of_getElem? (i := 18) rfl)))) (mvT hZ (hw _ (List.mem_of_getElem? (i := 18) rfl))) (mvT hZ (hw _ (List.mem_of_getElem? (i := 17) rfl))) (by decide) (backOf (W := 0) (rm1_t l Z a0 hw [] w_CANCELED w_PROCESSING (1 : Int32) (0 : Int32) h28 n0 (Nat.le_trans Z0 K28.1) f_254 f_255 (by decide : ((0 : Int32) < (1 : Int32)))) hZ (hw _ (List.mem_of_getElem? (i := 19) rfl)) (hw _ (List.mem_of_getElem? (i := 3) rfl)) (by decide) (by decide)) q256a q256c (g := (mkF m 118 #[.val (.int p1), .val (.int p2), .val (.ref b3), .val (.ref w_CANCELED), .val (.ref w_PROCESSING), .val (.int (1 : Int32))] [(.ref w_PROCESSING), (.ref w_CANCELED)])) rfl (by rw [hml]; rfl) (Steps.refl _) (argsL := [(.ref w_PROCESSING)]) (rest := []) (lenOf pd_0 rfl) rfl (by show 2 * 0 + _ ≤ _; exact Nat.le_of_eq rfl) (hb hby at_118) (fun _ _ => ⟨rfl, e252, (by decide : 1 + 0 ≤ _), (by decide : 5 + 0 ≤ _)⟩)
      dsimp only [Pt.U, Pt.locs, Pt.cells, Pt.slots] at X256 l256 y256 z256 st256 hQ256
      subst l256 y256 z256
      obtain ⟨rfl, N256q, eq256⟩ := hQ256
      have N256 := Fr.app N28 N256q
      refine Go.tr st256 ?_
      show Go p e below _ (T256.setTop (mkF m 121 #[.val (.int p1), .val (.int p2), .val (.ref b3), .val (.ref w_CANCELED), .val (.ref w_PROCESSING), .val (.int (1 : Int32))] [(.int (1 : Int32))]))
      refine Go.st (fun _ kk => XS.iload X256.here hx rfl (hb hby at_121) rfl  kk) ?_
      show Go p e below _ (T256.setTop (mkF m 123 #[.val (.int p1), .val (.int p2), .val (.ref b3), .val (.ref w_CANCELED), .val (.ref w_PROCESSING), .val (.int (1 : Int32))] [(.int (1 : Int32)), (.int (1 : Int32))]))
      refine Go.st (fun _ kk => XS.icmpNo X256.here hx rfl (hb hby at_123) rfl (teq (by decide : ((1 : Int32) = (1 : Int32)))).2 kk) ?_
      show Go p e below _ (T256.setTop (mkF m 126 #[.val (.int p1), .val (.int p2), .val (.ref b3), .val (.ref w_CANCELED), .val (.ref w_PROCESSING), .val (.int (1 : Int32))] []))
      refine Go.st (fun _ kk => XS.iconst X256.here hx rfl (hb hby at_126) kk) ?_
      show Go p e below _ (T256.setTop (mkF m 127 #[.val (.int p1), .val (.int p2), .val (.ref b3), .val (.ref w_CANCELED), .val (.ref w_PROCESSING), .val (.int (1 : Int32))] [(.int (1 : Int32))]))
      refine Go.st (fun _ kk => XS.goto X256.here hx rfl (pc0 := 127) (pc' := 131) rfl (hb hby at_127) (by decide) (by decide) kk) ?_
      show Go p e below _ (T256.setTop (mkF m 131 #[.val (.int p1), .val (.int p2), .val (.ref b3), .val (.ref w_CANCELED), .val (.ref w_PROCESSING), .val (.int (1 : Int32))] [(.int (1 : Int32))]))
      exact Go.ret (Q := Q0 n0) X256 (v := some (.int (1 : Int32))) (fun h => by rw [Bd.returns] at h; cases h) Bd.notSynchronized (fun fs hr => retN X256 hx (t := .boolean) Bd.returns (by simp) (hb hby at_131) hr) eq256 ⟨rfl, N256⟩ (by decide) (by decide)
    · skip
      rw [hk232]
      show Go p e below _ (T28.setTop (mkF m 51 #[.val (.int p1), .val (.int p2), .val (.ref b3), .val (.ref w_CANCELED), .unset, .unset] [(.int (2 : Int32)), (.ref b3)]))
      obtain ⟨clq257, Arq257, caq257, saq257, naq257, haq257, gaq257⟩ := id V28
      have inq257 : ¬ ((2 : Int32) < 0 ∨ clq257.slots.size ≤ ((2 : Int32)).toNatClampNeg) := inb_of saq257 ⟨by decide, by decide⟩
      have atq257 : clq257.slots[((2 : Int32)).toNatClampNeg]? = some (.ref w_SUCCEEDED) := haq257.at inq257 rfl
      refine Go.st (fun _ kk => X28.aaload hx (j := (2 : Int32)) (v := (.ref w_SUCCEEDED)) (by rw [e28]; exact Arq257.1) (State.isArrayOf_alike hZ.alike Arq257.2.1) rfl Arq257.2.2 inq257 atq257 (g := (mkF m 51 #[.val (.int p1), .val (.int p2), .val (.ref b3), .val (.ref w_CANCELED), .unset, .unset] [(.int (2 : Int32)), (.ref b3)])) rfl rfl (hb hby at_51) _ kk) ?_
      show Go p e below _ (T28.setTop (mkF m 52 #[.val (.int p1), .val (.int p2), .val (.ref b3), .val (.ref w_CANCELED), .unset, .unset] [(.ref w_SUCCEEDED)]))
      refine Go.st (fun _ kk => XS.astore X28.here hx rfl (hb hby at_52) rfl rfl (l' := #[.val (.int p1), .val (.int p2), .val (.ref b3), .val (.ref w_CANCELED), .val (.ref w_SUCCEEDED), .unset]) rfl kk) ?_
      show Go p e below _ (T28.setTop (mkF m 54 #[.val (.int p1), .val (.int p2), .val (.ref b3), .val (.ref w_CANCELED), .val (.ref w_SUCCEEDED), .unset] []))
      refine Go.st (fun _ kk => XS.aloadN X28.here hx rfl (hb hby at_54) rfl rfl  kk) ?_
      show Go p e below _ (T28.setTop (mkF m 55 #[.val (.int p1), .val (.int p2), .val (.ref b3), .val (.ref w_CANCELED), .val (.ref w_SUCCEEDED), .unset] [(.ref w_CANCELED)]))
      have f_258 := (Sta.wr W28 (Sta.wr W23 (Sta.wr W18 f_14)))
      obtain ⟨T259, X259, e259, st259⟩ := getS2 X28 hx hZ hown (host := "") (Or.inl (hw _ (List.mem_of_getElem? (i := 8) rfl))) Via.refl e28 f_258 (g := (mkF m 55 #[.val (.int p1), .val (.int p2), .val (.ref b3), .val (.ref w_CANCELED), .val (.ref w_SUCCEEDED), .unset] [(.ref w_CANCELED)])) rfl (hb hby at_55)
      refine Go.st st259 ?_
      show Go p e below _ (T259.setTop (mkF m 58 #[.val (.int p1), .val (.int p2), .val (.ref b3), .val (.ref w_CANCELED), .val (.ref w_SUCCEEDED), .unset] [(.ref w_SUCCEEDED), (.ref w_CANCELED)]))
      refine Go.st (fun _ kk => Jvm.RoadKit.acmp (g := (mkF m 58 #[.val (.int p1), .val (.int p2), .val (.ref b3), .val (.ref w_CANCELED), .val (.ref w_SUCCEEDED), .unset] [(.ref w_SUCCEEDED), (.ref w_CANCELED)])) X259 hx rfl rfl rfl (pc0 := 58) (pc' := 79) (same := false) rfl (hb hby at_58) rfl (decide_eq_false fun q => (Fld.ne F_ordinal_w_CANCELED F_ordinal_w_SUCCEEDED (by decide)) (Value.ref.inj q)) (by decide) (by decide) kk) ?_
      show Go p e below _ (T259.setTop (mkF m 79 #[.val (.int p1), .val (.int p2), .val (.ref b3), .val (.ref w_CANCELED), .val (.ref w_SUCCEEDED), .unset] []))
      refine Go.st (fun _ kk => XS.aloadN X259.here hx rfl (hb hby at_79) rfl rfl  kk) ?_
      show Go p e below _ (T259.setTop (mkF m 80 #[.val (.int p1), .val (.int p2), .val (.ref b3), .val (.ref w_CANCELED), .val (.ref w_SUCCEEDED), .unset] [(.ref w_CANCELED)]))
      have f_260 := (Sta.wr W28 f_24)
      obtain ⟨T261, X261, e261, st261⟩ := getS2 X259 hx hZ hown (host := "") (Or.inl (hw _ (List.mem_of_getElem? (i := 12) rfl))) Via.refl e259 f_260 (g := (mkF m 80 #[.val (.int p1), .val (.int p2), .val (.ref b3), .val (.ref w_CANCELED), .val (.ref w_SUCCEEDED), .unset] [(.ref w_CANCELED)])) rfl (hb hby at_80)
      refine Go.st st261 ?_
      show Go p e below _ (T261.setTop (mkF m 83 #[.val (.int p1), .val (.int p2), .val (.ref b3), .val (.ref w_CANCELED), .val (.ref w_SUCCEEDED), .unset] [(.ref w_CANCELED), (.ref w_CANCELED)]))
      refine Go.st (fun _ kk => Jvm.RoadKit.acmp (g := (mkF m 83 #[.val (.int p1), .val (.int p2), .val (.ref b3), .val (.ref w_CANCELED), .val (.ref w_SUCCEEDED), .unset] [(.ref w_CANCELED), (.ref w_CANCELED)])) X261 hx rfl rfl rfl (pc0 := 83) (pc' := 86) (same := true) rfl (hb hby at_83) rfl (decide_eq_true (congrArg Value.ref (rfl : w_CANCELED = w_CANCELED))) (by decide) (by decide) kk) ?_
      show Go p e below _ (T261.setTop (mkF m 86 #[.val (.int p1), .val (.int p2), .val (.ref b3), .val (.ref w_CANCELED), .val (.ref w_SUCCEEDED), .unset] []))
      refine Go.st (fun _ kk => XS.aload X261.here hx rfl (hb hby at_86) rfl rfl  kk) ?_
      show Go p e below _ (T261.setTop (mkF m 88 #[.val (.int p1), .val (.int p2), .val (.ref b3), .val (.ref w_CANCELED), .val (.ref w_SUCCEEDED), .unset] [(.ref w_SUCCEEDED)]))
      obtain ⟨T262, X262, e262, st262⟩ := getS2 X261 hx hZ hown (host := "") (Or.inl (hw _ (List.mem_of_getElem? (i := 8) rfl))) Via.refl e261 f_258 (g := (mkF m 88 #[.val (.int p1), .val (.int p2), .val (.ref b3), .val (.ref w_CANCELED), .val (.ref w_SUCCEEDED), .unset] [(.ref w_SUCCEEDED)])) rfl (hb hby at_88)
      refine Go.st st262 ?_
      show Go p e below _ (T262.setTop (mkF m 91 #[.val (.int p1), .val (.int p2), .val (.ref b3), .val (.ref w_CANCELED), .val (.ref w_SUCCEEDED), .unset] [(.ref w_SUCCEEDED), (.ref w_SUCCEEDED)]))
      refine Go.st (fun _ kk => Jvm.RoadKit.acmp (g := (mkF m 91 #[.val (.int p1), .val (.int p2), .val (.ref b3), .val (.ref w_CANCELED), .val (.ref w_SUCCEEDED), .unset] [(.ref w_SUCCEEDED), (.ref w_SUCCEEDED)])) X262 hx rfl rfl rfl (pc0 := 91) (pc' := 106) (same := true) rfl (hb hby at_91) rfl (decide_eq_true (congrArg Value.ref (rfl : w_SUCCEEDED = w_SUCCEEDED))) (by decide) (by decide) kk) ?_
      show Go p e below _ (T262.setTop (mkF m 106 #[.val (.int p1), .val (.int p2), .val (.ref b3), .val (.ref w_CANCELED), .val (.ref w_SUCCEEDED), .unset] []))
      refine Go.st (fun _ kk => XS.iconst X262.here hx rfl (hb hby at_106) kk) ?_
      show Go p e below _ (T262.setTop (mkF m 107 #[.val (.int p1), .val (.int p2), .val (.ref b3), .val (.ref w_CANCELED), .val (.ref w_SUCCEEDED), .unset] [(.int (0 : Int32))]))
      refine Go.st (fun _ kk => XS.istore X262.here hx rfl (hb hby at_107) rfl (l' := #[.val (.int p1), .val (.int p2), .val (.ref b3), .val (.ref w_CANCELED), .val (.ref w_SUCCEEDED), .val (.int (0 : Int32))]) rfl kk) ?_
      show Go p e below _ (T262.setTop (mkF m 109 #[.val (.int p1), .val (.int p2), .val (.ref b3), .val (.ref w_CANCELED), .val (.ref w_SUCCEEDED), .val (.int (0 : Int32))] []))
      refine Go.st (fun _ kk => XS.goto X262.here hx rfl (pc0 := 109) (pc' := 115) rfl (hb hby at_109) (by decide) (by decide) kk) ?_
      show Go p e below _ (T262.setTop (mkF m 115 #[.val (.int p1), .val (.int p2), .val (.ref b3), .val (.ref w_CANCELED), .val (.ref w_SUCCEEDED), .val (.int (0 : Int32))] []))
      refine Go.st (fun _ kk => XS.aloadN X262.here hx rfl (hb hby at_115) rfl rfl  kk) ?_
      show Go p e below _ (T262.setTop (mkF m 116 #[.val (.int p1), .val (.int p2), .val (.ref b3), .val (.ref w_CANCELED), .val (.ref w_SUCCEEDED), .val (.int (0 : Int32))] [(.ref w_CANCELED)]))
      refine Go.st (fun _ kk => XS.aload X262.here hx rfl (hb hby at_116) rfl rfl  kk) ?_
      show Go p e below _ (T262.setTop (mkF m 118 #[.val (.int p1), .val (.int p2), .val (.ref b3), .val (.ref w_CANCELED), .val (.ref w_SUCCEEDED), .val (.int (0 : Int32))] [(.ref w_SUCCEEDED), (.ref w_CANCELED)]))
      have f_263 := (Exa.wr W28 f_27)
      have f_264 := (F_rank_w_CANCELED.keep K28 nin0)
      have f_265 := (F_rank_w_SUCCEEDED.keep K28 nin0)
      obtain ⟨cq266, kq266, q266a, q266b, q266c⟩ := isOf hZ e262 f_263
      obtain ⟨_, _, ⟨T266, L266, k266, n266⟩, -, X266, ⟨Lc266, hQ266, l266, y266, z266⟩, st266⟩ := X262.virtualBack hx (y := (⟨"com/example/charge_ledger/chargeledger/model/PaymentStatus", "outranks", "(Lcom/example/charge_ledger/chargeledger/model/PaymentStatus;)Z"⟩ : MethodName)) (z := (⟨"com/example/charge_ledger/chargeledger/model/PaymentStatus", "outranks", "(Lcom/example/charge_ledger/chargeledger/model/PaymentStatus;)Z"⟩ : MethodName)) hown (mvT hZ (hw _ (List.mem_of_getElem? (i := 15) rfl))) (mvT hZ (hw _ (List.mem_of_getElem? (i := 16) rfl))) (notFace_of_selects (args := #[]) (mvT hZ (hw _ (List.mem_of_getElem? (i := 18) rfl)))) (mvT hZ (hw _ (List.mem_of_getElem? (i := 18) rfl))) (mvT hZ (hw _ (List.mem_of_getElem? (i := 17) rfl))) (by decide) (backOf (W := 0) (rm1_f l Z a0 hw [] w_CANCELED w_SUCCEEDED (1 : Int32) (2 : Int32) h28 n0 (Nat.le_trans Z0 K28.1) f_264 f_265 (by decide : ¬ ((2 : Int32) < (1 : Int32)))) hZ (hw _ (List.mem_of_getElem? (i := 19) rfl)) (hw _ (List.mem_of_getElem? (i := 3) rfl)) (by decide) (by decide)) q266a q266c (g := (mkF m 118 #[.val (.int p1), .val (.int p2), .val (.ref b3), .val (.ref w_CANCELED), .val (.ref w_SUCCEEDED), .val (.int (0 : Int32))] [(.ref w_SUCCEEDED), (.ref w_CANCELED)])) rfl (by rw [hml]; rfl) (Steps.refl _) (argsL := [(.ref w_SUCCEEDED)]) (rest := []) (lenOf pd_0 rfl) rfl (by show 2 * 0 + _ ≤ _; exact Nat.le_of_eq rfl) (hb hby at_118) (fun _ _ => ⟨rfl, e262, (by decide : 1 + 0 ≤ _), (by decide : 5 + 0 ≤ _)⟩)
      dsimp only [Pt.U, Pt.locs, Pt.cells, Pt.slots] at X266 l266 y266 z266 st266 hQ266
      subst l266 y266 z266
      obtain ⟨rfl, N266q, eq266⟩ := hQ266
      have N266 := Fr.app N28 N266q
      refine Go.tr st266 ?_
      show Go p e below _ (T266.setTop (mkF m 121 #[.val (.int p1), .val (.int p2), .val (.ref b3), .val (.ref w_CANCELED), .val (.ref w_SUCCEEDED), .val (.int (0 : Int32))] [(.int (0 : Int32))]))
      refine Go.st (fun _ kk => XS.iload X266.here hx rfl (hb hby at_121) rfl  kk) ?_
      show Go p e below _ (T266.setTop (mkF m 123 #[.val (.int p1), .val (.int p2), .val (.ref b3), .val (.ref w_CANCELED), .val (.ref w_SUCCEEDED), .val (.int (0 : Int32))] [(.int (0 : Int32)), (.int (0 : Int32))]))
      refine Go.st (fun _ kk => XS.icmpNo X266.here hx rfl (hb hby at_123) rfl (teq (by decide : ((0 : Int32) = (0 : Int32)))).2 kk) ?_
      show Go p e below _ (T266.setTop (mkF m 126 #[.val (.int p1), .val (.int p2), .val (.ref b3), .val (.ref w_CANCELED), .val (.ref w_SUCCEEDED), .val (.int (0 : Int32))] []))
      refine Go.st (fun _ kk => XS.iconst X266.here hx rfl (hb hby at_126) kk) ?_
      show Go p e below _ (T266.setTop (mkF m 127 #[.val (.int p1), .val (.int p2), .val (.ref b3), .val (.ref w_CANCELED), .val (.ref w_SUCCEEDED), .val (.int (0 : Int32))] [(.int (1 : Int32))]))
      refine Go.st (fun _ kk => XS.goto X266.here hx rfl (pc0 := 127) (pc' := 131) rfl (hb hby at_127) (by decide) (by decide) kk) ?_
      show Go p e below _ (T266.setTop (mkF m 131 #[.val (.int p1), .val (.int p2), .val (.ref b3), .val (.ref w_CANCELED), .val (.ref w_SUCCEEDED), .val (.int (0 : Int32))] [(.int (1 : Int32))]))
      exact Go.ret (Q := Q0 n0) X266 (v := some (.int (1 : Int32))) (fun h => by rw [Bd.returns] at h; cases h) Bd.notSynchronized (fun fs hr => retN X266 hx (t := .boolean) Bd.returns (by simp) (hb hby at_131) hr) eq266 ⟨rfl, N266⟩ (by decide) (by decide)
    · skip
      rw [hk233]
      show Go p e below _ (T28.setTop (mkF m 51 #[.val (.int p1), .val (.int p2), .val (.ref b3), .val (.ref w_CANCELED), .unset, .unset] [(.int (3 : Int32)), (.ref b3)]))
      obtain ⟨clq267, Arq267, caq267, saq267, naq267, haq267, gaq267⟩ := id V28
      have inq267 : ¬ ((3 : Int32) < 0 ∨ clq267.slots.size ≤ ((3 : Int32)).toNatClampNeg) := inb_of saq267 ⟨by decide, by decide⟩
      have atq267 : clq267.slots[((3 : Int32)).toNatClampNeg]? = some (.ref w_FAILED) := haq267.at inq267 rfl
      refine Go.st (fun _ kk => X28.aaload hx (j := (3 : Int32)) (v := (.ref w_FAILED)) (by rw [e28]; exact Arq267.1) (State.isArrayOf_alike hZ.alike Arq267.2.1) rfl Arq267.2.2 inq267 atq267 (g := (mkF m 51 #[.val (.int p1), .val (.int p2), .val (.ref b3), .val (.ref w_CANCELED), .unset, .unset] [(.int (3 : Int32)), (.ref b3)])) rfl rfl (hb hby at_51) _ kk) ?_
      show Go p e below _ (T28.setTop (mkF m 52 #[.val (.int p1), .val (.int p2), .val (.ref b3), .val (.ref w_CANCELED), .unset, .unset] [(.ref w_FAILED)]))
      refine Go.st (fun _ kk => XS.astore X28.here hx rfl (hb hby at_52) rfl rfl (l' := #[.val (.int p1), .val (.int p2), .val (.ref b3), .val (.ref w_CANCELED), .val (.ref w_FAILED), .unset]) rfl kk) ?_
      show Go p e below _ (T28.setTop (mkF m 54 #[.val (.int p1), .val (.int p2), .val (.ref b3), .val (.ref w_CANCELED), .val (.ref w_FAILED), .unset] []))
      refine Go.st (fun _ kk => XS.aloadN X28.here hx rfl (hb hby at_54) rfl rfl  kk) ?_
      show Go p e below _ (T28.setTop (mkF m 55 #[.val (.int p1), .val (.int p2), .val (.ref b3), .val (.ref w_CANCELED), .val (.ref w_FAILED), .unset] [(.ref w_CANCELED)]))
      have f_268 := (Sta.wr W28 (Sta.wr W23 (Sta.wr W18 f_14)))
      obtain ⟨T269, X269, e269, st269⟩ := getS2 X28 hx hZ hown (host := "") (Or.inl (hw _ (List.mem_of_getElem? (i := 8) rfl))) Via.refl e28 f_268 (g := (mkF m 55 #[.val (.int p1), .val (.int p2), .val (.ref b3), .val (.ref w_CANCELED), .val (.ref w_FAILED), .unset] [(.ref w_CANCELED)])) rfl (hb hby at_55)
      refine Go.st st269 ?_
      show Go p e below _ (T269.setTop (mkF m 58 #[.val (.int p1), .val (.int p2), .val (.ref b3), .val (.ref w_CANCELED), .val (.ref w_FAILED), .unset] [(.ref w_SUCCEEDED), (.ref w_CANCELED)]))
      refine Go.st (fun _ kk => Jvm.RoadKit.acmp (g := (mkF m 58 #[.val (.int p1), .val (.int p2), .val (.ref b3), .val (.ref w_CANCELED), .val (.ref w_FAILED), .unset] [(.ref w_SUCCEEDED), (.ref w_CANCELED)])) X269 hx rfl rfl rfl (pc0 := 58) (pc' := 79) (same := false) rfl (hb hby at_58) rfl (decide_eq_false fun q => (Fld.ne F_ordinal_w_CANCELED F_ordinal_w_SUCCEEDED (by decide)) (Value.ref.inj q)) (by decide) (by decide) kk) ?_
      show Go p e below _ (T269.setTop (mkF m 79 #[.val (.int p1), .val (.int p2), .val (.ref b3), .val (.ref w_CANCELED), .val (.ref w_FAILED), .unset] []))
      refine Go.st (fun _ kk => XS.aloadN X269.here hx rfl (hb hby at_79) rfl rfl  kk) ?_
      show Go p e below _ (T269.setTop (mkF m 80 #[.val (.int p1), .val (.int p2), .val (.ref b3), .val (.ref w_CANCELED), .val (.ref w_FAILED), .unset] [(.ref w_CANCELED)]))
      have f_270 := (Sta.wr W28 f_24)
      obtain ⟨T271, X271, e271, st271⟩ := getS2 X269 hx hZ hown (host := "") (Or.inl (hw _ (List.mem_of_getElem? (i := 12) rfl))) Via.refl e269 f_270 (g := (mkF m 80 #[.val (.int p1), .val (.int p2), .val (.ref b3), .val (.ref w_CANCELED), .val (.ref w_FAILED), .unset] [(.ref w_CANCELED)])) rfl (hb hby at_80)
      refine Go.st st271 ?_
      show Go p e below _ (T271.setTop (mkF m 83 #[.val (.int p1), .val (.int p2), .val (.ref b3), .val (.ref w_CANCELED), .val (.ref w_FAILED), .unset] [(.ref w_CANCELED), (.ref w_CANCELED)]))
      refine Go.st (fun _ kk => Jvm.RoadKit.acmp (g := (mkF m 83 #[.val (.int p1), .val (.int p2), .val (.ref b3), .val (.ref w_CANCELED), .val (.ref w_FAILED), .unset] [(.ref w_CANCELED), (.ref w_CANCELED)])) X271 hx rfl rfl rfl (pc0 := 83) (pc' := 86) (same := true) rfl (hb hby at_83) rfl (decide_eq_true (congrArg Value.ref (rfl : w_CANCELED = w_CANCELED))) (by decide) (by decide) kk) ?_
      show Go p e below _ (T271.setTop (mkF m 86 #[.val (.int p1), .val (.int p2), .val (.ref b3), .val (.ref w_CANCELED), .val (.ref w_FAILED), .unset] []))
      refine Go.st (fun _ kk => XS.aload X271.here hx rfl (hb hby at_86) rfl rfl  kk) ?_
      show Go p e below _ (T271.setTop (mkF m 88 #[.val (.int p1), .val (.int p2), .val (.ref b3), .val (.ref w_CANCELED), .val (.ref w_FAILED), .unset] [(.ref w_FAILED)]))
      obtain ⟨T272, X272, e272, st272⟩ := getS2 X271 hx hZ hown (host := "") (Or.inl (hw _ (List.mem_of_getElem? (i := 8) rfl))) Via.refl e271 f_268 (g := (mkF m 88 #[.val (.int p1), .val (.int p2), .val (.ref b3), .val (.ref w_CANCELED), .val (.ref w_FAILED), .unset] [(.ref w_FAILED)])) rfl (hb hby at_88)
      refine Go.st st272 ?_
      show Go p e below _ (T272.setTop (mkF m 91 #[.val (.int p1), .val (.int p2), .val (.ref b3), .val (.ref w_CANCELED), .val (.ref w_FAILED), .unset] [(.ref w_SUCCEEDED), (.ref w_FAILED)]))
      refine Go.st (fun _ kk => Jvm.RoadKit.acmp (g := (mkF m 91 #[.val (.int p1), .val (.int p2), .val (.ref b3), .val (.ref w_CANCELED), .val (.ref w_FAILED), .unset] [(.ref w_SUCCEEDED), (.ref w_FAILED)])) X272 hx rfl rfl rfl (pc0 := 91) (pc' := 94) (same := false) rfl (hb hby at_91) rfl (decide_eq_false fun q => (Fld.ne F_rank_w_FAILED F_rank_w_SUCCEEDED (by decide)) (Value.ref.inj q)) (by decide) (by decide) kk) ?_
      show Go p e below _ (T272.setTop (mkF m 94 #[.val (.int p1), .val (.int p2), .val (.ref b3), .val (.ref w_CANCELED), .val (.ref w_FAILED), .unset] []))
      refine Go.st (fun _ kk => XS.aload X272.here hx rfl (hb hby at_94) rfl rfl  kk) ?_
      show Go p e below _ (T272.setTop (mkF m 96 #[.val (.int p1), .val (.int p2), .val (.ref b3), .val (.ref w_CANCELED), .val (.ref w_FAILED), .unset] [(.ref w_FAILED)]))
      obtain ⟨T273, X273, e273, st273⟩ := getS2 X272 hx hZ hown (host := "") (Or.inl (hw _ (List.mem_of_getElem? (i := 12) rfl))) Via.refl e272 f_270 (g := (mkF m 96 #[.val (.int p1), .val (.int p2), .val (.ref b3), .val (.ref w_CANCELED), .val (.ref w_FAILED), .unset] [(.ref w_FAILED)])) rfl (hb hby at_96)
      refine Go.st st273 ?_
      show Go p e below _ (T273.setTop (mkF m 99 #[.val (.int p1), .val (.int p2), .val (.ref b3), .val (.ref w_CANCELED), .val (.ref w_FAILED), .unset] [(.ref w_CANCELED), (.ref w_FAILED)]))
      refine Go.st (fun _ kk => Jvm.RoadKit.acmp (g := (mkF m 99 #[.val (.int p1), .val (.int p2), .val (.ref b3), .val (.ref w_CANCELED), .val (.ref w_FAILED), .unset] [(.ref w_CANCELED), (.ref w_FAILED)])) X273 hx rfl rfl rfl (pc0 := 99) (pc' := 102) (same := false) rfl (hb hby at_99) rfl (decide_eq_false fun q => (Fld.ne F_rank_w_FAILED F_rank_w_CANCELED (by decide)) (Value.ref.inj q)) (by decide) (by decide) kk) ?_
      show Go p e below _ (T273.setTop (mkF m 102 #[.val (.int p1), .val (.int p2), .val (.ref b3), .val (.ref w_CANCELED), .val (.ref w_FAILED), .unset] []))
      refine Go.st (fun _ kk => XS.iconst X273.here hx rfl (hb hby at_102) kk) ?_
      show Go p e below _ (T273.setTop (mkF m 103 #[.val (.int p1), .val (.int p2), .val (.ref b3), .val (.ref w_CANCELED), .val (.ref w_FAILED), .unset] [(.int (1 : Int32))]))
      refine Go.st (fun _ kk => XS.goto X273.here hx rfl (pc0 := 103) (pc' := 107) rfl (hb hby at_103) (by decide) (by decide) kk) ?_
      show Go p e below _ (T273.setTop (mkF m 107 #[.val (.int p1), .val (.int p2), .val (.ref b3), .val (.ref w_CANCELED), .val (.ref w_FAILED), .unset] [(.int (1 : Int32))]))
      refine Go.st (fun _ kk => XS.istore X273.here hx rfl (hb hby at_107) rfl (l' := #[.val (.int p1), .val (.int p2), .val (.ref b3), .val (.ref w_CANCELED), .val (.ref w_FAILED), .val (.int (1 : Int32))]) rfl kk) ?_
      show Go p e below _ (T273.setTop (mkF m 109 #[.val (.int p1), .val (.int p2), .val (.ref b3), .val (.ref w_CANCELED), .val (.ref w_FAILED), .val (.int (1 : Int32))] []))
      refine Go.st (fun _ kk => XS.goto X273.here hx rfl (pc0 := 109) (pc' := 115) rfl (hb hby at_109) (by decide) (by decide) kk) ?_
      show Go p e below _ (T273.setTop (mkF m 115 #[.val (.int p1), .val (.int p2), .val (.ref b3), .val (.ref w_CANCELED), .val (.ref w_FAILED), .val (.int (1 : Int32))] []))
      refine Go.st (fun _ kk => XS.aloadN X273.here hx rfl (hb hby at_115) rfl rfl  kk) ?_
      show Go p e below _ (T273.setTop (mkF m 116 #[.val (.int p1), .val (.int p2), .val (.ref b3), .val (.ref w_CANCELED), .val (.ref w_FAILED), .val (.int (1 : Int32))] [(.ref w_CANCELED)]))
      refine Go.st (fun _ kk => XS.aload X273.here hx rfl (hb hby at_116) rfl rfl  kk) ?_
      show Go p e below _ (T273.setTop (mkF m 118 #[.val (.int p1), .val (.int p2), .val (.ref b3), .val (.ref w_CANCELED), .val (.ref w_FAILED), .val (.int (1 : Int32))] [(.ref w_FAILED), (.ref w_CANCELED)]))
      have f_274 := (Exa.wr W28 f_27)
      have f_275 := (F_rank_w_CANCELED.keep K28 nin0)
      have f_276 := (F_rank_w_FAILED.keep K28 nin0)
      obtain ⟨cq277, kq277, q277a, q277b, q277c⟩ := isOf hZ e273 f_274
      obtain ⟨_, _, ⟨T277, L277, k277, n277⟩, -, X277, ⟨Lc277, hQ277, l277, y277, z277⟩, st277⟩ := X273.virtualBack hx (y := (⟨"com/example/charge_ledger/chargeledger/model/PaymentStatus", "outranks", "(Lcom/example/charge_ledger/chargeledger/model/PaymentStatus;)Z"⟩ : MethodName)) (z := (⟨"com/example/charge_ledger/chargeledger/model/PaymentStatus", "outranks", "(Lcom/example/charge_ledger/chargeledger/model/PaymentStatus;)Z"⟩ : MethodName)) hown (mvT hZ (hw _ (List.mem_of_getElem? (i := 15) rfl))) (mvT hZ (hw _ (List.mem_of_getElem? (i := 16) rfl))) (notFace_of_selects (args := #[]) (mvT hZ (hw _ (List.mem_of_getElem? (i := 18) rfl)))) (mvT hZ (hw _ (List.mem_of_getElem? (i := 18) rfl))) (mvT hZ (hw _ (List.mem_of_getElem? (i := 17) rfl))) (by decide) (backOf (W := 0) (rm1_t l Z a0 hw [] w_CANCELED w_FAILED (1 : Int32) (0 : Int32) h28 n0 (Nat.le_trans Z0 K28.1) f_275 f_276 (by decide : ((0 : Int32) < (1 : Int32)))) hZ (hw _ (List.mem_of_getElem? (i := 19) rfl)) (hw _ (List.mem_of_getElem? (i := 3) rfl)) (by decide) (by decide)) q277a q277c (g := (mkF m 118 #[.val (.int p1), .val (.int p2), .val (.ref b3), .val (.ref w_CANCELED), .val (.ref w_FAILED), .val (.int (1 : Int32))] [(.ref w_FAILED), (.ref w_CANCELED)])) rfl (by rw [hml]; rfl) (Steps.refl _) (argsL := [(.ref w_FAILED)]) (rest := []) (lenOf pd_0 rfl) rfl (by show 2 * 0 + _ ≤ _; exact Nat.le_of_eq rfl) (hb hby at_118) (fun _ _ => ⟨rfl, e273, (by decide : 1 + 0 ≤ _), (by decide : 5 + 0 ≤ _)⟩)
      dsimp only [Pt.U, Pt.locs, Pt.cells, Pt.slots] at X277 l277 y277 z277 st277 hQ277
      subst l277 y277 z277
      obtain ⟨rfl, N277q, eq277⟩ := hQ277
      have N277 := Fr.app N28 N277q
      refine Go.tr st277 ?_
      show Go p e below _ (T277.setTop (mkF m 121 #[.val (.int p1), .val (.int p2), .val (.ref b3), .val (.ref w_CANCELED), .val (.ref w_FAILED), .val (.int (1 : Int32))] [(.int (1 : Int32))]))
      refine Go.st (fun _ kk => XS.iload X277.here hx rfl (hb hby at_121) rfl  kk) ?_
      show Go p e below _ (T277.setTop (mkF m 123 #[.val (.int p1), .val (.int p2), .val (.ref b3), .val (.ref w_CANCELED), .val (.ref w_FAILED), .val (.int (1 : Int32))] [(.int (1 : Int32)), (.int (1 : Int32))]))
      refine Go.st (fun _ kk => XS.icmpNo X277.here hx rfl (hb hby at_123) rfl (teq (by decide : ((1 : Int32) = (1 : Int32)))).2 kk) ?_
      show Go p e below _ (T277.setTop (mkF m 126 #[.val (.int p1), .val (.int p2), .val (.ref b3), .val (.ref w_CANCELED), .val (.ref w_FAILED), .val (.int (1 : Int32))] []))
      refine Go.st (fun _ kk => XS.iconst X277.here hx rfl (hb hby at_126) kk) ?_
      show Go p e below _ (T277.setTop (mkF m 127 #[.val (.int p1), .val (.int p2), .val (.ref b3), .val (.ref w_CANCELED), .val (.ref w_FAILED), .val (.int (1 : Int32))] [(.int (1 : Int32))]))
      refine Go.st (fun _ kk => XS.goto X277.here hx rfl (pc0 := 127) (pc' := 131) rfl (hb hby at_127) (by decide) (by decide) kk) ?_
      show Go p e below _ (T277.setTop (mkF m 131 #[.val (.int p1), .val (.int p2), .val (.ref b3), .val (.ref w_CANCELED), .val (.ref w_FAILED), .val (.int (1 : Int32))] [(.int (1 : Int32))]))
      exact Go.ret (Q := Q0 n0) X277 (v := some (.int (1 : Int32))) (fun h => by rw [Bd.returns] at h; cases h) Bd.notSynchronized (fun fs hr => retN X277 hx (t := .boolean) Bd.returns (by simp) (hb hby at_131) hr) eq277 ⟨rfl, N277⟩ (by decide) (by decide)
    · skip
      rw [hk234]
      show Go p e below _ (T28.setTop (mkF m 51 #[.val (.int p1), .val (.int p2), .val (.ref b3), .val (.ref w_CANCELED), .unset, .unset] [(.int (4 : Int32)), (.ref b3)]))
      obtain ⟨clq278, Arq278, caq278, saq278, naq278, haq278, gaq278⟩ := id V28
      have inq278 : ¬ ((4 : Int32) < 0 ∨ clq278.slots.size ≤ ((4 : Int32)).toNatClampNeg) := inb_of saq278 ⟨by decide, by decide⟩
      have atq278 : clq278.slots[((4 : Int32)).toNatClampNeg]? = some (.ref w_CANCELED) := haq278.at inq278 rfl
      refine Go.st (fun _ kk => X28.aaload hx (j := (4 : Int32)) (v := (.ref w_CANCELED)) (by rw [e28]; exact Arq278.1) (State.isArrayOf_alike hZ.alike Arq278.2.1) rfl Arq278.2.2 inq278 atq278 (g := (mkF m 51 #[.val (.int p1), .val (.int p2), .val (.ref b3), .val (.ref w_CANCELED), .unset, .unset] [(.int (4 : Int32)), (.ref b3)])) rfl rfl (hb hby at_51) _ kk) ?_
      show Go p e below _ (T28.setTop (mkF m 52 #[.val (.int p1), .val (.int p2), .val (.ref b3), .val (.ref w_CANCELED), .unset, .unset] [(.ref w_CANCELED)]))
      refine Go.st (fun _ kk => XS.astore X28.here hx rfl (hb hby at_52) rfl rfl (l' := #[.val (.int p1), .val (.int p2), .val (.ref b3), .val (.ref w_CANCELED), .val (.ref w_CANCELED), .unset]) rfl kk) ?_
      show Go p e below _ (T28.setTop (mkF m 54 #[.val (.int p1), .val (.int p2), .val (.ref b3), .val (.ref w_CANCELED), .val (.ref w_CANCELED), .unset] []))
      refine Go.st (fun _ kk => XS.aloadN X28.here hx rfl (hb hby at_54) rfl rfl  kk) ?_
      show Go p e below _ (T28.setTop (mkF m 55 #[.val (.int p1), .val (.int p2), .val (.ref b3), .val (.ref w_CANCELED), .val (.ref w_CANCELED), .unset] [(.ref w_CANCELED)]))
      have f_279 := (Sta.wr W28 (Sta.wr W23 (Sta.wr W18 f_14)))
      obtain ⟨T280, X280, e280, st280⟩ := getS2 X28 hx hZ hown (host := "") (Or.inl (hw _ (List.mem_of_getElem? (i := 8) rfl))) Via.refl e28 f_279 (g := (mkF m 55 #[.val (.int p1), .val (.int p2), .val (.ref b3), .val (.ref w_CANCELED), .val (.ref w_CANCELED), .unset] [(.ref w_CANCELED)])) rfl (hb hby at_55)
      refine Go.st st280 ?_
      show Go p e below _ (T280.setTop (mkF m 58 #[.val (.int p1), .val (.int p2), .val (.ref b3), .val (.ref w_CANCELED), .val (.ref w_CANCELED), .unset] [(.ref w_SUCCEEDED), (.ref w_CANCELED)]))
      refine Go.st (fun _ kk => Jvm.RoadKit.acmp (g := (mkF m 58 #[.val (.int p1), .val (.int p2), .val (.ref b3), .val (.ref w_CANCELED), .val (.ref w_CANCELED), .unset] [(.ref w_SUCCEEDED), (.ref w_CANCELED)])) X280 hx rfl rfl rfl (pc0 := 58) (pc' := 79) (same := false) rfl (hb hby at_58) rfl (decide_eq_false fun q => (Fld.ne F_ordinal_w_CANCELED F_ordinal_w_SUCCEEDED (by decide)) (Value.ref.inj q)) (by decide) (by decide) kk) ?_
      show Go p e below _ (T280.setTop (mkF m 79 #[.val (.int p1), .val (.int p2), .val (.ref b3), .val (.ref w_CANCELED), .val (.ref w_CANCELED), .unset] []))
      refine Go.st (fun _ kk => XS.aloadN X280.here hx rfl (hb hby at_79) rfl rfl  kk) ?_
      show Go p e below _ (T280.setTop (mkF m 80 #[.val (.int p1), .val (.int p2), .val (.ref b3), .val (.ref w_CANCELED), .val (.ref w_CANCELED), .unset] [(.ref w_CANCELED)]))
      have f_281 := (Sta.wr W28 f_24)
      obtain ⟨T282, X282, e282, st282⟩ := getS2 X280 hx hZ hown (host := "") (Or.inl (hw _ (List.mem_of_getElem? (i := 12) rfl))) Via.refl e280 f_281 (g := (mkF m 80 #[.val (.int p1), .val (.int p2), .val (.ref b3), .val (.ref w_CANCELED), .val (.ref w_CANCELED), .unset] [(.ref w_CANCELED)])) rfl (hb hby at_80)
      refine Go.st st282 ?_
      show Go p e below _ (T282.setTop (mkF m 83 #[.val (.int p1), .val (.int p2), .val (.ref b3), .val (.ref w_CANCELED), .val (.ref w_CANCELED), .unset] [(.ref w_CANCELED), (.ref w_CANCELED)]))
      refine Go.st (fun _ kk => Jvm.RoadKit.acmp (g := (mkF m 83 #[.val (.int p1), .val (.int p2), .val (.ref b3), .val (.ref w_CANCELED), .val (.ref w_CANCELED), .unset] [(.ref w_CANCELED), (.ref w_CANCELED)])) X282 hx rfl rfl rfl (pc0 := 83) (pc' := 86) (same := true) rfl (hb hby at_83) rfl (decide_eq_true (congrArg Value.ref (rfl : w_CANCELED = w_CANCELED))) (by decide) (by decide) kk) ?_
      show Go p e below _ (T282.setTop (mkF m 86 #[.val (.int p1), .val (.int p2), .val (.ref b3), .val (.ref w_CANCELED), .val (.ref w_CANCELED), .unset] []))
      refine Go.st (fun _ kk => XS.aload X282.here hx rfl (hb hby at_86) rfl rfl  kk) ?_
      show Go p e below _ (T282.setTop (mkF m 88 #[.val (.int p1), .val (.int p2), .val (.ref b3), .val (.ref w_CANCELED), .val (.ref w_CANCELED), .unset] [(.ref w_CANCELED)]))
      obtain ⟨T283, X283, e283, st283⟩ := getS2 X282 hx hZ hown (host := "") (Or.inl (hw _ (List.mem_of_getElem? (i := 8) rfl))) Via.refl e282 f_279 (g := (mkF m 88 #[.val (.int p1), .val (.int p2), .val (.ref b3), .val (.ref w_CANCELED), .val (.ref w_CANCELED), .unset] [(.ref w_CANCELED)])) rfl (hb hby at_88)
      refine Go.st st283 ?_
      show Go p e below _ (T283.setTop (mkF m 91 #[.val (.int p1), .val (.int p2), .val (.ref b3), .val (.ref w_CANCELED), .val (.ref w_CANCELED), .unset] [(.ref w_SUCCEEDED), (.ref w_CANCELED)]))
      refine Go.st (fun _ kk => Jvm.RoadKit.acmp (g := (mkF m 91 #[.val (.int p1), .val (.int p2), .val (.ref b3), .val (.ref w_CANCELED), .val (.ref w_CANCELED), .unset] [(.ref w_SUCCEEDED), (.ref w_CANCELED)])) X283 hx rfl rfl rfl (pc0 := 91) (pc' := 94) (same := false) rfl (hb hby at_91) rfl (decide_eq_false fun q => (Fld.ne F_ordinal_w_CANCELED F_ordinal_w_SUCCEEDED (by decide)) (Value.ref.inj q)) (by decide) (by decide) kk) ?_
      show Go p e below _ (T283.setTop (mkF m 94 #[.val (.int p1), .val (.int p2), .val (.ref b3), .val (.ref w_CANCELED), .val (.ref w_CANCELED), .unset] []))
      refine Go.st (fun _ kk => XS.aload X283.here hx rfl (hb hby at_94) rfl rfl  kk) ?_
      show Go p e below _ (T283.setTop (mkF m 96 #[.val (.int p1), .val (.int p2), .val (.ref b3), .val (.ref w_CANCELED), .val (.ref w_CANCELED), .unset] [(.ref w_CANCELED)]))
      obtain ⟨T284, X284, e284, st284⟩ := getS2 X283 hx hZ hown (host := "") (Or.inl (hw _ (List.mem_of_getElem? (i := 12) rfl))) Via.refl e283 f_281 (g := (mkF m 96 #[.val (.int p1), .val (.int p2), .val (.ref b3), .val (.ref w_CANCELED), .val (.ref w_CANCELED), .unset] [(.ref w_CANCELED)])) rfl (hb hby at_96)
      refine Go.st st284 ?_
      show Go p e below _ (T284.setTop (mkF m 99 #[.val (.int p1), .val (.int p2), .val (.ref b3), .val (.ref w_CANCELED), .val (.ref w_CANCELED), .unset] [(.ref w_CANCELED), (.ref w_CANCELED)]))
      refine Go.st (fun _ kk => Jvm.RoadKit.acmp (g := (mkF m 99 #[.val (.int p1), .val (.int p2), .val (.ref b3), .val (.ref w_CANCELED), .val (.ref w_CANCELED), .unset] [(.ref w_CANCELED), (.ref w_CANCELED)])) X284 hx rfl rfl rfl (pc0 := 99) (pc' := 106) (same := true) rfl (hb hby at_99) rfl (decide_eq_true (congrArg Value.ref (rfl : w_CANCELED = w_CANCELED))) (by decide) (by decide) kk) ?_
      show Go p e below _ (T284.setTop (mkF m 106 #[.val (.int p1), .val (.int p2), .val (.ref b3), .val (.ref w_CANCELED), .val (.ref w_CANCELED), .unset] []))
      refine Go.st (fun _ kk => XS.iconst X284.here hx rfl (hb hby at_106) kk) ?_
      show Go p e below _ (T284.setTop (mkF m 107 #[.val (.int p1), .val (.int p2), .val (.ref b3), .val (.ref w_CANCELED), .val (.ref w_CANCELED), .unset] [(.int (0 : Int32))]))
      refine Go.st (fun _ kk => XS.istore X284.here hx rfl (hb hby at_107) rfl (l' := #[.val (.int p1), .val (.int p2), .val (.ref b3), .val (.ref w_CANCELED), .val (.ref w_CANCELED), .val (.int (0 : Int32))]) rfl kk) ?_
      show Go p e below _ (T284.setTop (mkF m 109 #[.val (.int p1), .val (.int p2), .val (.ref b3), .val (.ref w_CANCELED), .val (.ref w_CANCELED), .val (.int (0 : Int32))] []))
      refine Go.st (fun _ kk => XS.goto X284.here hx rfl (pc0 := 109) (pc' := 115) rfl (hb hby at_109) (by decide) (by decide) kk) ?_
      show Go p e below _ (T284.setTop (mkF m 115 #[.val (.int p1), .val (.int p2), .val (.ref b3), .val (.ref w_CANCELED), .val (.ref w_CANCELED), .val (.int (0 : Int32))] []))
      refine Go.st (fun _ kk => XS.aloadN X284.here hx rfl (hb hby at_115) rfl rfl  kk) ?_
      show Go p e below _ (T284.setTop (mkF m 116 #[.val (.int p1), .val (.int p2), .val (.ref b3), .val (.ref w_CANCELED), .val (.ref w_CANCELED), .val (.int (0 : Int32))] [(.ref w_CANCELED)]))
      refine Go.st (fun _ kk => XS.aload X284.here hx rfl (hb hby at_116) rfl rfl  kk) ?_
      show Go p e below _ (T284.setTop (mkF m 118 #[.val (.int p1), .val (.int p2), .val (.ref b3), .val (.ref w_CANCELED), .val (.ref w_CANCELED), .val (.int (0 : Int32))] [(.ref w_CANCELED), (.ref w_CANCELED)]))
      have f_285 := (Exa.wr W28 f_27)
      have f_286 := (F_rank_w_CANCELED.keep K28 nin0)
      obtain ⟨cq287, kq287, q287a, q287b, q287c⟩ := isOf hZ e284 f_285
      obtain ⟨_, _, ⟨T287, L287, k287, n287⟩, -, X287, ⟨Lc287, hQ287, l287, y287, z287⟩, st287⟩ := X284.virtualBack hx (y := (⟨"com/example/charge_ledger/chargeledger/model/PaymentStatus", "outranks", "(Lcom/example/charge_ledger/chargeledger/model/PaymentStatus;)Z"⟩ : MethodName)) (z := (⟨"com/example/charge_ledger/chargeledger/model/PaymentStatus", "outranks", "(Lcom/example/charge_ledger/chargeledger/model/PaymentStatus;)Z"⟩ : MethodName)) hown (mvT hZ (hw _ (List.mem_of_getElem? (i := 15) rfl))) (mvT hZ (hw _ (List.mem_of_getElem? (i := 16) rfl))) (notFace_of_selects (args := #[]) (mvT hZ (hw _ (List.mem_of_getElem? (i := 18) rfl)))) (mvT hZ (hw _ (List.mem_of_getElem? (i := 18) rfl))) (mvT hZ (hw _ (List.mem_of_getElem? (i := 17) rfl))) (by decide) (backOf (W := 0) (rm1_f l Z a0 hw [] w_CANCELED w_CANCELED (1 : Int32) (1 : Int32) h28 n0 (Nat.le_trans Z0 K28.1) f_286 f_286 (by decide : ¬ ((1 : Int32) < (1 : Int32)))) hZ (hw _ (List.mem_of_getElem? (i := 19) rfl)) (hw _ (List.mem_of_getElem? (i := 3) rfl)) (by decide) (by decide)) q287a q287c (g := (mkF m 118 #[.val (.int p1), .val (.int p2), .val (.ref b3), .val (.ref w_CANCELED), .val (.ref w_CANCELED), .val (.int (0 : Int32))] [(.ref w_CANCELED), (.ref w_CANCELED)])) rfl (by rw [hml]; rfl) (Steps.refl _) (argsL := [(.ref w_CANCELED)]) (rest := []) (lenOf pd_0 rfl) rfl (by show 2 * 0 + _ ≤ _; exact Nat.le_of_eq rfl) (hb hby at_118) (fun _ _ => ⟨rfl, e284, (by decide : 1 + 0 ≤ _), (by decide : 5 + 0 ≤ _)⟩)
      dsimp only [Pt.U, Pt.locs, Pt.cells, Pt.slots] at X287 l287 y287 z287 st287 hQ287
      subst l287 y287 z287
      obtain ⟨rfl, N287q, eq287⟩ := hQ287
      have N287 := Fr.app N28 N287q
      refine Go.tr st287 ?_
      show Go p e below _ (T287.setTop (mkF m 121 #[.val (.int p1), .val (.int p2), .val (.ref b3), .val (.ref w_CANCELED), .val (.ref w_CANCELED), .val (.int (0 : Int32))] [(.int (0 : Int32))]))
      refine Go.st (fun _ kk => XS.iload X287.here hx rfl (hb hby at_121) rfl  kk) ?_
      show Go p e below _ (T287.setTop (mkF m 123 #[.val (.int p1), .val (.int p2), .val (.ref b3), .val (.ref w_CANCELED), .val (.ref w_CANCELED), .val (.int (0 : Int32))] [(.int (0 : Int32)), (.int (0 : Int32))]))
      refine Go.st (fun _ kk => XS.icmpNo X287.here hx rfl (hb hby at_123) rfl (teq (by decide : ((0 : Int32) = (0 : Int32)))).2 kk) ?_
      show Go p e below _ (T287.setTop (mkF m 126 #[.val (.int p1), .val (.int p2), .val (.ref b3), .val (.ref w_CANCELED), .val (.ref w_CANCELED), .val (.int (0 : Int32))] []))
      refine Go.st (fun _ kk => XS.iconst X287.here hx rfl (hb hby at_126) kk) ?_
      show Go p e below _ (T287.setTop (mkF m 127 #[.val (.int p1), .val (.int p2), .val (.ref b3), .val (.ref w_CANCELED), .val (.ref w_CANCELED), .val (.int (0 : Int32))] [(.int (1 : Int32))]))
      refine Go.st (fun _ kk => XS.goto X287.here hx rfl (pc0 := 127) (pc' := 131) rfl (hb hby at_127) (by decide) (by decide) kk) ?_
      show Go p e below _ (T287.setTop (mkF m 131 #[.val (.int p1), .val (.int p2), .val (.ref b3), .val (.ref w_CANCELED), .val (.ref w_CANCELED), .val (.int (0 : Int32))] [(.int (1 : Int32))]))
      exact Go.ret (Q := Q0 n0) X287 (v := some (.int (1 : Int32))) (fun h => by rw [Bd.returns] at h; cases h) Bd.notSynchronized (fun fs hr => retN X287 hx (t := .boolean) Bd.returns (by simp) (hb hby at_131) hr) eq287 ⟨rfl, N287⟩ (by decide) (by decide)
set_option maxRecDepth 65536 in
set_option maxHeartbeats 40000000 in
theorem comes_1 {Post : Tables → Env → Array Value → State → Outcome → State → Prop} (hpost : ∀ tb e args s v u, (limb_1_1.after args s (.returned v) u = true ∧ limb_1_2.after args s (.returned v) u = true ∧ True) → FrameEnd s (.returned v) u (Jvm.fieldLocs frame_1_writes args s ++ Jvm.arrayLocs frame_1_arrays args s ++ Jvm.staticLocs frame_1_statics s) 16 128 → Post tb e args s (.returned v) u) :
    ArmFor flags0 classFile x code maxLocals ret World_1 tables_1 room_1 Calls_1 rest_1 Pre_1 Post := by
  intro l hfl _ _ p e ha hc hk s m args below hf hA hF happ hP
  obtain ⟨hcalls, hrest, hpre⟩ := hP
  obtain ⟨-, -, -, hnamed, -, -, -, hat⟩ := (Spec.applies_iff hf).mp happ
  obtain ⟨hg, hn⟩ := and_e (Cond.before_iff.mp (show (Jvm.Cond.and given_1 narrow_1).before args s = true from hpre))
  obtain ⟨hcount, hg⟩ := and_e hg
  obtain ⟨hg0, hg⟩ := and_e hg
  have hg1 := hg
  obtain ⟨w0, w1, rfl⟩ : ∃ w0 w1 : Value, args = #[w0, w1] := by
    have hs : args.size = 2 := by simpa [Cond.value, given_1] using hcount
    obtain ⟨L⟩ := args
    match L, hs with
    | [w0, w1], _ => exact ⟨w0, w1, rfl⟩
  have hw := fun d (hd : d ∈ tables_1) => atoms_spec (ws := Jvm.Cond.code x code maxLocals ret :: tables_1) hat d (List.mem_cons_of_mem _ hd)
  have hfit : Fit s := fun {y c} hc i hi => by
    obtain ⟨ha, rfl⟩ := Array.getElem?_eq_some_iff.mp hc
    have q := List.all_eq_true.mp ((Array.all_eq_true_iff_forall_mem.mp hF) _ (Array.getElem_mem ha)) i (List.mem_range.mpr hi)
    simpa [Array.getElem?_eq_getElem hi] using q
  obtain ⟨i0, ei0⟩ := is_v hg0
  obtain rfl : w0 = (.int i0) := Option.some.inj ei0
  obtain ⟨i1, ei1⟩ := is_v hg1
  obtain rfl : w1 = (.int i1) := Option.some.inj ei1
  obtain ⟨hn0, hn⟩ := and_e hn
  obtain ⟨hn1, hn⟩ := and_e hn
  obtain ⟨hn2, hn⟩ := and_e hn
  obtain ⟨hn3, hn⟩ := and_e hn
  obtain ⟨hn4, hn⟩ := and_e hn
  obtain ⟨hn5, hn⟩ := and_e hn
  obtain ⟨hn6, hn⟩ := and_e hn
  obtain ⟨hn7, hn⟩ := and_e hn
  obtain ⟨hn8, hn⟩ := and_e hn
  obtain ⟨hn9, hn⟩ := and_e hn
  obtain ⟨hn10, hn⟩ := and_e hn
  obtain ⟨hn11, hn⟩ := and_e hn
  obtain ⟨hn12, hn⟩ := and_e hn
  obtain ⟨hn13, hn⟩ := and_e hn
  have hn14 := hn
  obtain ⟨w_REQUIRES_PAYMENT_METHOD, ev_REQUIRES_PAYMENT_METHOD⟩ := exa_v hn0
  have S_REQUIRES_PAYMENT_METHOD := Sta.start ev_REQUIRES_PAYMENT_METHOD (Or.inr ⟨(hw _ (List.mem_of_getElem? (i := 3) rfl)), (hw _ (List.mem_of_getElem? (i := 4) rfl))⟩)
  have E_w_REQUIRES_PAYMENT_METHOD := Exa.start ev_REQUIRES_PAYMENT_METHOD hn0
  obtain ⟨w_PROCESSING, ev_PROCESSING⟩ := exa_v hn1
  have S_PROCESSING := Sta.start ev_PROCESSING (Or.inr ⟨(hw _ (List.mem_of_getElem? (i := 3) rfl)), (hw _ (List.mem_of_getElem? (i := 7) rfl))⟩)
  have E_w_PROCESSING := Exa.start ev_PROCESSING hn1
  obtain ⟨w_SUCCEEDED, ev_SUCCEEDED⟩ := exa_v hn2
  have S_SUCCEEDED := Sta.start ev_SUCCEEDED (Or.inr ⟨(hw _ (List.mem_of_getElem? (i := 3) rfl)), (hw _ (List.mem_of_getElem? (i := 9) rfl))⟩)
  have E_w_SUCCEEDED := Exa.start ev_SUCCEEDED hn2
  obtain ⟨w_FAILED, ev_FAILED⟩ := exa_v hn3
  have S_FAILED := Sta.start ev_FAILED (Or.inr ⟨(hw _ (List.mem_of_getElem? (i := 3) rfl)), (hw _ (List.mem_of_getElem? (i := 11) rfl))⟩)
  have E_w_FAILED := Exa.start ev_FAILED hn3
  obtain ⟨w_CANCELED, ev_CANCELED⟩ := exa_v hn4
  have S_CANCELED := Sta.start ev_CANCELED (Or.inr ⟨(hw _ (List.mem_of_getElem? (i := 3) rfl)), (hw _ (List.mem_of_getElem? (i := 13) rfl))⟩)
  have E_w_CANCELED := Exa.start ev_CANCELED hn4
  have F_ordinal_w_REQUIRES_PAYMENT_METHOD := fldStart ev_REQUIRES_PAYMENT_METHOD hn5
  have F_ordinal_w_SUCCEEDED := fldStart ev_SUCCEEDED hn6
  have F_ordinal_w_CANCELED := fldStart ev_CANCELED hn7
  have F_rank_w_REQUIRES_PAYMENT_METHOD := fldStart ev_REQUIRES_PAYMENT_METHOD hn8
  have F_rank_w_FAILED := fldStart ev_FAILED hn9
  have F_ordinal_w_PROCESSING := fldStart ev_PROCESSING hn10
  have F_rank_w_CANCELED := fldStart ev_CANCELED hn11
  have F_rank_w_PROCESSING := fldStart ev_PROCESSING hn12
  have F_ordinal_w_FAILED := fldStart ev_FAILED hn13
  have F_rank_w_SUCCEEDED := fldStart ev_SUCCEEDED hn14
  obtain ⟨n, o, h1, h2, h3, _, L, rfl, ⟨rfl, N⟩, hq⟩ := rm0 l s _ hw tables_1 i0 i1 w_REQUIRES_PAYMENT_METHOD w_PROCESSING w_SUCCEEDED w_FAILED w_CANCELED s.heap s.heap.size (Nat.le_refl _) S_REQUIRES_PAYMENT_METHOD E_w_REQUIRES_PAYMENT_METHOD S_PROCESSING E_w_PROCESSING S_SUCCEEDED E_w_SUCCEEDED S_FAILED E_w_FAILED S_CANCELED E_w_CANCELED F_ordinal_w_REQUIRES_PAYMENT_METHOD F_ordinal_w_SUCCEEDED F_ordinal_w_CANCELED F_rank_w_REQUIRES_PAYMENT_METHOD F_rank_w_FAILED F_ordinal_w_PROCESSING F_rank_w_CANCELED F_rank_w_PROCESSING F_ordinal_w_FAILED F_rank_w_SUCCEEDED p e ha hc hk s m _ below hf ((Spec.applies_iff_loose hf).mp happ).1 ⟨rfl, State.Warmed39.refl s, rfl⟩ trivial
  refine ⟨n, _, h1, h2, h3, hpost _ _ _ _ _ _ ⟨Cond.after_iff.mpr rfl, Cond.after_iff.mpr (eq_i res_at (Term.int_eval (1)) rfl), trivial⟩ ⟨hq.1, hq.2.1, (hq.2.2.sift fun y hy => Or.inr (N y hy)).mono (by decide) (by decide)⟩⟩
theorem main_1_1 : Claimed_1_1 := comes_1 fun _ _ _ _ _ _ h hF => ⟨h.1, hF⟩
theorem main_1_2 : Claimed_1_2 := comes_1 fun _ _ _ _ _ _ h hF => ⟨h.2.1, hF⟩
end Jvm.Pilot.@@N@@
namespace Jvm.Pilot.@@N@@
open Jvm Jvm.ClassFile Sem Op Lib Jvm.Free Jvm.Stand Jvm.Pilot.@@N@@.Jvm.D
/-! MADE BY PROGRAM (witnessworld.py) out of the Statement's table words and the real class files: 13 classes; the members and pool entries that the words name. The judged class is class 1, her method 1. -/
namespace start1
open Jvm.ClassFile
def u (s : String) : CpInfo := .utf8 (stringToUtf16 s)
/-- a pool by its gaps: so many unusable entries, then the entry; so many at the end -/
def gap : Nat → List CpInfo → List CpInfo
  | 0, r => r
  | n + 1, r => .unusable :: gap n r
def poolList (es : List (Nat × CpInfo)) (last : Nat) : List CpInfo := es.foldr (fun e r => gap e.1 (e.2 :: r)) (gap last [])
def pool (es : List (Nat × CpInfo)) (last : Nat) : Array CpInfo := ⟨poolList es last⟩
def fileOf (pool : Array CpInfo) (this : Nat) (attrs : Array Attribute := #[]) (ms : Array MethodInfo := #[]) (fl : Nat := 33) (sup : Nat := 0) (ifs : Array Nat := #[]) (fds : Array FieldInfo := #[]) : ClassFile where
  minorVersion := 0
  majorVersion := 65
  constantPool := pool
  accessFlags := fl
  thisClass := this
  superClass := sup
  interfaces := ifs
  fields := fds
  methods := ms
  attributes := attrs
def plain (name : String) (sup : Option ClassId) : Class where
  name := name
  kind := .ordinary
  loader := none
  accessFlags := 33
  super := sup
  interfaces := #[]
  cf := none
  fields := #[]
  methods := #[]
  instanceTypes := #[]
  staticTypes := #[]
  resolved := #[]
  callSites := []
  init := .initialized
  statics := none
  mirror := none

def pool0 : Array CpInfo := pool [(5, u "<init>"), (0, u "()V"), (1, .class_ 10), (1, u "java/lang/Object")] 113

def k0m0 : Method := { name := "<init>", desc := "()V", sig := { parameters := [], returnType := none }, accessFlags := 1, code := none }
/-- java/lang/Object -/
def k0 : Class := { plain "java/lang/Object" none with
  accessFlags := 33
  interfaces := #[]
  cf := some (fileOf pool0 8 #[] #[{ accessFlags := 1, nameIndex := 5, descriptorIndex := 6, attributes := #[] }] 33 0 #[] #[])
  fields := #[]
  methods := #[k0m0]
  instanceTypes := #[]
  staticTypes := #[]
  resolved := Array.replicate 124 none
  statics := none }

def pool1 : Array CpInfo := pool [(2, .class_ 4), (1, u "java/lang/Object"), (0, u "<init>"), (0, u "()V"), (0, .class_ 8), (0, u "com/example/charge_ledger/chargeledger/model/PaymentStatus"), (0, .fieldref 7 10), (0, .nameAndType 11 12), (0, u "REQUIRES_PAYMENT_METHOD"), (0, u "Lcom/example/charge_ledger/chargeledger/model/PaymentStatus;"), (0, .fieldref 7 14), (0, .nameAndType 15 12), (0, u "PROCESSING"), (0, .fieldref 7 17), (0, .nameAndType 18 12), (0, u "SUCCEEDED"), (0, .fieldref 7 20), (0, .nameAndType 21 12), (0, u "FAILED"), (0, .fieldref 7 23), (0, .nameAndType 24 12), (0, u "CANCELED"), (0, .integer 2147483647), (0, .methodref 7 27), (0, .nameAndType 28 29), (0, u "outranks"), (0, u "(Lcom/example/charge_ledger/chargeledger/model/PaymentStatus;)Z"), (0, .class_ 31), (0, u "com/example/charge_ledger/chargeledger/model/PaymentStatusOutranksPinLaw"), (2, u "law"), (0, u "(II)Z")] 5

def k1m0 : Method := { name := "<init>", desc := "()V", sig := { parameters := [], returnType := none }, accessFlags := 1, code := none }
def k1c1 : Code := { maxStack := 4, maxLocals := 6, code := code, exceptionTable := #[], attributes := #[] }
def k1m1 : Method := { name := "law", desc := "(II)Z", sig := { parameters := [.int, .int], returnType := some .boolean }, accessFlags := 9, code := some k1c1 }
/-- com/example/charge_ledger/chargeledger/model/PaymentStatusOutranksPinLaw -/
def k1 : Class := { plain "com/example/charge_ledger/chargeledger/model/PaymentStatusOutranksPinLaw" (some 0) with
  accessFlags := 49
  interfaces := #[]
  cf := some (fileOf pool1 30 #[] #[{ accessFlags := 1, nameIndex := 5, descriptorIndex := 6, attributes := #[] }, { accessFlags := 9, nameIndex := 34, descriptorIndex := 35, attributes := #[] }] 49 2 #[] #[])
  fields := #[]
  methods := #[k1m0, k1m1]
  instanceTypes := #[]
  staticTypes := #[]
  resolved := Array.replicate 41 none
  statics := none }

def pool2 : Array CpInfo := pool [(1, .class_ 2), (0, u "java/lang/constant/Constable"), (0, .class_ 4), (0, u "java/lang/Object")] 6

/-- java/lang/constant/Constable -/
def k2 : Class := { plain "java/lang/constant/Constable" (some 0) with
  accessFlags := 1537
  interfaces := #[]
  cf := some (fileOf pool2 1 #[] #[] 1537 3 #[] #[])
  fields := #[]
  methods := #[]
  instanceTypes := #[]
  staticTypes := #[]
  resolved := Array.replicate 11 none
  statics := none }

def pool3 : Array CpInfo := pool [(1, .class_ 2), (0, u "java/lang/Comparable"), (0, .class_ 4), (0, u "java/lang/Object")] 7

/-- java/lang/Comparable -/
def k3 : Class := { plain "java/lang/Comparable" (some 0) with
  accessFlags := 1537
  interfaces := #[]
  cf := some (fileOf pool3 1 #[] #[] 1537 3 #[] #[])
  fields := #[]
  methods := #[]
  instanceTypes := #[]
  staticTypes := #[]
  resolved := Array.replicate 12 none
  statics := none }

def pool4 : Array CpInfo := pool [(1, .class_ 2), (0, u "java/io/Serializable"), (0, .class_ 4), (0, u "java/lang/Object")] 2

/-- java/io/Serializable -/
def k4 : Class := { plain "java/io/Serializable" (some 0) with
  accessFlags := 1537
  interfaces := #[]
  cf := some (fileOf pool4 1 #[] #[] 1537 3 #[] #[])
  fields := #[]
  methods := #[]
  instanceTypes := #[]
  staticTypes := #[]
  resolved := Array.replicate 7 none
  statics := none }

def pool5 : Array CpInfo := pool [(2, .class_ 4), (1, u "java/lang/Enum"), (0, u "name"), (0, u "Ljava/lang/String;"), (2, u "ordinal"), (0, u "I"), (1, .class_ 14), (1, u "java/lang/Object"), (4, u "hash"), (86, .class_ 108), (1, u "java/lang/Enum$EnumDesc"), (2, .class_ 112), (0, u "java/lang/constant/Constable"), (0, .class_ 114), (0, u "java/lang/Comparable"), (0, .class_ 116), (0, u "java/io/Serializable")] 87

/-- java/lang/Enum -/
def k5 : Class := { plain "java/lang/Enum" (some 0) with
  accessFlags := 1057
  interfaces := #[2, 3, 4]
  cf := some (fileOf pool5 2 #[.nestMembers #[106]] #[] 1057 12 #[111, 113, 115] #[{ accessFlags := 18, nameIndex := 5, descriptorIndex := 6, attributes := #[] }, { accessFlags := 18, nameIndex := 9, descriptorIndex := 10, attributes := #[] }, { accessFlags := 2, nameIndex := 19, descriptorIndex := 10, attributes := #[] }])
  fields := #[{ name := "name", type := (.object "java/lang/String"), accessFlags := 18, slot := 0, constantValue := 0 }, { name := "ordinal", type := .int, accessFlags := 18, slot := 1, constantValue := 0 }, { name := "hash", type := .int, accessFlags := 2, slot := 2, constantValue := 0 }]
  methods := #[]
  instanceTypes := #[(.object "java/lang/String"), .int, .int]
  staticTypes := #[]
  resolved := Array.replicate 204 none
  statics := none }

def pool6 : Array CpInfo := pool [(1, .class_ 2), (0, u "com/example/charge_ledger/chargeledger/model/PaymentStatus"), (2, u "REQUIRES_PAYMENT_METHOD"), (0, u "Lcom/example/charge_ledger/chargeledger/model/PaymentStatus;"), (2, u "PROCESSING"), (2, u "SUCCEEDED"), (2, u "FAILED"), (2, u "CANCELED"), (2, u "$VALUES"), (0, u "[Lcom/example/charge_ledger/chargeledger/model/PaymentStatus;"), (6, .class_ 31), (1, u "java/lang/Enum"), (8, u "stage"), (0, u "I"), (0, .fieldref 1 43), (0, .nameAndType 44 41), (0, u "rank"), (12, u "ENDED"), (14, u "outranks"), (0, u "(Lcom/example/charge_ledger/chargeledger/model/PaymentStatus;)Z")] 5

def k6c0 : Code := { maxStack := 2, maxLocals := 2, code := prog_8_method_6_code, exceptionTable := #[], attributes := #[] }
def k6m0 : Method := { name := "outranks", desc := "(Lcom/example/charge_ledger/chargeledger/model/PaymentStatus;)Z", sig := { parameters := [(.object "com/example/charge_ledger/chargeledger/model/PaymentStatus")], returnType := some .boolean }, accessFlags := 0, code := some k6c0 }
/-- com/example/charge_ledger/chargeledger/model/PaymentStatus -/
def k6 : Class := { plain "com/example/charge_ledger/chargeledger/model/PaymentStatus" (some 5) with
  accessFlags := 16433
  interfaces := #[]
  cf := some (fileOf pool6 1 #[] #[{ accessFlags := 0, nameIndex := 72, descriptorIndex := 73, attributes := #[] }] 16433 29 #[] #[{ accessFlags := 16409, nameIndex := 5, descriptorIndex := 6, attributes := #[] }, { accessFlags := 16409, nameIndex := 9, descriptorIndex := 6, attributes := #[] }, { accessFlags := 16409, nameIndex := 12, descriptorIndex := 6, attributes := #[] }, { accessFlags := 16409, nameIndex := 15, descriptorIndex := 6, attributes := #[] }, { accessFlags := 16409, nameIndex := 18, descriptorIndex := 6, attributes := #[] }, { accessFlags := 26, nameIndex := 57, descriptorIndex := 41, attributes := #[] }, { accessFlags := 18, nameIndex := 40, descriptorIndex := 41, attributes := #[] }, { accessFlags := 18, nameIndex := 44, descriptorIndex := 41, attributes := #[] }, { accessFlags := 4122, nameIndex := 21, descriptorIndex := 22, attributes := #[] }])
  fields := #[{ name := "REQUIRES_PAYMENT_METHOD", type := (.object "com/example/charge_ledger/chargeledger/model/PaymentStatus"), accessFlags := 16409, slot := 0, constantValue := 0 }, { name := "PROCESSING", type := (.object "com/example/charge_ledger/chargeledger/model/PaymentStatus"), accessFlags := 16409, slot := 1, constantValue := 0 }, { name := "SUCCEEDED", type := (.object "com/example/charge_ledger/chargeledger/model/PaymentStatus"), accessFlags := 16409, slot := 2, constantValue := 0 }, { name := "FAILED", type := (.object "com/example/charge_ledger/chargeledger/model/PaymentStatus"), accessFlags := 16409, slot := 3, constantValue := 0 }, { name := "CANCELED", type := (.object "com/example/charge_ledger/chargeledger/model/PaymentStatus"), accessFlags := 16409, slot := 4, constantValue := 0 }, { name := "ENDED", type := .int, accessFlags := 26, slot := 5, constantValue := 0 }, { name := "stage", type := .int, accessFlags := 18, slot := 3, constantValue := 0 }, { name := "rank", type := .int, accessFlags := 18, slot := 4, constantValue := 0 }, { name := "$VALUES", type := (.array (.object "com/example/charge_ledger/chargeledger/model/PaymentStatus")), accessFlags := 4122, slot := 6, constantValue := 0 }]
  methods := #[k6m0]
  instanceTypes := #[(.object "java/lang/String"), .int, .int, .int, .int]
  staticTypes := #[(.object "com/example/charge_ledger/chargeledger/model/PaymentStatus"), (.object "com/example/charge_ledger/chargeledger/model/PaymentStatus"), (.object "com/example/charge_ledger/chargeledger/model/PaymentStatus"), (.object "com/example/charge_ledger/chargeledger/model/PaymentStatus"), (.object "com/example/charge_ledger/chargeledger/model/PaymentStatus"), .int, (.array (.object "com/example/charge_ledger/chargeledger/model/PaymentStatus"))]
  resolved := Array.replicate 79 none
  statics := some 0 }

def pool7 : Array CpInfo := pool [(1, u "java/lang/Cloneable"), (0, .class_ 1), (0, u "java/lang/Object"), (0, .class_ 3)] 3

/-- java/lang/Cloneable -/
def k7 : Class := { plain "java/lang/Cloneable" (some 0) with
  accessFlags := 1537
  interfaces := #[]
  cf := some (fileOf pool7 2 #[] #[] 1537 4 #[] #[])
  fields := #[]
  methods := #[]
  instanceTypes := #[]
  staticTypes := #[]
  resolved := Array.replicate 8 none
  statics := none }

/-- the primitive byte -/
def k8 : Class := { plain "byte" none with kind := .primitive 'B', accessFlags := 0x411 }
/-- [B -/
def k9 : Class := { plain "[B" (some 0) with kind := .array 8 .byte, interfaces := #[7, 4], accessFlags := 1041 }

/-- the primitive int -/
def k10 : Class := { plain "int" none with kind := .primitive 'I', accessFlags := 0x411 }
/-- [I -/
def k11 : Class := { plain "[I" (some 0) with kind := .array 10 .int, interfaces := #[7, 4], accessFlags := 1041 }

/-- [Lcom/example/charge_ledger/chargeledger/model/PaymentStatus; -/
def k12 : Class := { plain "[Lcom/example/charge_ledger/chargeledger/model/PaymentStatus;" (some 0) with kind := .array 6 (.object "com/example/charge_ledger/chargeledger/model/PaymentStatus"), interfaces := #[7, 4], accessFlags := 1041 }

def heap : Heap := #[{ cls := 6, slots := #[.ref 1, .ref 2, .ref 3, .ref 4, .ref 5, .int 0, .null], vm := .statics 6 },
  { cls := 6, slots := #[.null, .int 0, .int 0, .int 0, .int 0], vm := .none },
  { cls := 6, slots := #[.null, .int 1, .int 0, .int 0, .int 0], vm := .none },
  { cls := 6, slots := #[.null, .int 2, .int 0, .int 0, .int 2], vm := .none },
  { cls := 6, slots := #[.null, .int 3, .int 0, .int 0, .int 0], vm := .none },
  { cls := 6, slots := #[.null, .int 4, .int 0, .int 0, .int 1], vm := .none }]
def classes : Array Class := #[k0, k1, k2, k3, k4, k5, k6, k7, k8, k9, k10, k11, k12]
def interned : List (Array UInt16 × Addr) := []
def slotsUsed : Nat := 32
def theMethod : MethodId := ⟨1, 1⟩
def args0 : Array Value := #[.int 5, .int 7]
def aboutOver (below : List Frame) : State where
  vm := { classes := classes, interned := interned.toArray }
  heap := heap
  slotsUsed := slotsUsed
  threads := #[{ frames := .invoking theMethod args0 :: below }]
def below0 : List Frame := [.native { method := ⟨0, 0⟩, args := #[] }]
def about1 : State := aboutOver below0
def p0 : Program := .bare "" "" ""
def e0 : Env := launch0.env 0 0 0
theorem w_frames : about1.frames = Frame.invoking theMethod args0 :: below0 := rfl
set_option maxRecDepth 65536 in
theorem w_args : argsFit about1.vm theMethod args0 = true := by decide +kernel
set_option maxRecDepth 65536 in
theorem w_heap : heapFits about1 = true := by decide +kernel
set_option maxRecDepth 65536 in
theorem w_runnable : about1.curStatus? = some .runnable := by decide +kernel
set_option maxRecDepth 65536 in
theorem w_alone : about1.alone = true := by decide +kernel
set_option maxRecDepth 65536 in
theorem w_named : about1.methodNamed? x = some theMethod := by decide +kernel
set_option maxRecDepth 65536 in
theorem w_hears : about1.hears theMethod below0 = true := by decide +kernel
set_option maxRecDepth 65536 in
theorem w_ripe : about1.ripe theMethod args0 below0 = true := by decide +kernel
theorem w_running : about1.status = .running := rfl
set_option maxRecDepth 65536 in
theorem w_room : about1.hasRoom e0.platform room_1 = true :=
  launch0.hasRoom_least _ room_1 (by decide +kernel) (by decide +kernel) (by decide +kernel) (by decide +kernel) (by decide +kernel) (by decide +kernel)
theorem allAtoms_all (ts : List Jvm.Cond) (a : Array Jvm.Value) (st : Jvm.State) : (allAtoms ts).before a st = ts.all (fun c => c.before a st) := by
  induction ts with
  | nil => rfl
  | cons c t ih =>
    show (Jvm.Cond.and c (allAtoms t)).before a st = _
    rw [Jvm.Cond.before_and, ih, List.all_cons]
def words1 : List Jvm.Cond := Jvm.Cond.code x code maxLocals ret :: tables_1
/-- a 'code' word, met by the world's own term for the bytes: nothing is compared byte by byte -/
theorem code_word {y : MethodName} {bytes : ByteArray} {mx : Nat} {rt : Option FieldType} {a : Array Value} {s : State} {m : MethodId} {meth : Method} {c : Code} (h1 : s.methodNamed? y = some m) (h2 : s.vm.method? m = some meth) (h3 : meth.code = some c) (h4 : c.code = bytes)
    (h5 : (c.maxLocals == mx && c.exceptionTable.isEmpty && decide (c.maxStack ≤ mostOperands) && decide (meth.sig.returnType = rt) && !meth.locks && decide (parseMethodDescriptor y.desc = some meth.sig)) = true) : (Jvm.Cond.code y bytes mx rt).before a s = true := by
  simp only [Bool.and_eq_true, beq_iff_eq, Bool.not_eq_true', decide_eq_true_eq] at h5
  obtain ⟨⟨⟨⟨⟨g1, g2⟩, g3⟩, g4⟩, g5⟩, g6⟩ := h5
  simp [Cond.before, Cond.holds, Cond.value, h1, h2, h3, h4, g1, g2, g3, g4, g5, g6]
def isCode : Jvm.Cond → Bool
  | .code _ _ _ _ => true
  | _ => false
theorem all_split {L : List Jvm.Cond} {P : Jvm.Cond → Bool} (h1 : L.all (fun c => isCode c || P c) = true) (h2 : ∀ c ∈ L.filter isCode, P c = true) : L.all P = true := by
  refine List.all_eq_true.mpr fun c hc => ?_
  have h := List.all_eq_true.mp h1 c hc
  rcases Bool.eq_false_or_eq_true (isCode c) with hi | hi
  · exact h2 c (List.mem_filter.mpr ⟨hc, hi⟩)
  · simpa [hi] using h
set_option maxRecDepth 65536 in
theorem w_c0 : (Jvm.Cond.code x code maxLocals ret).before args0 about1 = true := code_word (m := ⟨1, 1⟩) (meth := k1m1) (c := k1c1) (by decide +kernel) rfl rfl rfl (by decide +kernel)
set_option maxRecDepth 65536 in
theorem w_c1 : (Jvm.Cond.code ({ cls := "com/example/charge_ledger/chargeledger/model/PaymentStatus", name := "outranks", desc := "(Lcom/example/charge_ledger/chargeledger/model/PaymentStatus;)Z" } : Jvm.MethodName) prog_8_method_6_code (2 : Nat) (Option.some Jvm.ClassFile.FieldType.boolean)).before args0 about1 = true := code_word (m := ⟨6, 0⟩) (meth := k6m0) (c := k6c0) (by decide +kernel) rfl rfl rfl (by decide +kernel)
def codes1 : List Jvm.Cond := [Jvm.Cond.code x code maxLocals ret, Jvm.Cond.code ({ cls := "com/example/charge_ledger/chargeledger/model/PaymentStatus", name := "outranks", desc := "(Lcom/example/charge_ledger/chargeledger/model/PaymentStatus;)Z" } : Jvm.MethodName) prog_8_method_6_code (2 : Nat) (Option.some Jvm.ClassFile.FieldType.boolean)]
set_option maxRecDepth 65536 in
theorem codes_eq : words1.filter isCode = codes1 := rfl
theorem w_codes : ∀ c ∈ words1.filter isCode, c.before args0 about1 = true := by
  rw [codes_eq]
  intro c hc
  simp only [codes1, List.mem_cons, List.not_mem_nil, or_false] at hc
  rcases hc with rfl | rfl
  · exact w_c0
  · exact w_c1
set_option maxRecDepth 65536 in
theorem w_t1 : words1.all (fun c => isCode c || c.before args0 about1) = true := by decide +kernel
theorem w_tables : (allAtoms (Jvm.Cond.code x code maxLocals ret :: tables_1)).before args0 about1 = true := by
  rw [allAtoms_all]
  show words1.all (fun c => c.before args0 about1) = true
  refine all_split ?_ w_codes
  rw [w_t1]
set_option maxRecDepth 65536 in
theorem w_case : (Jvm.Cond.and given_1 narrow_1).before args0 about1 = true := by decide +kernel
theorem w_applies : (headSpec (Jvm.Cond.code x code maxLocals ret :: tables_1) room_1).applies x e0.platform about1 = true :=
  (Spec.applies_iff w_frames).mpr ⟨w_running, w_runnable, w_alone, w_named, w_hears, w_ripe, w_room, w_tables⟩
theorem atStart : AtStart classFile x code maxLocals ret World_1 tables_1 room_1 Calls_1 rest_1 Pre_1 launch0 p0 e0 about1 theMethod args0 below0 :=
  ⟨lists_1, trivial, launch0.admits_env _ _ _, launch0.least_env, fairChoices_fair.cas, fairChoices_fair.clock, w_frames, w_args, w_heap, w_applies, trivial, trivial, w_case⟩
end start1
theorem witness_1 : WitnessClaimed_1 := ⟨start1.p0, start1.e0, start1.about1, start1.theMethod, start1.args0, start1.below0, start1.atStart⟩
end Jvm.Pilot.@@N@@
