import JvmDerived
import JvmDerived.Pilot.@@N@@Statement
import JvmDerived.Pilot.@@N@@Code
set_option linter.unusedVariables false
set_option linter.unusedSimpArgs false
namespace Jvm.RoadKit
open Sem ClassFile Op Lib Jvm.Stand Jvm.Free Jvm.LawKit
section Own
variable {p : Program} {l : Launch} {e : Env} {R : Room} {s : State} {m : MethodId} {args : Array Value} {below : List Frame} {meth : Method} {c : Code} {T : State} {locs : List Loc} {cells slots : Nat} {Z : State} {h h' : Heap}
/-- from U the run comes to an end that G allows -/
def Go (p : Program) (e : Env) (below : List Frame) (G : Outcome → State → Prop) (U : State) : Prop := ∃ s₂ o, Steps p.tables e below U s₂ ∧ s₂.status = .running ∧ Ended s₂ below o ∧ G o s₂
theorem Go.st {G : Outcome → State → Prop} {U V : State} (h : ∀ t, Steps p.tables e below V t → Steps p.tables e below U t) (k : Go p e below G V) : Go p e below G U := by
  obtain ⟨s₂, o, a, r⟩ := k; exact ⟨s₂, o, h _ a, r⟩
theorem Go.tr {G : Outcome → State → Prop} {U V : State} (h : Steps p.tables e below U V) (k : Go p e below G V) : Go p e below G U := by
  obtain ⟨s₂, o, a, r⟩ := k; exact ⟨s₂, o, h.trans a, r⟩
theorem Go.en {G : Outcome → State → Prop} {g g' : JFrame} (q : g = g') (k : Go p e below G (T.setTop g')) : Go p e below G (T.setTop g) := q ▸ k
theorem Go.ret {Q : Option Value → Heap → List Loc → Prop} {K N : Nat} {U : State} (X : Stand p l e R s m args below meth c T locs cells slots) {v : Option Value} (hv : meth.sig.returnType = none → v = none) (hlk : meth.locks = false)
    (st : ∀ fs, (∀ (f : JFrame) (acts : List Action), f.method = m → f.locked = none → f.entered = [] → (doReturn e (T.setTop f) acts v).1 = T.setFrames fs) → Steps p.tables e below U (T.setFrames fs)) (eT : T.heap = h) (hQ : Q v h locs) (hk : cells ≤ K) (hn : slots ≤ N) :
    Go p e below (fun o s₂ => ∃ v L, o = .returned v ∧ Q v s₂.heap L ∧ FrameEnd s o s₂ L K N) U := by
  subst eT
  obtain ⟨fs, hr, hrun, hended, hW, hsame⟩ := X.leave hv hlk
  exact ⟨_, _, st fs hr, hrun, hended, _, _, rfl, hQ, ⟨_, rfl⟩, hW, hsame.mono hk hn⟩
theorem Go.retW {Q : Option Value → Heap → List Loc → Prop} {K N k0 : Nat} {U : State} {vm0 : Vm} (hS : s.Since vm0 k0) (hk0 : k0 ≤ h.size) (X : Stand p l e R (s.setVm vm0) m args below meth c T locs cells slots) {v : Option Value} (hv : meth.sig.returnType = none → v = none) (hlk : meth.locks = false)
    (st : ∀ fs, (∀ (f : JFrame) (acts : List Action), f.method = m → f.locked = none → f.entered = [] → (doReturn e (T.setTop f) acts v).1 = T.setFrames fs) → Steps p.tables e below U (T.setFrames fs)) (eT : T.heap = h) (hQ : Q v h locs) (hk : cells ≤ K) (hn : slots ≤ N) :
    Go p e below (fun o s₂ => ∃ v L, o = .returned v ∧ Q v s₂.heap L ∧ ReturnedEndW s o s₂ L K N) U := by
  subst eT
  obtain ⟨fs, hr, hrun, hended, hR⟩ := X.leaveW hS hk0 hv hlk
  exact ⟨_, _, st fs hr, hrun, hended, _, _, rfl, hQ, hR.1, hR.2.1, hR.2.2.1, hR.2.2.2.mono hk hn⟩
/-- RoadKit's backOfS for a callee that is told what the constants hold -/
theorem backOfSC {y : MethodName} {bytes : ByteArray} {maxL : Nat} {ret : Option FieldType} {rm : Room} {len W : Nat} {as' : Array Value} {Q : Option Value → Heap → List Loc → Prop} {EL : List (String × Nat)} {vm0 : Vm} {a0 : Array Value}
    (hM : MetFree l y (head1 [Cond.code y bytes maxL ret] rm) (fun a U => a = as' ∧ Z.Warmed39 U.vm ∧ U.heap = h ∧ CHv Z EL U.vm h) (fun _ _ _ _ _ => True) (fun _ U o U' => ∃ v L, o = .returned v ∧ Q v U'.heap L ∧ ReturnedEndW U o U' L rm.cells rm.slots))
    (hZ : Z.Warmed39 vm0) (wc : (Cond.code y bytes maxL ret).before a0 Z = true) (wz : (Cond.initialized y.cls).before a0 Z = true) (hf : rm.frames + 1 ≤ R.frames) (hl : W + (maxL + 11) + rm.locals ≤ R.locals) (hEL : EW Z a0 EL) (H : CHv Z EL vm0 h) :
    BackS l R p e below (s.setVm vm0) args y len W (fun A a => a = as' ∧ A.U.heap = h ∧ A.cells + rm.cells ≤ R.cells ∧ A.slots + rm.slots ≤ R.slots)
      (fun A _ v B => ∃ L, Q v B.U.heap L ∧ B.locs = A.locs ++ L ∧ B.cells = A.cells + rm.cells ∧ B.slots = A.slots + rm.slots) :=
  BackS.of_freeW (bytes := bytes) (maxL := maxL) (ret := ret) (E := fun _ _ o t L k n => k = rm.cells ∧ n = rm.slots ∧ ∃ v, o = .returned v ∧ Q v t.heap L) hM hf hl
    (fun m meth c A a Y hp => by
      have hU : Z.Warmed39 A.U.vm := wtrans (s := s.setVm vm0) hZ Y.warmed
      exact ⟨by show (Cond.and _ .tt).before a A.U = true; rw [Cond.before_and, mv hU wc]; rfl, mv hU wc, mv hU wz, hp.2.2.1, hp.2.2.2⟩)
    (fun m meth c A a g mk Y hp => ⟨hp.1, wtrans (s := s.setVm vm0) hZ Y.warmed, hp.2.1, (CHv.at Y hZ hEL H).1⟩) (fun _ _ _ _ _ _ _ _ _ => trivial)
    (fun _ _ _ _ ⟨v, L, h1, h2, h3⟩ => ⟨L, _, _, h3, rfl, rfl, v, h1, h2⟩)
    (fun m meth c A a g mk v t L k n Y hp _ _ ⟨e1, e2, v', e3, e4⟩ => by cases e3; subst e1 e2; exact ⟨L, e4, rfl, rfl, rfl⟩)
theorem staKeep0 {C n d : String} {v : Value} (F : Sta Z h C n d v) (K : Keep h h' []) : Sta Z h' C n d v := by
  obtain ⟨cf, i, k, f, st, cell, h1, h2, h3, h4, h5, r⟩ := F
  exact ⟨cf, i, k, f, st, cell, h1, h2, h3, h4, K.2.1 _ _ h5 nin0, r⟩
theorem staKeepE {C n d O : String} {v : Value} {a : Addr} (F : Sta Z h C n d v) (K : Keep h h' [a]) (E : Exa Z h a O) : Sta Z h' C n d v := by
  obtain ⟨cf, i, k, f, st, cell, h1, h2, h3, h4, h5, h6, r⟩ := F
  obtain ⟨c', k', e1, -, -, e4, -⟩ := E
  have ne : st ≠ a := fun q => by subst q; cases h5.symm.trans e1; rw [h6] at e4; cases e4
  exact ⟨cf, i, k, f, st, cell, h1, h2, h3, h4, K.2.1 _ _ h5 (ninS ne nin0), h6, r⟩
/-- getfield where the sheet says the reference resolved -/
theorem getFR (X : Stand p l e R s m args below meth c T locs cells slots) (hx : p.tables.exec = Jvm.exec) (hZ : Z.Warmed39 s.vm) {a0 : Array Value} {own O n d : String} {index : Nat} (hown : s.vm.findClass own = some m.cls) (w : (Cond.fieldRef own index O n d).before a0 Z = true)
    (eT : T.heap = h) {a : Addr} {v : Value} (F : Fld Z h a O n d v) {g : JFrame} (hg : g.method = m) {rest : List Value} (hs : g.stack = .ref a :: rest) (hd : decode c.code g.pc = .ok (.getfield index, 3)) :
    ∀ target, Steps p.tables e below (T.setTop { g with pc := g.pc + 3, stack := v :: rest }) target → Steps p.tables e below (T.setTop g) target := by
  intro target hrest
  obtain ⟨cell, cf, k, i, f, h1, h2, h3, h4, -, -, h7⟩ := F
  have hW : Z.Warmed39 T.vm := wtrans hZ X.warmed
  have q := Cond.fieldRef_warmed39 hW w
  have hcur : (Z.setVm T.vm).vm.findClass own = some m.cls := by
    show T.vm.findClass own = some m.cls
    rw [X.warmed.alike.findClass]; exact hown
  obtain ⟨c', k', i', f', hi, hready⟩ := Cond.fieldRef_spec hcur q
  obtain ⟨k2, hi2, -⟩ := State.fieldFound?_setVm (s := Z) hW.alike h2
  have q3 : (Z.setVm T.vm).fieldFound? O n d = some (cf, k2, i, f) := hi2
  cases hi.symm.trans q3
  subst hg
  jvm_step X.here [hx, hd, getfield.wp_ready (e := e) (s := T) (f := g) X.here.top hready h3 hs (by rw [eT]; exact h1) h4 h7]
  exact hrest
/-- an array of that kind and length, whatever it holds -/
def Arn (Z : State) (h : Heap) (a : Addr) (ty : FieldType) (z : Int32) : Prop := ∃ c : Cell, Arr Z h a c ty ∧ c.slots.size = z.toNatClampNeg ∧ ¬ z < 0
section Arn
variable {a b : Addr} {ty : FieldType} {z : Int32} {sl : Nat} {v : Value} {ws : List Addr}
theorem Arn.lt (F : Arn Z h a ty z) : a < h.size := by obtain ⟨c, A, -⟩ := F; exact A.lt
theorem Arn.ext (F : Arn Z h a ty z) (E : Ext h h') : Arn Z h' a ty z := by obtain ⟨c, A, r⟩ := F; exact ⟨c, A.ext E, r⟩
theorem Arn.other (F : Arn Z h b ty z) (W : Wr h h' a sl v) (q : b ≠ a) : Arn Z h' b ty z := by obtain ⟨c, A, r⟩ := F; exact ⟨c, A.other W q, r⟩
theorem Arn.keep (F : Arn Z h a ty z) (K : Keep h h' ws) (q : a ∉ ws) : Arn Z h' a ty z := by obtain ⟨c, A, r⟩ := F; exact ⟨c, ⟨K.2.1 a c A.1 q, A.2⟩, r⟩
theorem Arn.set {c : Cell} (A : Arr Z h a c ty) (S : c.slots.size = z.toNatClampNeg) (q : ¬ z < 0) (W : Wr h h' a sl v) : Arn Z h' a ty z := ⟨_, A.same W, by rw [sz_set]; exact S, q⟩
theorem Arv.arn {k : ClassId} {vs : List Value} {dv : Value} (F : Arv Z h a k ty z vs dv) : Arn Z h a ty z := by obtain ⟨c, A, -, S, q, -⟩ := F; exact ⟨c, A, S, q⟩
end Arn
theorem staKeepA {C n d : String} {v : Value} {a : Addr} {ty : FieldType} {z : Int32} (F : Sta Z h C n d v) (K : Keep h h' [a]) (E : Arn Z h a ty z) : Sta Z h' C n d v := by
  obtain ⟨cf, i, k, f, st, cell, h1, h2, h3, h4, h5, h6, r⟩ := F
  obtain ⟨c', A, -⟩ := E
  have e4 := A.plain
  have ne : st ≠ a := fun q => by subst q; cases h5.symm.trans A.1; rw [h6] at e4; cases e4
  exact ⟨cf, i, k, f, st, cell, h1, h2, h3, h4, K.2.1 _ _ h5 (ninS ne nin0), h6, r⟩
theorem own_nn {n : Int32} (h : 0 ≤ n.toInt) : ¬ n < 0 := by rw [Int32.lt_iff_toInt_lt]; show ¬ n.toInt < 0; omega
theorem own_cap {n : Int32} {k : Nat} (h : n.toInt ≤ k) : n.toNatClampNeg ≤ k := by simp only [Int32.toNatClampNeg]; omega
theorem own_inc {i z : Int32} (h0 : ¬ i < 0) (h : i < z) : ¬ (i + 1) < 0 ∧ (i + 1).toInt = i.toInt + 1 := by
  have h1 := c_iadd i 1; have h2 := rng32 z; have h3 := rng32 i; have h4 := rng32 (i + 1)
  rw [Int32.lt_iff_toInt_lt] at h0 h ⊢
  have e0 : (0 : Int32).toInt = 0 := rfl
  have e1 : (1 : Int32).toInt = 1 := rfl
  rw [e0] at h0 ⊢; rw [e1] at h1
  omega
theorem own_ge {i z : Int32} (h : z.toInt ≤ i.toInt) : ¬ i < z := by rw [Int32.lt_iff_toInt_lt]; omega
theorem staInt {args : Array Value} {C n d : String} {k : Int32} (h : (Cond.eq (.static C n d) (.int k)).value args Z none Z [] = some true) (hi : (Cond.initializedFor C n d).before args Z = true ∨ ((Cond.initialized C).before args Z = true ∧ (Cond.laysStatic C n d).before args Z = true)) : Sta Z Z.heap C n d (.int k) := by
  obtain ⟨x, y, e1, e2, k1, -⟩ := cmp_v (Or.inl h)
  have e3 : (Term.int k).eval args Z none [] Z = some (.int k) := Term.int_eval k
  cases e2.symm.trans e3
  cases x with
  | int z =>
    have q : (Cond.eq (.static C n d) (.int k)).value args Z none Z [] = some (decide (z = k)) := by simp [Cond.value, e1, e3]
    exact (gotT q h) ▸ Sta.start e1 hi
  | _ => simp [Kin, Value.isRef] at k1
theorem fldNull {args : Array Value} {t : Term} {C n d : String} {a : Addr} (ev : t.eval args Z none [] Z = some (.ref a)) (h : (Cond.eq (.field t C n d) .null).value args Z none Z [] = some true) : Fld Z Z.heap a C n d .null := by
  have e1 := null_v h
  rw [fld_at ev] at e1
  exact Fld.start e1
theorem fldStart {args : Array Value} {t : Term} {C n d : String} {a : Addr} {k : Int32} (ev : t.eval args Z none [] Z = some (.ref a)) (h : (Cond.eq (.field t C n d) (.int k)).value args Z none Z [] = some true) : Fld Z Z.heap a C n d (.int k) := by
  obtain ⟨x, y, e1, e2, k1, -⟩ := cmp_v (Or.inl h)
  rw [fld_at ev] at e1
  have e3 : (Term.int k).eval args Z none [] Z = some (.int k) := Term.int_eval k
  cases e2.symm.trans e3
  cases x with
  | int z =>
    have q : (Cond.eq (.field t C n d) (.int k)).value args Z none Z [] = some (decide (z = k)) := by simp [Cond.value, (fld_at ev).trans e1, e3]
    exact (gotT q h) ▸ Fld.start e1
  | _ => simp [Kin, Value.isRef] at k1
end Own
end Jvm.RoadKit
namespace Jvm.Pilot.@@N@@
open Jvm Jvm.ClassFile Sem Op Lib Jvm.Free Jvm.Stand Jvm.LawKit Jvm.RoadKit Bundle Jvm.Pilot.@@N@@.Jvm.D
theorem own_k (x : Int32) : (x &&& (7 : Int32)) = (0 : Int32) ∨ (x &&& (7 : Int32)) = (1 : Int32) ∨ (x &&& (7 : Int32)) = (2 : Int32) ∨ (x &&& (7 : Int32)) = (3 : Int32) ∨ (x &&& (7 : Int32)) = (4 : Int32) ∨ (x &&& (7 : Int32)) = (5 : Int32) ∨ (x &&& (7 : Int32)) = (6 : Int32) ∨ (x &&& (7 : Int32)) = (7 : Int32) := by
  have h2 := c_mask x (7 : Int32) 3 (by decide) (by decide)
  generalize (x &&& (7 : Int32)) = k at *
  have h3 : k.toInt = 0 ∨ k.toInt = 1 ∨ k.toInt = 2 ∨ k.toInt = 3 ∨ k.toInt = 4 ∨ k.toInt = 5 ∨ k.toInt = 6 ∨ k.toInt = 7 := by omega
  rcases h3 with h | h | h | h | h | h | h | h
  · exact (Or.inl (Int32.toInt_inj.mp (h.trans (by decide))))
  · exact (Or.inr (Or.inl (Int32.toInt_inj.mp (h.trans (by decide)))))
  · exact (Or.inr (Or.inr (Or.inl (Int32.toInt_inj.mp (h.trans (by decide))))))
  · exact (Or.inr (Or.inr (Or.inr (Or.inl (Int32.toInt_inj.mp (h.trans (by decide)))))))
  · exact (Or.inr (Or.inr (Or.inr (Or.inr (Or.inl (Int32.toInt_inj.mp (h.trans (by decide))))))))
  · exact (Or.inr (Or.inr (Or.inr (Or.inr (Or.inr (Or.inl (Int32.toInt_inj.mp (h.trans (by decide)))))))))
  · exact (Or.inr (Or.inr (Or.inr (Or.inr (Or.inr (Or.inr (Or.inl (Int32.toInt_inj.mp (h.trans (by decide))))))))))
  · exact (Or.inr (Or.inr (Or.inr (Or.inr (Or.inr (Or.inr (Or.inr (Int32.toInt_inj.mp (h.trans (by decide))))))))))

theorem pn_0 : plainName "com/example/zarnitsa/zarnitsa/TypeIsBytesPinLaw" = true := by first | (simp [plainName, overriddenIn]; done) | decide +kernel
theorem ef_0 (m : MethodId) (x0 : Int32) : entryFrame m #[(.int x0)] maxLocals = mkF m 0 #[.val (.int x0), .unset, .unset, .unset] [] := by first | (simp [entryFrame, mkF, argsToLocals, Value.category, maxLocals]; done) | rfl
theorem d1_0 : decode prog_42_method_5_code 0 = .ok (.aload_n 0, 1) := by decide +kernel
theorem d1_1 : decode prog_42_method_5_code 1 = .ok (.getstatic 19, 3) := by decide +kernel
theorem d1_4 : decode prog_42_method_5_code 4 = .ok (.if_acmp .eq 17, 3) := by decide +kernel
theorem d1_7 : decode prog_42_method_5_code 7 = .ok (.aload_n 0, 1) := by decide +kernel
theorem d1_8 : decode prog_42_method_5_code 8 = .ok (.getstatic 22, 3) := by decide +kernel
theorem d1_11 : decode prog_42_method_5_code 11 = .ok (.if_acmp .eq 10, 3) := by decide +kernel
theorem d1_14 : decode prog_42_method_5_code 14 = .ok (.aload_n 0, 1) := by decide +kernel
theorem d1_15 : decode prog_42_method_5_code 15 = .ok (.getstatic 25, 3) := by decide +kernel
theorem d1_18 : decode prog_42_method_5_code 18 = .ok (.if_acmp .ne 7, 3) := by decide +kernel
theorem d1_21 : decode prog_42_method_5_code 21 = .ok (.iconst 1, 1) := by decide +kernel
theorem d1_22 : decode prog_42_method_5_code 22 = .ok (.goto 4, 3) := by decide +kernel
theorem d1_25 : decode prog_42_method_5_code 25 = .ok (.iconst 0, 1) := by decide +kernel
theorem d1_26 : decode prog_42_method_5_code 26 = .ok (.ireturn, 1) := by decide +kernel
theorem pn_1 : plainName "com/example/zarnitsa/zarnitsa/FastTemplate$Type" = true := by first | (simp [plainName, overriddenIn]; done) | decide +kernel
theorem ef_1 (m : MethodId) (x0 : Addr) : entryFrame m #[(.ref x0)] 1 = mkF m 0 #[.val (.ref x0)] [] := by first | (simp [entryFrame, mkF, argsToLocals, Value.category]; done) | rfl
theorem pd_0 : parseMethodDescriptor "()Z" = some ⟨[], some .boolean⟩ := by decide +kernel
def Qm1_t (Z : State) (a1 : Addr) (w2 : Addr) (h0 : Heap) (n0 : Nat) (v : Option Value) (h : Heap) (L : List Loc) : Prop := v = some (.int (1 : Int32)) ∧ Fr n0 L ∧ h = h0
set_option maxRecDepth 65536 in
set_option maxHeartbeats 40000000 in
theorem rm1_t (l : Launch) (Z : State) (a0 : Array Value) (hw : ∀ d ∈ tables_1, d.before a0 Z = true) (ws : List Jvm.Cond) (a1 : Addr) (w2 : Addr) (h0 : Heap) (n0 : Nat) (Z0 : n0 ≤ h0.size) (S_ASCII : Sta Z h0 "com/example/zarnitsa/zarnitsa/FastTemplate$Type" "ASCII" "Lcom/example/zarnitsa/zarnitsa/FastTemplate$Type;" (.ref w2)) (hd0 : a1 = w2) :
    MetFree l (⟨"com/example/zarnitsa/zarnitsa/FastTemplate$Type", "isBytes", "()Z"⟩ : MethodName) (head1 (Jvm.Cond.code (⟨"com/example/zarnitsa/zarnitsa/FastTemplate$Type", "isBytes", "()Z"⟩ : MethodName) prog_42_method_5_code 1 (some .boolean) :: ws) ({ frames := 0, cells := 0, slots := 0, locals := 0 } : Room)) (fun a U => a = #[(.ref a1)] ∧ Z.Warmed39 U.vm ∧ U.heap = h0) (fun _ _ _ _ _ => True) (fun _ U o U' => ∃ v L, o = .returned v ∧ Qm1_t Z a1 w2 h0 n0 v U'.heap L ∧ FrameEnd U o U' L ({ frames := 0, cells := 0, slots := 0, locals := 0 } : Room).cells ({ frames := 0, cells := 0, slots := 0, locals := 0 } : Room).slots) := by
  refine MetFree.of_bodySF (plainFor_of_name pn_1) hisR ?_
  intro p e s m args below meth c s₁ Bd hml0 hP hK
  obtain ⟨rfl, hZ, hh⟩ := hP
  have hx := Bd.exec
  have hby := Bd.bytes
  have hml : c.maxLocals = 1 := hml0
  have hown : s.vm.findClass "com/example/zarnitsa/zarnitsa/FastTemplate$Type" = some m.cls := findClass_of_methodNamed Bd.named
  have hnm := (name_of_methodNamed Bd.named Bd.method).1
  have X0 : Stand p l e ({ frames := 0, cells := 0, slots := 0, locals := 0 } : Room) s m #[(.ref a1)] below meth c s₁ [] 0 0 := Stand.of_body Bd
  have e0 : s₁.heap = h0 := by rw [← hh, Bd.state]; rfl
  have N0 := Fr.nil n0
  refine Go.en (ef_1 m a1) ?_
  show Go p e below _ (s₁.setTop (mkF m 0 #[.val (.ref a1)] []))
  refine Go.st (fun _ kk => XS.aloadN X0.here hx rfl (hb hby d1_0) rfl rfl  kk) ?_
  show Go p e below _ (s₁.setTop (mkF m 1 #[.val (.ref a1)] [(.ref a1)]))
  obtain ⟨T3, X3, e3, st3⟩ := getS2 X0 hx hZ hown (host := "") (Or.inl (hw _ (List.mem_of_getElem? (i := 25) rfl))) Via.refl e0 S_ASCII (g := (mkF m 1 #[.val (.ref a1)] [(.ref a1)])) rfl (hb hby d1_1)
  refine Go.st st3 ?_
  show Go p e below _ (T3.setTop (mkF m 4 #[.val (.ref a1)] [(.ref w2), (.ref a1)]))
  refine Go.st (fun _ kk => Jvm.RoadKit.acmp (g := (mkF m 4 #[.val (.ref a1)] [(.ref w2), (.ref a1)])) X3 hx rfl rfl rfl (pc0 := 4) (pc' := 21) (same := true) rfl (hb hby d1_4) rfl (decide_eq_true (congrArg Value.ref hd0)) (by decide) (by decide) kk) ?_
  show Go p e below _ (T3.setTop (mkF m 21 #[.val (.ref a1)] []))
  refine Go.st (fun _ kk => XS.iconst X3.here hx rfl (hb hby d1_21) kk) ?_
  show Go p e below _ (T3.setTop (mkF m 22 #[.val (.ref a1)] [(.int (1 : Int32))]))
  refine Go.st (fun _ kk => XS.goto X3.here hx rfl (pc0 := 22) (pc' := 26) rfl (hb hby d1_22) (by decide) (by decide) kk) ?_
  show Go p e below _ (T3.setTop (mkF m 26 #[.val (.ref a1)] [(.int (1 : Int32))]))
  exact Go.ret (Q := Qm1_t Z a1 w2 h0 n0) X3 (v := some (.int (1 : Int32))) (fun h => by rw [Bd.returns] at h; cases h) Bd.notSynchronized (fun fs hr => retN X3 hx (t := .boolean) Bd.returns (by simp) (hb hby d1_26) hr) e3 ⟨rfl, N0, rfl⟩ (by decide) (by decide)
def Qm1_ft (Z : State) (a1 : Addr) (w2 : Addr) (w4 : Addr) (h0 : Heap) (n0 : Nat) (v : Option Value) (h : Heap) (L : List Loc) : Prop := v = some (.int (1 : Int32)) ∧ Fr n0 L ∧ h = h0
set_option maxRecDepth 65536 in
set_option maxHeartbeats 40000000 in
theorem rm1_ft (l : Launch) (Z : State) (a0 : Array Value) (hw : ∀ d ∈ tables_1, d.before a0 Z = true) (ws : List Jvm.Cond) (a1 : Addr) (w2 : Addr) (w4 : Addr) (h0 : Heap) (n0 : Nat) (Z0 : n0 ≤ h0.size) (S_ASCII : Sta Z h0 "com/example/zarnitsa/zarnitsa/FastTemplate$Type" "ASCII" "Lcom/example/zarnitsa/zarnitsa/FastTemplate$Type;" (.ref w2)) (hd0 : ¬ (a1 = w2)) (S_UNICODE : Sta Z h0 "com/example/zarnitsa/zarnitsa/FastTemplate$Type" "UNICODE" "Lcom/example/zarnitsa/zarnitsa/FastTemplate$Type;" (.ref w4)) (hd1 : a1 = w4) :
    MetFree l (⟨"com/example/zarnitsa/zarnitsa/FastTemplate$Type", "isBytes", "()Z"⟩ : MethodName) (head1 (Jvm.Cond.code (⟨"com/example/zarnitsa/zarnitsa/FastTemplate$Type", "isBytes", "()Z"⟩ : MethodName) prog_42_method_5_code 1 (some .boolean) :: ws) ({ frames := 0, cells := 0, slots := 0, locals := 0 } : Room)) (fun a U => a = #[(.ref a1)] ∧ Z.Warmed39 U.vm ∧ U.heap = h0) (fun _ _ _ _ _ => True) (fun _ U o U' => ∃ v L, o = .returned v ∧ Qm1_ft Z a1 w2 w4 h0 n0 v U'.heap L ∧ FrameEnd U o U' L ({ frames := 0, cells := 0, slots := 0, locals := 0 } : Room).cells ({ frames := 0, cells := 0, slots := 0, locals := 0 } : Room).slots) := by
  refine MetFree.of_bodySF (plainFor_of_name pn_1) hisR ?_
  intro p e s m args below meth c s₁ Bd hml0 hP hK
  obtain ⟨rfl, hZ, hh⟩ := hP
  have hx := Bd.exec
  have hby := Bd.bytes
  have hml : c.maxLocals = 1 := hml0
  have hown : s.vm.findClass "com/example/zarnitsa/zarnitsa/FastTemplate$Type" = some m.cls := findClass_of_methodNamed Bd.named
  have hnm := (name_of_methodNamed Bd.named Bd.method).1
  have X0 : Stand p l e ({ frames := 0, cells := 0, slots := 0, locals := 0 } : Room) s m #[(.ref a1)] below meth c s₁ [] 0 0 := Stand.of_body Bd
  have e0 : s₁.heap = h0 := by rw [← hh, Bd.state]; rfl
  have N0 := Fr.nil n0
  refine Go.en (ef_1 m a1) ?_
  show Go p e below _ (s₁.setTop (mkF m 0 #[.val (.ref a1)] []))
  refine Go.st (fun _ kk => XS.aloadN X0.here hx rfl (hb hby d1_0) rfl rfl  kk) ?_
  show Go p e below _ (s₁.setTop (mkF m 1 #[.val (.ref a1)] [(.ref a1)]))
  obtain ⟨T3, X3, e3, st3⟩ := getS2 X0 hx hZ hown (host := "") (Or.inl (hw _ (List.mem_of_getElem? (i := 25) rfl))) Via.refl e0 S_ASCII (g := (mkF m 1 #[.val (.ref a1)] [(.ref a1)])) rfl (hb hby d1_1)
  refine Go.st st3 ?_
  show Go p e below _ (T3.setTop (mkF m 4 #[.val (.ref a1)] [(.ref w2), (.ref a1)]))
  refine Go.st (fun _ kk => Jvm.RoadKit.acmp (g := (mkF m 4 #[.val (.ref a1)] [(.ref w2), (.ref a1)])) X3 hx rfl rfl rfl (pc0 := 4) (pc' := 7) (same := false) rfl (hb hby d1_4) rfl (decide_eq_false fun q => hd0 (Value.ref.inj q)) (by decide) (by decide) kk) ?_
  show Go p e below _ (T3.setTop (mkF m 7 #[.val (.ref a1)] []))
  refine Go.st (fun _ kk => XS.aloadN X3.here hx rfl (hb hby d1_7) rfl rfl  kk) ?_
  show Go p e below _ (T3.setTop (mkF m 8 #[.val (.ref a1)] [(.ref a1)]))
  obtain ⟨T5, X5, e5, st5⟩ := getS2 X3 hx hZ hown (host := "") (Or.inl (hw _ (List.mem_of_getElem? (i := 26) rfl))) Via.refl e3 S_UNICODE (g := (mkF m 8 #[.val (.ref a1)] [(.ref a1)])) rfl (hb hby d1_8)
  refine Go.st st5 ?_
  show Go p e below _ (T5.setTop (mkF m 11 #[.val (.ref a1)] [(.ref w4), (.ref a1)]))
  refine Go.st (fun _ kk => Jvm.RoadKit.acmp (g := (mkF m 11 #[.val (.ref a1)] [(.ref w4), (.ref a1)])) X5 hx rfl rfl rfl (pc0 := 11) (pc' := 21) (same := true) rfl (hb hby d1_11) rfl (decide_eq_true (congrArg Value.ref hd1)) (by decide) (by decide) kk) ?_
  show Go p e below _ (T5.setTop (mkF m 21 #[.val (.ref a1)] []))
  refine Go.st (fun _ kk => XS.iconst X5.here hx rfl (hb hby d1_21) kk) ?_
  show Go p e below _ (T5.setTop (mkF m 22 #[.val (.ref a1)] [(.int (1 : Int32))]))
  refine Go.st (fun _ kk => XS.goto X5.here hx rfl (pc0 := 22) (pc' := 26) rfl (hb hby d1_22) (by decide) (by decide) kk) ?_
  show Go p e below _ (T5.setTop (mkF m 26 #[.val (.ref a1)] [(.int (1 : Int32))]))
  exact Go.ret (Q := Qm1_ft Z a1 w2 w4 h0 n0) X5 (v := some (.int (1 : Int32))) (fun h => by rw [Bd.returns] at h; cases h) Bd.notSynchronized (fun fs hr => retN X5 hx (t := .boolean) Bd.returns (by simp) (hb hby d1_26) hr) e5 ⟨rfl, N0, rfl⟩ (by decide) (by decide)
def Qm1_fft (Z : State) (a1 : Addr) (w2 : Addr) (w4 : Addr) (w6 : Addr) (h0 : Heap) (n0 : Nat) (v : Option Value) (h : Heap) (L : List Loc) : Prop := v = some (.int (1 : Int32)) ∧ Fr n0 L ∧ h = h0
set_option maxRecDepth 65536 in
set_option maxHeartbeats 40000000 in
theorem rm1_fft (l : Launch) (Z : State) (a0 : Array Value) (hw : ∀ d ∈ tables_1, d.before a0 Z = true) (ws : List Jvm.Cond) (a1 : Addr) (w2 : Addr) (w4 : Addr) (w6 : Addr) (h0 : Heap) (n0 : Nat) (Z0 : n0 ≤ h0.size) (S_ASCII : Sta Z h0 "com/example/zarnitsa/zarnitsa/FastTemplate$Type" "ASCII" "Lcom/example/zarnitsa/zarnitsa/FastTemplate$Type;" (.ref w2)) (hd0 : ¬ (a1 = w2)) (S_UNICODE : Sta Z h0 "com/example/zarnitsa/zarnitsa/FastTemplate$Type" "UNICODE" "Lcom/example/zarnitsa/zarnitsa/FastTemplate$Type;" (.ref w4)) (hd1 : ¬ (a1 = w4)) (S_BYTE_VECTOR : Sta Z h0 "com/example/zarnitsa/zarnitsa/FastTemplate$Type" "BYTE_VECTOR" "Lcom/example/zarnitsa/zarnitsa/FastTemplate$Type;" (.ref w6)) (hd2 : a1 = w6) :
    MetFree l (⟨"com/example/zarnitsa/zarnitsa/FastTemplate$Type", "isBytes", "()Z"⟩ : MethodName) (head1 (Jvm.Cond.code (⟨"com/example/zarnitsa/zarnitsa/FastTemplate$Type", "isBytes", "()Z"⟩ : MethodName) prog_42_method_5_code 1 (some .boolean) :: ws) ({ frames := 0, cells := 0, slots := 0, locals := 0 } : Room)) (fun a U => a = #[(.ref a1)] ∧ Z.Warmed39 U.vm ∧ U.heap = h0) (fun _ _ _ _ _ => True) (fun _ U o U' => ∃ v L, o = .returned v ∧ Qm1_fft Z a1 w2 w4 w6 h0 n0 v U'.heap L ∧ FrameEnd U o U' L ({ frames := 0, cells := 0, slots := 0, locals := 0 } : Room).cells ({ frames := 0, cells := 0, slots := 0, locals := 0 } : Room).slots) := by
  refine MetFree.of_bodySF (plainFor_of_name pn_1) hisR ?_
  intro p e s m args below meth c s₁ Bd hml0 hP hK
  obtain ⟨rfl, hZ, hh⟩ := hP
  have hx := Bd.exec
  have hby := Bd.bytes
  have hml : c.maxLocals = 1 := hml0
  have hown : s.vm.findClass "com/example/zarnitsa/zarnitsa/FastTemplate$Type" = some m.cls := findClass_of_methodNamed Bd.named
  have hnm := (name_of_methodNamed Bd.named Bd.method).1
  have X0 : Stand p l e ({ frames := 0, cells := 0, slots := 0, locals := 0 } : Room) s m #[(.ref a1)] below meth c s₁ [] 0 0 := Stand.of_body Bd
  have e0 : s₁.heap = h0 := by rw [← hh, Bd.state]; rfl
  have N0 := Fr.nil n0
  refine Go.en (ef_1 m a1) ?_
  show Go p e below _ (s₁.setTop (mkF m 0 #[.val (.ref a1)] []))
  refine Go.st (fun _ kk => XS.aloadN X0.here hx rfl (hb hby d1_0) rfl rfl  kk) ?_
  show Go p e below _ (s₁.setTop (mkF m 1 #[.val (.ref a1)] [(.ref a1)]))
  obtain ⟨T3, X3, e3, st3⟩ := getS2 X0 hx hZ hown (host := "") (Or.inl (hw _ (List.mem_of_getElem? (i := 25) rfl))) Via.refl e0 S_ASCII (g := (mkF m 1 #[.val (.ref a1)] [(.ref a1)])) rfl (hb hby d1_1)
  refine Go.st st3 ?_
  show Go p e below _ (T3.setTop (mkF m 4 #[.val (.ref a1)] [(.ref w2), (.ref a1)]))
  refine Go.st (fun _ kk => Jvm.RoadKit.acmp (g := (mkF m 4 #[.val (.ref a1)] [(.ref w2), (.ref a1)])) X3 hx rfl rfl rfl (pc0 := 4) (pc' := 7) (same := false) rfl (hb hby d1_4) rfl (decide_eq_false fun q => hd0 (Value.ref.inj q)) (by decide) (by decide) kk) ?_
  show Go p e below _ (T3.setTop (mkF m 7 #[.val (.ref a1)] []))
  refine Go.st (fun _ kk => XS.aloadN X3.here hx rfl (hb hby d1_7) rfl rfl  kk) ?_
  show Go p e below _ (T3.setTop (mkF m 8 #[.val (.ref a1)] [(.ref a1)]))
  obtain ⟨T5, X5, e5, st5⟩ := getS2 X3 hx hZ hown (host := "") (Or.inl (hw _ (List.mem_of_getElem? (i := 26) rfl))) Via.refl e3 S_UNICODE (g := (mkF m 8 #[.val (.ref a1)] [(.ref a1)])) rfl (hb hby d1_8)
  refine Go.st st5 ?_
  show Go p e below _ (T5.setTop (mkF m 11 #[.val (.ref a1)] [(.ref w4), (.ref a1)]))
  refine Go.st (fun _ kk => Jvm.RoadKit.acmp (g := (mkF m 11 #[.val (.ref a1)] [(.ref w4), (.ref a1)])) X5 hx rfl rfl rfl (pc0 := 11) (pc' := 14) (same := false) rfl (hb hby d1_11) rfl (decide_eq_false fun q => hd1 (Value.ref.inj q)) (by decide) (by decide) kk) ?_
  show Go p e below _ (T5.setTop (mkF m 14 #[.val (.ref a1)] []))
  refine Go.st (fun _ kk => XS.aloadN X5.here hx rfl (hb hby d1_14) rfl rfl  kk) ?_
  show Go p e below _ (T5.setTop (mkF m 15 #[.val (.ref a1)] [(.ref a1)]))
  obtain ⟨T7, X7, e7, st7⟩ := getS2 X5 hx hZ hown (host := "") (Or.inl (hw _ (List.mem_of_getElem? (i := 27) rfl))) Via.refl e5 S_BYTE_VECTOR (g := (mkF m 15 #[.val (.ref a1)] [(.ref a1)])) rfl (hb hby d1_15)
  refine Go.st st7 ?_
  show Go p e below _ (T7.setTop (mkF m 18 #[.val (.ref a1)] [(.ref w6), (.ref a1)]))
  refine Go.st (fun _ kk => Jvm.RoadKit.acmp (g := (mkF m 18 #[.val (.ref a1)] [(.ref w6), (.ref a1)])) X7 hx rfl rfl rfl (pc0 := 18) (pc' := 21) (same := true) rfl (hb hby d1_18) rfl (decide_eq_true (congrArg Value.ref hd2)) (by decide) (by decide) kk) ?_
  show Go p e below _ (T7.setTop (mkF m 21 #[.val (.ref a1)] []))
  refine Go.st (fun _ kk => XS.iconst X7.here hx rfl (hb hby d1_21) kk) ?_
  show Go p e below _ (T7.setTop (mkF m 22 #[.val (.ref a1)] [(.int (1 : Int32))]))
  refine Go.st (fun _ kk => XS.goto X7.here hx rfl (pc0 := 22) (pc' := 26) rfl (hb hby d1_22) (by decide) (by decide) kk) ?_
  show Go p e below _ (T7.setTop (mkF m 26 #[.val (.ref a1)] [(.int (1 : Int32))]))
  exact Go.ret (Q := Qm1_fft Z a1 w2 w4 w6 h0 n0) X7 (v := some (.int (1 : Int32))) (fun h => by rw [Bd.returns] at h; cases h) Bd.notSynchronized (fun fs hr => retN X7 hx (t := .boolean) Bd.returns (by simp) (hb hby d1_26) hr) e7 ⟨rfl, N0, rfl⟩ (by decide) (by decide)
def Qm1_fff (Z : State) (a1 : Addr) (w2 : Addr) (w4 : Addr) (w6 : Addr) (h0 : Heap) (n0 : Nat) (v : Option Value) (h : Heap) (L : List Loc) : Prop := v = some (.int (0 : Int32)) ∧ Fr n0 L ∧ h = h0
set_option maxRecDepth 65536 in
set_option maxHeartbeats 40000000 in
theorem rm1_fff (l : Launch) (Z : State) (a0 : Array Value) (hw : ∀ d ∈ tables_1, d.before a0 Z = true) (ws : List Jvm.Cond) (a1 : Addr) (w2 : Addr) (w4 : Addr) (w6 : Addr) (h0 : Heap) (n0 : Nat) (Z0 : n0 ≤ h0.size) (S_ASCII : Sta Z h0 "com/example/zarnitsa/zarnitsa/FastTemplate$Type" "ASCII" "Lcom/example/zarnitsa/zarnitsa/FastTemplate$Type;" (.ref w2)) (hd0 : ¬ (a1 = w2)) (S_UNICODE : Sta Z h0 "com/example/zarnitsa/zarnitsa/FastTemplate$Type" "UNICODE" "Lcom/example/zarnitsa/zarnitsa/FastTemplate$Type;" (.ref w4)) (hd1 : ¬ (a1 = w4)) (S_BYTE_VECTOR : Sta Z h0 "com/example/zarnitsa/zarnitsa/FastTemplate$Type" "BYTE_VECTOR" "Lcom/example/zarnitsa/zarnitsa/FastTemplate$Type;" (.ref w6)) (hd2 : ¬ (a1 = w6)) :
    MetFree l (⟨"com/example/zarnitsa/zarnitsa/FastTemplate$Type", "isBytes", "()Z"⟩ : MethodName) (head1 (Jvm.Cond.code (⟨"com/example/zarnitsa/zarnitsa/FastTemplate$Type", "isBytes", "()Z"⟩ : MethodName) prog_42_method_5_code 1 (some .boolean) :: ws) ({ frames := 0, cells := 0, slots := 0, locals := 0 } : Room)) (fun a U => a = #[(.ref a1)] ∧ Z.Warmed39 U.vm ∧ U.heap = h0) (fun _ _ _ _ _ => True) (fun _ U o U' => ∃ v L, o = .returned v ∧ Qm1_fff Z a1 w2 w4 w6 h0 n0 v U'.heap L ∧ FrameEnd U o U' L ({ frames := 0, cells := 0, slots := 0, locals := 0 } : Room).cells ({ frames := 0, cells := 0, slots := 0, locals := 0 } : Room).slots) := by
  refine MetFree.of_bodySF (plainFor_of_name pn_1) hisR ?_
  intro p e s m args below meth c s₁ Bd hml0 hP hK
  obtain ⟨rfl, hZ, hh⟩ := hP
  have hx := Bd.exec
  have hby := Bd.bytes
  have hml : c.maxLocals = 1 := hml0
  have hown : s.vm.findClass "com/example/zarnitsa/zarnitsa/FastTemplate$Type" = some m.cls := findClass_of_methodNamed Bd.named
  have hnm := (name_of_methodNamed Bd.named Bd.method).1
  have X0 : Stand p l e ({ frames := 0, cells := 0, slots := 0, locals := 0 } : Room) s m #[(.ref a1)] below meth c s₁ [] 0 0 := Stand.of_body Bd
  have e0 : s₁.heap = h0 := by rw [← hh, Bd.state]; rfl
  have N0 := Fr.nil n0
  refine Go.en (ef_1 m a1) ?_
  show Go p e below _ (s₁.setTop (mkF m 0 #[.val (.ref a1)] []))
  refine Go.st (fun _ kk => XS.aloadN X0.here hx rfl (hb hby d1_0) rfl rfl  kk) ?_
  show Go p e below _ (s₁.setTop (mkF m 1 #[.val (.ref a1)] [(.ref a1)]))
  obtain ⟨T3, X3, e3, st3⟩ := getS2 X0 hx hZ hown (host := "") (Or.inl (hw _ (List.mem_of_getElem? (i := 25) rfl))) Via.refl e0 S_ASCII (g := (mkF m 1 #[.val (.ref a1)] [(.ref a1)])) rfl (hb hby d1_1)
  refine Go.st st3 ?_
  show Go p e below _ (T3.setTop (mkF m 4 #[.val (.ref a1)] [(.ref w2), (.ref a1)]))
  refine Go.st (fun _ kk => Jvm.RoadKit.acmp (g := (mkF m 4 #[.val (.ref a1)] [(.ref w2), (.ref a1)])) X3 hx rfl rfl rfl (pc0 := 4) (pc' := 7) (same := false) rfl (hb hby d1_4) rfl (decide_eq_false fun q => hd0 (Value.ref.inj q)) (by decide) (by decide) kk) ?_
  show Go p e below _ (T3.setTop (mkF m 7 #[.val (.ref a1)] []))
  refine Go.st (fun _ kk => XS.aloadN X3.here hx rfl (hb hby d1_7) rfl rfl  kk) ?_
  show Go p e below _ (T3.setTop (mkF m 8 #[.val (.ref a1)] [(.ref a1)]))
  obtain ⟨T5, X5, e5, st5⟩ := getS2 X3 hx hZ hown (host := "") (Or.inl (hw _ (List.mem_of_getElem? (i := 26) rfl))) Via.refl e3 S_UNICODE (g := (mkF m 8 #[.val (.ref a1)] [(.ref a1)])) rfl (hb hby d1_8)
  refine Go.st st5 ?_
  show Go p e below _ (T5.setTop (mkF m 11 #[.val (.ref a1)] [(.ref w4), (.ref a1)]))
  refine Go.st (fun _ kk => Jvm.RoadKit.acmp (g := (mkF m 11 #[.val (.ref a1)] [(.ref w4), (.ref a1)])) X5 hx rfl rfl rfl (pc0 := 11) (pc' := 14) (same := false) rfl (hb hby d1_11) rfl (decide_eq_false fun q => hd1 (Value.ref.inj q)) (by decide) (by decide) kk) ?_
  show Go p e below _ (T5.setTop (mkF m 14 #[.val (.ref a1)] []))
  refine Go.st (fun _ kk => XS.aloadN X5.here hx rfl (hb hby d1_14) rfl rfl  kk) ?_
  show Go p e below _ (T5.setTop (mkF m 15 #[.val (.ref a1)] [(.ref a1)]))
  obtain ⟨T7, X7, e7, st7⟩ := getS2 X5 hx hZ hown (host := "") (Or.inl (hw _ (List.mem_of_getElem? (i := 27) rfl))) Via.refl e5 S_BYTE_VECTOR (g := (mkF m 15 #[.val (.ref a1)] [(.ref a1)])) rfl (hb hby d1_15)
  refine Go.st st7 ?_
  show Go p e below _ (T7.setTop (mkF m 18 #[.val (.ref a1)] [(.ref w6), (.ref a1)]))
  refine Go.st (fun _ kk => Jvm.RoadKit.acmp (g := (mkF m 18 #[.val (.ref a1)] [(.ref w6), (.ref a1)])) X7 hx rfl rfl rfl (pc0 := 18) (pc' := 25) (same := false) rfl (hb hby d1_18) rfl (decide_eq_false fun q => hd2 (Value.ref.inj q)) (by decide) (by decide) kk) ?_
  show Go p e below _ (T7.setTop (mkF m 25 #[.val (.ref a1)] []))
  refine Go.st (fun _ kk => XS.iconst X7.here hx rfl (hb hby d1_25) kk) ?_
  show Go p e below _ (T7.setTop (mkF m 26 #[.val (.ref a1)] [(.int (0 : Int32))]))
  exact Go.ret (Q := Qm1_fff Z a1 w2 w4 w6 h0 n0) X7 (v := some (.int (0 : Int32))) (fun h => by rw [Bd.returns] at h; cases h) Bd.notSynchronized (fun fs hr => retN X7 hx (t := .boolean) Bd.returns (by simp) (hb hby d1_26) hr) e7 ⟨rfl, N0, rfl⟩ (by decide) (by decide)
def Q0 (n0 : Nat) (v : Option Value) (h : Heap) (L : List Loc) : Prop := v = some (.int (1 : Int32)) ∧ Fr n0 L
set_option maxRecDepth 65536 in
set_option maxHeartbeats 40000000 in
theorem rm0 (l : Launch) (Z : State) (a0 : Array Value) (hw : ∀ d ∈ tables_1, d.before a0 Z = true) (ws : List Jvm.Cond) (p1 : Int32) (w_INT32 : Addr) (w_UINT32 : Addr) (w_INT64 : Addr) (w_UINT64 : Addr) (w_DECIMAL : Addr) (w_ASCII : Addr) (w_UNICODE : Addr) (w_BYTE_VECTOR : Addr) (h0 : Heap) (n0 : Nat) (Z0 : n0 ≤ h0.size) (S_INT32 : Sta Z h0 "com/example/zarnitsa/zarnitsa/FastTemplate$Type" "INT32" "Lcom/example/zarnitsa/zarnitsa/FastTemplate$Type;" (.ref w_INT32)) (E_w_INT32 : Exa Z h0 w_INT32 "com/example/zarnitsa/zarnitsa/FastTemplate$Type") (S_UINT32 : Sta Z h0 "com/example/zarnitsa/zarnitsa/FastTemplate$Type" "UINT32" "Lcom/example/zarnitsa/zarnitsa/FastTemplate$Type;" (.ref w_UINT32)) (E_w_UINT32 : Exa Z h0 w_UINT32 "com/example/zarnitsa/zarnitsa/FastTemplate$Type") (S_INT64 : Sta Z h0 "com/example/zarnitsa/zarnitsa/FastTemplate$Type" "INT64" "Lcom/example/zarnitsa/zarnitsa/FastTemplate$Type;" (.ref w_INT64)) (E_w_INT64 : Exa Z h0 w_INT64 "com/example/zarnitsa/zarnitsa/FastTemplate$Type") (S_UINT64 : Sta Z h0 "com/example/zarnitsa/zarnitsa/FastTemplate$Type" "UINT64" "Lcom/example/zarnitsa/zarnitsa/FastTemplate$Type;" (.ref w_UINT64)) (E_w_UINT64 : Exa Z h0 w_UINT64 "com/example/zarnitsa/zarnitsa/FastTemplate$Type") (S_DECIMAL : Sta Z h0 "com/example/zarnitsa/zarnitsa/FastTemplate$Type" "DECIMAL" "Lcom/example/zarnitsa/zarnitsa/FastTemplate$Type;" (.ref w_DECIMAL)) (E_w_DECIMAL : Exa Z h0 w_DECIMAL "com/example/zarnitsa/zarnitsa/FastTemplate$Type") (S_ASCII : Sta Z h0 "com/example/zarnitsa/zarnitsa/FastTemplate$Type" "ASCII" "Lcom/example/zarnitsa/zarnitsa/FastTemplate$Type;" (.ref w_ASCII)) (E_w_ASCII : Exa Z h0 w_ASCII "com/example/zarnitsa/zarnitsa/FastTemplate$Type") (S_UNICODE : Sta Z h0 "com/example/zarnitsa/zarnitsa/FastTemplate$Type" "UNICODE" "Lcom/example/zarnitsa/zarnitsa/FastTemplate$Type;" (.ref w_UNICODE)) (E_w_UNICODE : Exa Z h0 w_UNICODE "com/example/zarnitsa/zarnitsa/FastTemplate$Type") (S_BYTE_VECTOR : Sta Z h0 "com/example/zarnitsa/zarnitsa/FastTemplate$Type" "BYTE_VECTOR" "Lcom/example/zarnitsa/zarnitsa/FastTemplate$Type;" (.ref w_BYTE_VECTOR)) (E_w_BYTE_VECTOR : Exa Z h0 w_BYTE_VECTOR "com/example/zarnitsa/zarnitsa/FastTemplate$Type") (F_ordinal_w_INT32 : Fld Z h0 w_INT32 "java/lang/Enum" "ordinal" "I" (.int (0 : Int32))) (F_ordinal_w_ASCII : Fld Z h0 w_ASCII "java/lang/Enum" "ordinal" "I" (.int (5 : Int32))) (F_ordinal_w_UNICODE : Fld Z h0 w_UNICODE "java/lang/Enum" "ordinal" "I" (.int (6 : Int32))) (F_ordinal_w_BYTE_VECTOR : Fld Z h0 w_BYTE_VECTOR "java/lang/Enum" "ordinal" "I" (.int (7 : Int32))) (F_ordinal_w_UINT64 : Fld Z h0 w_UINT64 "java/lang/Enum" "ordinal" "I" (.int (3 : Int32))) (F_ordinal_w_INT64 : Fld Z h0 w_INT64 "java/lang/Enum" "ordinal" "I" (.int (2 : Int32))) (F_ordinal_w_UINT32 : Fld Z h0 w_UINT32 "java/lang/Enum" "ordinal" "I" (.int (1 : Int32))) (F_ordinal_w_DECIMAL : Fld Z h0 w_DECIMAL "java/lang/Enum" "ordinal" "I" (.int (4 : Int32))) :
    MetFree l x (head1 (Jvm.Cond.code x code maxLocals ret :: ws) room_1) (fun a U => a = #[(.int p1)] ∧ Z.Warmed39 U.vm ∧ U.heap = h0) (fun _ _ _ _ _ => True) (fun _ U o U' => ∃ v L, o = .returned v ∧ Q0 n0 v U'.heap L ∧ FrameEnd U o U' L room_1.cells room_1.slots) := by
  refine MetFree.of_bodySF (plainFor_of_name pn_0) hisR ?_
  intro p e s m args below meth c s₁ Bd hml0 hP hK
  obtain ⟨rfl, hZ, hh⟩ := hP
  have hx := Bd.exec
  have hby := Bd.bytes
  have hml : c.maxLocals = 4 := hml0
  have hown : s.vm.findClass "com/example/zarnitsa/zarnitsa/TypeIsBytesPinLaw" = some m.cls := findClass_of_methodNamed Bd.named
  have hnm := (name_of_methodNamed Bd.named Bd.method).1
  have X0 : Stand p l e room_1 s m #[(.int p1)] below meth c s₁ [] 0 0 := Stand.of_body Bd
  have e0 : s₁.heap = h0 := by rw [← hh, Bd.state]; rfl
  have N0 := Fr.nil n0
  refine Go.en (ef_0 m p1) ?_
  show Go p e below _ (s₁.setTop (mkF m 0 #[.val (.int p1), .unset, .unset, .unset] []))
  refine Go.st (fun _ kk => XS.bipush X0.here hx rfl (hb hby at_0) kk) ?_
  show Go p e below _ (s₁.setTop (mkF m 2 #[.val (.int p1), .unset, .unset, .unset] [(.int (8 : Int32))]))
  obtain ⟨T2, h2, k2, X2, e2, E2, A2, O2, st2⟩ := newR X0 hx hZ hown (hw _ (List.mem_of_getElem? (i := 0) rfl)) (hw _ (List.mem_of_getElem? (i := 1) rfl)) e0 (g := (mkF m 2 #[.val (.int p1), .unset, .unset, .unset] [(.int (8 : Int32))])) rfl (hb hby at_2) rfl (by decide) (cap := 8) (by decide) (by decide) (by decide) (by decide)
  obtain ⟨b2, g2⟩ : ∃ z, z = h0.size := ⟨_, rfl⟩
  rw [← g2] at A2 st2
  refine Go.st st2 ?_
  have g_b2 : n0 ≤ b2 := Nat.le_trans Z0 (Nat.le_of_eq g2.symm)
  have sz_b2 : h0.size ≤ b2 := Nat.le_of_eq g2.symm
  have K2 : Keep h0 h2 [] := (Keep.refl h0 []).ext E2
  have V_b2 : Arv Z h2 b2 k2 (.object "com/example/zarnitsa/zarnitsa/FastTemplate$Type") (8 : Int32) [.null, .null, .null, .null, .null, .null, .null, .null] .null := (Arv.new A2 (by decide)).pad (pad_rep [] .null 8)
  show Go p e below _ (T2.setTop (mkF m 5 #[.val (.int p1), .unset, .unset, .unset] [(.ref b2)]))
  refine Go.st (fun _ kk => XS.dup X2.here hx rfl (hb hby at_5) rfl rfl kk) ?_
  show Go p e below _ (T2.setTop (mkF m 6 #[.val (.int p1), .unset, .unset, .unset] [(.ref b2), (.ref b2)]))
  refine Go.st (fun _ kk => XS.iconst X2.here hx rfl (hb hby at_6) kk) ?_
  show Go p e below _ (T2.setTop (mkF m 7 #[.val (.int p1), .unset, .unset, .unset] [(.int (0 : Int32)), (.ref b2), (.ref b2)]))
  have f_3 := (staKeep0 S_INT32 K2)
  obtain ⟨T4, X4, e4, st4⟩ := getS2 X2 hx hZ hown (host := "") (Or.inl (hw _ (List.mem_of_getElem? (i := 2) rfl))) Via.refl e2 f_3 (g := (mkF m 7 #[.val (.int p1), .unset, .unset, .unset] [(.int (0 : Int32)), (.ref b2), (.ref b2)])) rfl (hb hby at_7)
  refine Go.st st4 ?_
  show Go p e below _ (T4.setTop (mkF m 10 #[.val (.int p1), .unset, .unset, .unset] [(.ref w_INT32), (.int (0 : Int32)), (.ref b2), (.ref b2)]))
  obtain ⟨clq5, Arq5, caq5, saq5, naq5, haq5, gaq5⟩ := V_b2
  have inq5 : ¬ ((0 : Int32) < 0 ∨ clq5.slots.size ≤ ((0 : Int32)).toNatClampNeg) := inb_of saq5 ⟨by decide, by decide⟩
  have f_6 := (E_w_INT32.keep K2)
  obtain ⟨T7, h7, X7, e7, W7, st7⟩ := stR X4 hx hZ e4 Arq5 (j := (0 : Int32)) inq5 rfl (Sto.ofV Arq5 caq5 O2 (Ins.self f_6)) (g := (mkF m 10 #[.val (.int p1), .unset, .unset, .unset] [(.ref w_INT32), (.int (0 : Int32)), (.ref b2), (.ref b2)])) rfl rfl (hb hby at_10)
  refine Go.st st7 ?_
  have K7 : Keep h0 h7 [] := K2.wr W7 (Or.inr sz_b2)
  have V7 : Arv Z h7 b2 k2 (.object "com/example/zarnitsa/zarnitsa/FastTemplate$Type") (8 : Int32) [(.ref w_INT32), .null, .null, .null, .null, .null, .null, .null] .null := Arv.set Arq5 caq5 saq5 naq5 haq5 gaq5 rfl W7 0 rfl (Nat.le_of_ble_eq_true rfl)
  have N7 := Fr.snoc X7 N0 g_b2
  show Go p e below _ (T7.setTop (mkF m 11 #[.val (.int p1), .unset, .unset, .unset] [(.ref b2)]))
  refine Go.st (fun _ kk => XS.dup X7.here hx rfl (hb hby at_11) rfl rfl kk) ?_
  show Go p e below _ (T7.setTop (mkF m 12 #[.val (.int p1), .unset, .unset, .unset] [(.ref b2), (.ref b2)]))
  refine Go.st (fun _ kk => XS.iconst X7.here hx rfl (hb hby at_12) kk) ?_
  show Go p e below _ (T7.setTop (mkF m 13 #[.val (.int p1), .unset, .unset, .unset] [(.int (1 : Int32)), (.ref b2), (.ref b2)]))
  have f_8 := (staKeep0 S_UINT32 K7)
  obtain ⟨T9, X9, e9, st9⟩ := getS2 X7 hx hZ hown (host := "") (Or.inl (hw _ (List.mem_of_getElem? (i := 6) rfl))) Via.refl e7 f_8 (g := (mkF m 13 #[.val (.int p1), .unset, .unset, .unset] [(.int (1 : Int32)), (.ref b2), (.ref b2)])) rfl (hb hby at_13)
  refine Go.st st9 ?_
  show Go p e below _ (T9.setTop (mkF m 16 #[.val (.int p1), .unset, .unset, .unset] [(.ref w_UINT32), (.int (1 : Int32)), (.ref b2), (.ref b2)]))
  obtain ⟨clq10, Arq10, caq10, saq10, naq10, haq10, gaq10⟩ := V7
  have inq10 : ¬ ((1 : Int32) < 0 ∨ clq10.slots.size ≤ ((1 : Int32)).toNatClampNeg) := inb_of saq10 ⟨by decide, by decide⟩
  have f_11 := (E_w_UINT32.keep K7)
  obtain ⟨T12, h12, X12, e12, W12, st12⟩ := stR X9 hx hZ e9 Arq10 (j := (1 : Int32)) inq10 rfl (Sto.ofV Arq10 caq10 O2 (Ins.self f_11)) (g := (mkF m 16 #[.val (.int p1), .unset, .unset, .unset] [(.ref w_UINT32), (.int (1 : Int32)), (.ref b2), (.ref b2)])) rfl rfl (hb hby at_16)
  refine Go.st st12 ?_
  have K12 : Keep h0 h12 [] := K7.wr W12 (Or.inr sz_b2)
  have V12 : Arv Z h12 b2 k2 (.object "com/example/zarnitsa/zarnitsa/FastTemplate$Type") (8 : Int32) [(.ref w_INT32), (.ref w_UINT32), .null, .null, .null, .null, .null, .null] .null := Arv.set Arq10 caq10 saq10 naq10 haq10 gaq10 rfl W12 1 rfl (Nat.le_of_ble_eq_true rfl)
  have N12 := Fr.snoc X12 N7 g_b2
  show Go p e below _ (T12.setTop (mkF m 17 #[.val (.int p1), .unset, .unset, .unset] [(.ref b2)]))
  refine Go.st (fun _ kk => XS.dup X12.here hx rfl (hb hby at_17) rfl rfl kk) ?_
  show Go p e below _ (T12.setTop (mkF m 18 #[.val (.int p1), .unset, .unset, .unset] [(.ref b2), (.ref b2)]))
  refine Go.st (fun _ kk => XS.iconst X12.here hx rfl (hb hby at_18) kk) ?_
  show Go p e below _ (T12.setTop (mkF m 19 #[.val (.int p1), .unset, .unset, .unset] [(.int (2 : Int32)), (.ref b2), (.ref b2)]))
  have f_13 := (staKeep0 S_INT64 K12)
  obtain ⟨T14, X14, e14, st14⟩ := getS2 X12 hx hZ hown (host := "") (Or.inl (hw _ (List.mem_of_getElem? (i := 8) rfl))) Via.refl e12 f_13 (g := (mkF m 19 #[.val (.int p1), .unset, .unset, .unset] [(.int (2 : Int32)), (.ref b2), (.ref b2)])) rfl (hb hby at_19)
  refine Go.st st14 ?_
  show Go p e below _ (T14.setTop (mkF m 22 #[.val (.int p1), .unset, .unset, .unset] [(.ref w_INT64), (.int (2 : Int32)), (.ref b2), (.ref b2)]))
  obtain ⟨clq15, Arq15, caq15, saq15, naq15, haq15, gaq15⟩ := V12
  have inq15 : ¬ ((2 : Int32) < 0 ∨ clq15.slots.size ≤ ((2 : Int32)).toNatClampNeg) := inb_of saq15 ⟨by decide, by decide⟩
  have f_16 := (E_w_INT64.keep K12)
  obtain ⟨T17, h17, X17, e17, W17, st17⟩ := stR X14 hx hZ e14 Arq15 (j := (2 : Int32)) inq15 rfl (Sto.ofV Arq15 caq15 O2 (Ins.self f_16)) (g := (mkF m 22 #[.val (.int p1), .unset, .unset, .unset] [(.ref w_INT64), (.int (2 : Int32)), (.ref b2), (.ref b2)])) rfl rfl (hb hby at_22)
  refine Go.st st17 ?_
  have K17 : Keep h0 h17 [] := K12.wr W17 (Or.inr sz_b2)
  have V17 : Arv Z h17 b2 k2 (.object "com/example/zarnitsa/zarnitsa/FastTemplate$Type") (8 : Int32) [(.ref w_INT32), (.ref w_UINT32), (.ref w_INT64), .null, .null, .null, .null, .null] .null := Arv.set Arq15 caq15 saq15 naq15 haq15 gaq15 rfl W17 2 rfl (Nat.le_of_ble_eq_true rfl)
  have N17 := Fr.snoc X17 N12 g_b2
  show Go p e below _ (T17.setTop (mkF m 23 #[.val (.int p1), .unset, .unset, .unset] [(.ref b2)]))
  refine Go.st (fun _ kk => XS.dup X17.here hx rfl (hb hby at_23) rfl rfl kk) ?_
  show Go p e below _ (T17.setTop (mkF m 24 #[.val (.int p1), .unset, .unset, .unset] [(.ref b2), (.ref b2)]))
  refine Go.st (fun _ kk => XS.iconst X17.here hx rfl (hb hby at_24) kk) ?_
  show Go p e below _ (T17.setTop (mkF m 25 #[.val (.int p1), .unset, .unset, .unset] [(.int (3 : Int32)), (.ref b2), (.ref b2)]))
  have f_18 := (staKeep0 S_UINT64 K17)
  obtain ⟨T19, X19, e19, st19⟩ := getS2 X17 hx hZ hown (host := "") (Or.inl (hw _ (List.mem_of_getElem? (i := 10) rfl))) Via.refl e17 f_18 (g := (mkF m 25 #[.val (.int p1), .unset, .unset, .unset] [(.int (3 : Int32)), (.ref b2), (.ref b2)])) rfl (hb hby at_25)
  refine Go.st st19 ?_
  show Go p e below _ (T19.setTop (mkF m 28 #[.val (.int p1), .unset, .unset, .unset] [(.ref w_UINT64), (.int (3 : Int32)), (.ref b2), (.ref b2)]))
  obtain ⟨clq20, Arq20, caq20, saq20, naq20, haq20, gaq20⟩ := V17
  have inq20 : ¬ ((3 : Int32) < 0 ∨ clq20.slots.size ≤ ((3 : Int32)).toNatClampNeg) := inb_of saq20 ⟨by decide, by decide⟩
  have f_21 := (E_w_UINT64.keep K17)
  obtain ⟨T22, h22, X22, e22, W22, st22⟩ := stR X19 hx hZ e19 Arq20 (j := (3 : Int32)) inq20 rfl (Sto.ofV Arq20 caq20 O2 (Ins.self f_21)) (g := (mkF m 28 #[.val (.int p1), .unset, .unset, .unset] [(.ref w_UINT64), (.int (3 : Int32)), (.ref b2), (.ref b2)])) rfl rfl (hb hby at_28)
  refine Go.st st22 ?_
  have K22 : Keep h0 h22 [] := K17.wr W22 (Or.inr sz_b2)
  have V22 : Arv Z h22 b2 k2 (.object "com/example/zarnitsa/zarnitsa/FastTemplate$Type") (8 : Int32) [(.ref w_INT32), (.ref w_UINT32), (.ref w_INT64), (.ref w_UINT64), .null, .null, .null, .null] .null := Arv.set Arq20 caq20 saq20 naq20 haq20 gaq20 rfl W22 3 rfl (Nat.le_of_ble_eq_true rfl)
  have N22 := Fr.snoc X22 N17 g_b2
  show Go p e below _ (T22.setTop (mkF m 29 #[.val (.int p1), .unset, .unset, .unset] [(.ref b2)]))
  refine Go.st (fun _ kk => XS.dup X22.here hx rfl (hb hby at_29) rfl rfl kk) ?_
  show Go p e below _ (T22.setTop (mkF m 30 #[.val (.int p1), .unset, .unset, .unset] [(.ref b2), (.ref b2)]))
  refine Go.st (fun _ kk => XS.iconst X22.here hx rfl (hb hby at_30) kk) ?_
  show Go p e below _ (T22.setTop (mkF m 31 #[.val (.int p1), .unset, .unset, .unset] [(.int (4 : Int32)), (.ref b2), (.ref b2)]))
  have f_23 := (staKeep0 S_DECIMAL K22)
  obtain ⟨T24, X24, e24, st24⟩ := getS2 X22 hx hZ hown (host := "") (Or.inl (hw _ (List.mem_of_getElem? (i := 12) rfl))) Via.refl e22 f_23 (g := (mkF m 31 #[.val (.int p1), .unset, .unset, .unset] [(.int (4 : Int32)), (.ref b2), (.ref b2)])) rfl (hb hby at_31)
  refine Go.st st24 ?_
  show Go p e below _ (T24.setTop (mkF m 34 #[.val (.int p1), .unset, .unset, .unset] [(.ref w_DECIMAL), (.int (4 : Int32)), (.ref b2), (.ref b2)]))
  obtain ⟨clq25, Arq25, caq25, saq25, naq25, haq25, gaq25⟩ := V22
  have inq25 : ¬ ((4 : Int32) < 0 ∨ clq25.slots.size ≤ ((4 : Int32)).toNatClampNeg) := inb_of saq25 ⟨by decide, by decide⟩
  have f_26 := (E_w_DECIMAL.keep K22)
  obtain ⟨T27, h27, X27, e27, W27, st27⟩ := stR X24 hx hZ e24 Arq25 (j := (4 : Int32)) inq25 rfl (Sto.ofV Arq25 caq25 O2 (Ins.self f_26)) (g := (mkF m 34 #[.val (.int p1), .unset, .unset, .unset] [(.ref w_DECIMAL), (.int (4 : Int32)), (.ref b2), (.ref b2)])) rfl rfl (hb hby at_34)
  refine Go.st st27 ?_
  have K27 : Keep h0 h27 [] := K22.wr W27 (Or.inr sz_b2)
  have V27 : Arv Z h27 b2 k2 (.object "com/example/zarnitsa/zarnitsa/FastTemplate$Type") (8 : Int32) [(.ref w_INT32), (.ref w_UINT32), (.ref w_INT64), (.ref w_UINT64), (.ref w_DECIMAL), .null, .null, .null] .null := Arv.set Arq25 caq25 saq25 naq25 haq25 gaq25 rfl W27 4 rfl (Nat.le_of_ble_eq_true rfl)
  have N27 := Fr.snoc X27 N22 g_b2
  show Go p e below _ (T27.setTop (mkF m 35 #[.val (.int p1), .unset, .unset, .unset] [(.ref b2)]))
  refine Go.st (fun _ kk => XS.dup X27.here hx rfl (hb hby at_35) rfl rfl kk) ?_
  show Go p e below _ (T27.setTop (mkF m 36 #[.val (.int p1), .unset, .unset, .unset] [(.ref b2), (.ref b2)]))
  refine Go.st (fun _ kk => XS.iconst X27.here hx rfl (hb hby at_36) kk) ?_
  show Go p e below _ (T27.setTop (mkF m 37 #[.val (.int p1), .unset, .unset, .unset] [(.int (5 : Int32)), (.ref b2), (.ref b2)]))
  have f_28 := (staKeep0 S_ASCII K27)
  obtain ⟨T29, X29, e29, st29⟩ := getS2 X27 hx hZ hown (host := "") (Or.inl (hw _ (List.mem_of_getElem? (i := 14) rfl))) Via.refl e27 f_28 (g := (mkF m 37 #[.val (.int p1), .unset, .unset, .unset] [(.int (5 : Int32)), (.ref b2), (.ref b2)])) rfl (hb hby at_37)
  refine Go.st st29 ?_
  show Go p e below _ (T29.setTop (mkF m 40 #[.val (.int p1), .unset, .unset, .unset] [(.ref w_ASCII), (.int (5 : Int32)), (.ref b2), (.ref b2)]))
  obtain ⟨clq30, Arq30, caq30, saq30, naq30, haq30, gaq30⟩ := V27
  have inq30 : ¬ ((5 : Int32) < 0 ∨ clq30.slots.size ≤ ((5 : Int32)).toNatClampNeg) := inb_of saq30 ⟨by decide, by decide⟩
  have f_31 := (E_w_ASCII.keep K27)
  obtain ⟨T32, h32, X32, e32, W32, st32⟩ := stR X29 hx hZ e29 Arq30 (j := (5 : Int32)) inq30 rfl (Sto.ofV Arq30 caq30 O2 (Ins.self f_31)) (g := (mkF m 40 #[.val (.int p1), .unset, .unset, .unset] [(.ref w_ASCII), (.int (5 : Int32)), (.ref b2), (.ref b2)])) rfl rfl (hb hby at_40)
  refine Go.st st32 ?_
  have K32 : Keep h0 h32 [] := K27.wr W32 (Or.inr sz_b2)
  have V32 : Arv Z h32 b2 k2 (.object "com/example/zarnitsa/zarnitsa/FastTemplate$Type") (8 : Int32) [(.ref w_INT32), (.ref w_UINT32), (.ref w_INT64), (.ref w_UINT64), (.ref w_DECIMAL), (.ref w_ASCII), .null, .null] .null := Arv.set Arq30 caq30 saq30 naq30 haq30 gaq30 rfl W32 5 rfl (Nat.le_of_ble_eq_true rfl)
  have N32 := Fr.snoc X32 N27 g_b2
  show Go p e below _ (T32.setTop (mkF m 41 #[.val (.int p1), .unset, .unset, .unset] [(.ref b2)]))
  refine Go.st (fun _ kk => XS.dup X32.here hx rfl (hb hby at_41) rfl rfl kk) ?_
  show Go p e below _ (T32.setTop (mkF m 42 #[.val (.int p1), .unset, .unset, .unset] [(.ref b2), (.ref b2)]))
  refine Go.st (fun _ kk => XS.bipush X32.here hx rfl (hb hby at_42) kk) ?_
  show Go p e below _ (T32.setTop (mkF m 44 #[.val (.int p1), .unset, .unset, .unset] [(.int (6 : Int32)), (.ref b2), (.ref b2)]))
  have f_33 := (staKeep0 S_UNICODE K32)
  obtain ⟨T34, X34, e34, st34⟩ := getS2 X32 hx hZ hown (host := "") (Or.inl (hw _ (List.mem_of_getElem? (i := 16) rfl))) Via.refl e32 f_33 (g := (mkF m 44 #[.val (.int p1), .unset, .unset, .unset] [(.int (6 : Int32)), (.ref b2), (.ref b2)])) rfl (hb hby at_44)
  refine Go.st st34 ?_
  show Go p e below _ (T34.setTop (mkF m 47 #[.val (.int p1), .unset, .unset, .unset] [(.ref w_UNICODE), (.int (6 : Int32)), (.ref b2), (.ref b2)]))
  obtain ⟨clq35, Arq35, caq35, saq35, naq35, haq35, gaq35⟩ := V32
  have inq35 : ¬ ((6 : Int32) < 0 ∨ clq35.slots.size ≤ ((6 : Int32)).toNatClampNeg) := inb_of saq35 ⟨by decide, by decide⟩
  have f_36 := (E_w_UNICODE.keep K32)
  obtain ⟨T37, h37, X37, e37, W37, st37⟩ := stR X34 hx hZ e34 Arq35 (j := (6 : Int32)) inq35 rfl (Sto.ofV Arq35 caq35 O2 (Ins.self f_36)) (g := (mkF m 47 #[.val (.int p1), .unset, .unset, .unset] [(.ref w_UNICODE), (.int (6 : Int32)), (.ref b2), (.ref b2)])) rfl rfl (hb hby at_47)
  refine Go.st st37 ?_
  have K37 : Keep h0 h37 [] := K32.wr W37 (Or.inr sz_b2)
  have V37 : Arv Z h37 b2 k2 (.object "com/example/zarnitsa/zarnitsa/FastTemplate$Type") (8 : Int32) [(.ref w_INT32), (.ref w_UINT32), (.ref w_INT64), (.ref w_UINT64), (.ref w_DECIMAL), (.ref w_ASCII), (.ref w_UNICODE), .null] .null := Arv.set Arq35 caq35 saq35 naq35 haq35 gaq35 rfl W37 6 rfl (Nat.le_of_ble_eq_true rfl)
  have N37 := Fr.snoc X37 N32 g_b2
  show Go p e below _ (T37.setTop (mkF m 48 #[.val (.int p1), .unset, .unset, .unset] [(.ref b2)]))
  refine Go.st (fun _ kk => XS.dup X37.here hx rfl (hb hby at_48) rfl rfl kk) ?_
  show Go p e below _ (T37.setTop (mkF m 49 #[.val (.int p1), .unset, .unset, .unset] [(.ref b2), (.ref b2)]))
  refine Go.st (fun _ kk => XS.bipush X37.here hx rfl (hb hby at_49) kk) ?_
  show Go p e below _ (T37.setTop (mkF m 51 #[.val (.int p1), .unset, .unset, .unset] [(.int (7 : Int32)), (.ref b2), (.ref b2)]))
  have f_38 := (staKeep0 S_BYTE_VECTOR K37)
  obtain ⟨T39, X39, e39, st39⟩ := getS2 X37 hx hZ hown (host := "") (Or.inl (hw _ (List.mem_of_getElem? (i := 18) rfl))) Via.refl e37 f_38 (g := (mkF m 51 #[.val (.int p1), .unset, .unset, .unset] [(.int (7 : Int32)), (.ref b2), (.ref b2)])) rfl (hb hby at_51)
  refine Go.st st39 ?_
  show Go p e below _ (T39.setTop (mkF m 54 #[.val (.int p1), .unset, .unset, .unset] [(.ref w_BYTE_VECTOR), (.int (7 : Int32)), (.ref b2), (.ref b2)]))
  obtain ⟨clq40, Arq40, caq40, saq40, naq40, haq40, gaq40⟩ := V37
  have inq40 : ¬ ((7 : Int32) < 0 ∨ clq40.slots.size ≤ ((7 : Int32)).toNatClampNeg) := inb_of saq40 ⟨by decide, by decide⟩
  have f_41 := (E_w_BYTE_VECTOR.keep K37)
  obtain ⟨T42, h42, X42, e42, W42, st42⟩ := stR X39 hx hZ e39 Arq40 (j := (7 : Int32)) inq40 rfl (Sto.ofV Arq40 caq40 O2 (Ins.self f_41)) (g := (mkF m 54 #[.val (.int p1), .unset, .unset, .unset] [(.ref w_BYTE_VECTOR), (.int (7 : Int32)), (.ref b2), (.ref b2)])) rfl rfl (hb hby at_54)
  refine Go.st st42 ?_
  have K42 : Keep h0 h42 [] := K37.wr W42 (Or.inr sz_b2)
  have V42 : Arv Z h42 b2 k2 (.object "com/example/zarnitsa/zarnitsa/FastTemplate$Type") (8 : Int32) [(.ref w_INT32), (.ref w_UINT32), (.ref w_INT64), (.ref w_UINT64), (.ref w_DECIMAL), (.ref w_ASCII), (.ref w_UNICODE), (.ref w_BYTE_VECTOR)] .null := Arv.set Arq40 caq40 saq40 naq40 haq40 gaq40 rfl W42 7 rfl (Nat.le_of_ble_eq_true rfl)
  have N42 := Fr.snoc X42 N37 g_b2
  show Go p e below _ (T42.setTop (mkF m 55 #[.val (.int p1), .unset, .unset, .unset] [(.ref b2)]))
  refine Go.st (fun _ kk => XS.astoreN X42.here hx rfl (hb hby at_55) rfl rfl (l' := #[.val (.int p1), .val (.ref b2), .unset, .unset]) rfl kk) ?_
  show Go p e below _ (T42.setTop (mkF m 56 #[.val (.int p1), .val (.ref b2), .unset, .unset] []))
  refine Go.st (fun _ kk => XS.iloadN X42.here hx rfl (hb hby at_56) rfl  kk) ?_
  show Go p e below _ (T42.setTop (mkF m 57 #[.val (.int p1), .val (.ref b2), .unset, .unset] [(.int p1)]))
  refine Go.st (fun _ kk => XS.bipush X42.here hx rfl (hb hby at_57) kk) ?_
  show Go p e below _ (T42.setTop (mkF m 59 #[.val (.int p1), .val (.ref b2), .unset, .unset] [(.int (7 : Int32)), (.int p1)]))
  refine Go.st (fun _ kk => XS.iand X42.here hx rfl (hb hby at_59) rfl kk) ?_
  show Go p e below _ (T42.setTop (mkF m 60 #[.val (.int p1), .val (.ref b2), .unset, .unset] [(.int (p1 &&& (7 : Int32)))]))
  rcases (own_k p1 : (p1 &&& (7 : Int32)) = (0 : Int32) ∨ (p1 &&& (7 : Int32)) = (1 : Int32) ∨ (p1 &&& (7 : Int32)) = (2 : Int32) ∨ (p1 &&& (7 : Int32)) = (3 : Int32) ∨ (p1 &&& (7 : Int32)) = (4 : Int32) ∨ (p1 &&& (7 : Int32)) = (5 : Int32) ∨ (p1 &&& (7 : Int32)) = (6 : Int32) ∨ (p1 &&& (7 : Int32)) = (7 : Int32)) with hk43 | hk44 | hk45 | hk46 | hk47 | hk48 | hk49 | hk50
  · skip
    rw [hk43]
    show Go p e below _ (T42.setTop (mkF m 60 #[.val (.int p1), .val (.ref b2), .unset, .unset] [(.int (0 : Int32))]))
    refine Go.st (fun _ kk => XS.istoreN X42.here hx rfl (hb hby at_60) rfl (l' := #[.val (.int p1), .val (.ref b2), .val (.int (0 : Int32)), .unset]) rfl kk) ?_
    show Go p e below _ (T42.setTop (mkF m 61 #[.val (.int p1), .val (.ref b2), .val (.int (0 : Int32)), .unset] []))
    refine Go.st (fun _ kk => XS.iloadN X42.here hx rfl (hb hby at_61) rfl  kk) ?_
    show Go p e below _ (T42.setTop (mkF m 62 #[.val (.int p1), .val (.ref b2), .val (.int (0 : Int32)), .unset] [(.int (0 : Int32))]))
    refine Go.st (fun _ kk => XS.iconst X42.here hx rfl (hb hby at_62) kk) ?_
    show Go p e below _ (T42.setTop (mkF m 63 #[.val (.int p1), .val (.ref b2), .val (.int (0 : Int32)), .unset] [(.int (5 : Int32)), (.int (0 : Int32))]))
    refine Go.st (fun _ kk => XS.icmpYes X42.here hx rfl (pc0 := 63) (pc' := 70) rfl (hb hby at_63) rfl (tlt (by decide : ((0 : Int32) < (5 : Int32)))).1 (by decide) (by decide) kk) ?_
    show Go p e below _ (T42.setTop (mkF m 70 #[.val (.int p1), .val (.ref b2), .val (.int (0 : Int32)), .unset] []))
    refine Go.st (fun _ kk => XS.iconst X42.here hx rfl (hb hby at_70) kk) ?_
    show Go p e below _ (T42.setTop (mkF m 71 #[.val (.int p1), .val (.ref b2), .val (.int (0 : Int32)), .unset] [(.int (0 : Int32))]))
    refine Go.st (fun _ kk => XS.istoreN X42.here hx rfl (hb hby at_71) rfl (l' := #[.val (.int p1), .val (.ref b2), .val (.int (0 : Int32)), .val (.int (0 : Int32))]) rfl kk) ?_
    show Go p e below _ (T42.setTop (mkF m 72 #[.val (.int p1), .val (.ref b2), .val (.int (0 : Int32)), .val (.int (0 : Int32))] []))
    refine Go.st (fun _ kk => XS.aloadN X42.here hx rfl (hb hby at_72) rfl rfl  kk) ?_
    show Go p e below _ (T42.setTop (mkF m 73 #[.val (.int p1), .val (.ref b2), .val (.int (0 : Int32)), .val (.int (0 : Int32))] [(.ref b2)]))
    refine Go.st (fun _ kk => XS.iloadN X42.here hx rfl (hb hby at_73) rfl  kk) ?_
    show Go p e below _ (T42.setTop (mkF m 74 #[.val (.int p1), .val (.ref b2), .val (.int (0 : Int32)), .val (.int (0 : Int32))] [(.int (0 : Int32)), (.ref b2)]))
    obtain ⟨clq51, Arq51, caq51, saq51, naq51, haq51, gaq51⟩ := V42
    have inq51 : ¬ ((0 : Int32) < 0 ∨ clq51.slots.size ≤ ((0 : Int32)).toNatClampNeg) := inb_of saq51 ⟨by decide, by decide⟩
    have atq51 : clq51.slots[((0 : Int32)).toNatClampNeg]? = some (.ref w_INT32) := haq51.at inq51 rfl
    refine Go.st (fun _ kk => X42.aaload hx (j := (0 : Int32)) (v := (.ref w_INT32)) (by rw [e42]; exact Arq51.1) (State.isArrayOf_alike hZ.alike Arq51.2.1) rfl Arq51.2.2 inq51 atq51 (g := (mkF m 74 #[.val (.int p1), .val (.ref b2), .val (.int (0 : Int32)), .val (.int (0 : Int32))] [(.int (0 : Int32)), (.ref b2)])) rfl rfl (hb hby at_74) _ kk) ?_
    show Go p e below _ (T42.setTop (mkF m 75 #[.val (.int p1), .val (.ref b2), .val (.int (0 : Int32)), .val (.int (0 : Int32))] [(.ref w_INT32)]))
    have f_52 := (Exa.wr W42 (Exa.wr W37 (Exa.wr W32 (Exa.wr W27 (Exa.wr W22 (Exa.wr W17 (Exa.wr W12 (Exa.wr W7 f_6))))))))
    have f_53 := (Sta.wr W42 (Sta.wr W37 (Sta.wr W32 f_28)))
    have f_54 := (Sta.wr W42 (Sta.wr W37 f_33))
    have f_55 := (Sta.wr W42 f_38)
    obtain ⟨cq56, kq56, q56a, q56b, q56c⟩ := isOf hZ e42 f_52
    obtain ⟨_, _, ⟨T56, L56, k56, n56⟩, -, X56, ⟨Lc56, hQ56, l56, y56, z56⟩, st56⟩ := X42.virtualBack hx (y := (⟨"com/example/zarnitsa/zarnitsa/FastTemplate$Type", "isBytes", "()Z"⟩ : MethodName)) (z := (⟨"com/example/zarnitsa/zarnitsa/FastTemplate$Type", "isBytes", "()Z"⟩ : MethodName)) hown (mvT hZ (hw _ (List.mem_of_getElem? (i := 20) rfl))) (mvT hZ (hw _ (List.mem_of_getElem? (i := 21) rfl))) (notFace_of_selects (args := #[]) (mvT hZ (hw _ (List.mem_of_getElem? (i := 23) rfl)))) (mvT hZ (hw _ (List.mem_of_getElem? (i := 23) rfl))) (mvT hZ (hw _ (List.mem_of_getElem? (i := 22) rfl))) (by decide) (backOf (W := 0) (rm1_fff l Z a0 hw [] w_INT32 w_ASCII w_UNICODE w_BYTE_VECTOR h42 n0 (Nat.le_trans Z0 K42.1) f_53 (Fld.ne F_ordinal_w_INT32 F_ordinal_w_ASCII (by decide)) f_54 (Fld.ne F_ordinal_w_INT32 F_ordinal_w_UNICODE (by decide)) f_55 (Fld.ne F_ordinal_w_INT32 F_ordinal_w_BYTE_VECTOR (by decide))) hZ (hw _ (List.mem_of_getElem? (i := 24) rfl)) (hw _ (List.mem_of_getElem? (i := 3) rfl)) (by decide) (by decide)) q56a q56c (g := (mkF m 75 #[.val (.int p1), .val (.ref b2), .val (.int (0 : Int32)), .val (.int (0 : Int32))] [(.ref w_INT32)])) rfl (by rw [hml]; rfl) (Steps.refl _) (argsL := []) (rest := []) (lenOf pd_0 rfl) rfl (by show 2 * 0 + _ ≤ _; exact Nat.le_of_eq rfl) (hb hby at_75) (fun _ _ => ⟨rfl, e42, (by decide : 1 + 0 ≤ _), (by decide : 8 + 0 ≤ _)⟩)
    dsimp only [Pt.U, Pt.locs, Pt.cells, Pt.slots] at X56 l56 y56 z56 st56 hQ56
    subst l56 y56 z56
    obtain ⟨rfl, N56q, eq56⟩ := hQ56
    have N56 := Fr.app N42 N56q
    refine Go.tr st56 ?_
    show Go p e below _ (T56.setTop (mkF m 78 #[.val (.int p1), .val (.ref b2), .val (.int (0 : Int32)), .val (.int (0 : Int32))] [(.int (0 : Int32))]))
    refine Go.st (fun _ kk => XS.iloadN X56.here hx rfl (hb hby at_78) rfl  kk) ?_
    show Go p e below _ (T56.setTop (mkF m 79 #[.val (.int p1), .val (.ref b2), .val (.int (0 : Int32)), .val (.int (0 : Int32))] [(.int (0 : Int32)), (.int (0 : Int32))]))
    refine Go.st (fun _ kk => XS.icmpNo X56.here hx rfl (hb hby at_79) rfl (teq (by decide : ((0 : Int32) = (0 : Int32)))).2 kk) ?_
    show Go p e below _ (T56.setTop (mkF m 82 #[.val (.int p1), .val (.ref b2), .val (.int (0 : Int32)), .val (.int (0 : Int32))] []))
    refine Go.st (fun _ kk => XS.iconst X56.here hx rfl (hb hby at_82) kk) ?_
    show Go p e below _ (T56.setTop (mkF m 83 #[.val (.int p1), .val (.ref b2), .val (.int (0 : Int32)), .val (.int (0 : Int32))] [(.int (1 : Int32))]))
    refine Go.st (fun _ kk => XS.goto X56.here hx rfl (pc0 := 83) (pc' := 87) rfl (hb hby at_83) (by decide) (by decide) kk) ?_
    show Go p e below _ (T56.setTop (mkF m 87 #[.val (.int p1), .val (.ref b2), .val (.int (0 : Int32)), .val (.int (0 : Int32))] [(.int (1 : Int32))]))
    exact Go.ret (Q := Q0 n0) X56 (v := some (.int (1 : Int32))) (fun h => by rw [Bd.returns] at h; cases h) Bd.notSynchronized (fun fs hr => retN X56 hx (t := .boolean) Bd.returns (by simp) (hb hby at_87) hr) eq56 ⟨rfl, N56⟩ (by decide) (by decide)
  · skip
    rw [hk44]
    show Go p e below _ (T42.setTop (mkF m 60 #[.val (.int p1), .val (.ref b2), .unset, .unset] [(.int (1 : Int32))]))
    refine Go.st (fun _ kk => XS.istoreN X42.here hx rfl (hb hby at_60) rfl (l' := #[.val (.int p1), .val (.ref b2), .val (.int (1 : Int32)), .unset]) rfl kk) ?_
    show Go p e below _ (T42.setTop (mkF m 61 #[.val (.int p1), .val (.ref b2), .val (.int (1 : Int32)), .unset] []))
    refine Go.st (fun _ kk => XS.iloadN X42.here hx rfl (hb hby at_61) rfl  kk) ?_
    show Go p e below _ (T42.setTop (mkF m 62 #[.val (.int p1), .val (.ref b2), .val (.int (1 : Int32)), .unset] [(.int (1 : Int32))]))
    refine Go.st (fun _ kk => XS.iconst X42.here hx rfl (hb hby at_62) kk) ?_
    show Go p e below _ (T42.setTop (mkF m 63 #[.val (.int p1), .val (.ref b2), .val (.int (1 : Int32)), .unset] [(.int (5 : Int32)), (.int (1 : Int32))]))
    refine Go.st (fun _ kk => XS.icmpYes X42.here hx rfl (pc0 := 63) (pc' := 70) rfl (hb hby at_63) rfl (tlt (by decide : ((1 : Int32) < (5 : Int32)))).1 (by decide) (by decide) kk) ?_
    show Go p e below _ (T42.setTop (mkF m 70 #[.val (.int p1), .val (.ref b2), .val (.int (1 : Int32)), .unset] []))
    refine Go.st (fun _ kk => XS.iconst X42.here hx rfl (hb hby at_70) kk) ?_
    show Go p e below _ (T42.setTop (mkF m 71 #[.val (.int p1), .val (.ref b2), .val (.int (1 : Int32)), .unset] [(.int (0 : Int32))]))
    refine Go.st (fun _ kk => XS.istoreN X42.here hx rfl (hb hby at_71) rfl (l' := #[.val (.int p1), .val (.ref b2), .val (.int (1 : Int32)), .val (.int (0 : Int32))]) rfl kk) ?_
    show Go p e below _ (T42.setTop (mkF m 72 #[.val (.int p1), .val (.ref b2), .val (.int (1 : Int32)), .val (.int (0 : Int32))] []))
    refine Go.st (fun _ kk => XS.aloadN X42.here hx rfl (hb hby at_72) rfl rfl  kk) ?_
    show Go p e below _ (T42.setTop (mkF m 73 #[.val (.int p1), .val (.ref b2), .val (.int (1 : Int32)), .val (.int (0 : Int32))] [(.ref b2)]))
    refine Go.st (fun _ kk => XS.iloadN X42.here hx rfl (hb hby at_73) rfl  kk) ?_
    show Go p e below _ (T42.setTop (mkF m 74 #[.val (.int p1), .val (.ref b2), .val (.int (1 : Int32)), .val (.int (0 : Int32))] [(.int (1 : Int32)), (.ref b2)]))
    obtain ⟨clq57, Arq57, caq57, saq57, naq57, haq57, gaq57⟩ := V42
    have inq57 : ¬ ((1 : Int32) < 0 ∨ clq57.slots.size ≤ ((1 : Int32)).toNatClampNeg) := inb_of saq57 ⟨by decide, by decide⟩
    have atq57 : clq57.slots[((1 : Int32)).toNatClampNeg]? = some (.ref w_UINT32) := haq57.at inq57 rfl
    refine Go.st (fun _ kk => X42.aaload hx (j := (1 : Int32)) (v := (.ref w_UINT32)) (by rw [e42]; exact Arq57.1) (State.isArrayOf_alike hZ.alike Arq57.2.1) rfl Arq57.2.2 inq57 atq57 (g := (mkF m 74 #[.val (.int p1), .val (.ref b2), .val (.int (1 : Int32)), .val (.int (0 : Int32))] [(.int (1 : Int32)), (.ref b2)])) rfl rfl (hb hby at_74) _ kk) ?_
    show Go p e below _ (T42.setTop (mkF m 75 #[.val (.int p1), .val (.ref b2), .val (.int (1 : Int32)), .val (.int (0 : Int32))] [(.ref w_UINT32)]))
    have f_58 := (Exa.wr W42 (Exa.wr W37 (Exa.wr W32 (Exa.wr W27 (Exa.wr W22 (Exa.wr W17 (Exa.wr W12 f_11)))))))
    have f_59 := (Sta.wr W42 (Sta.wr W37 (Sta.wr W32 f_28)))
    have f_60 := (Sta.wr W42 (Sta.wr W37 f_33))
    have f_61 := (Sta.wr W42 f_38)
    obtain ⟨cq62, kq62, q62a, q62b, q62c⟩ := isOf hZ e42 f_58
    obtain ⟨_, _, ⟨T62, L62, k62, n62⟩, -, X62, ⟨Lc62, hQ62, l62, y62, z62⟩, st62⟩ := X42.virtualBack hx (y := (⟨"com/example/zarnitsa/zarnitsa/FastTemplate$Type", "isBytes", "()Z"⟩ : MethodName)) (z := (⟨"com/example/zarnitsa/zarnitsa/FastTemplate$Type", "isBytes", "()Z"⟩ : MethodName)) hown (mvT hZ (hw _ (List.mem_of_getElem? (i := 20) rfl))) (mvT hZ (hw _ (List.mem_of_getElem? (i := 21) rfl))) (notFace_of_selects (args := #[]) (mvT hZ (hw _ (List.mem_of_getElem? (i := 23) rfl)))) (mvT hZ (hw _ (List.mem_of_getElem? (i := 23) rfl))) (mvT hZ (hw _ (List.mem_of_getElem? (i := 22) rfl))) (by decide) (backOf (W := 0) (rm1_fff l Z a0 hw [] w_UINT32 w_ASCII w_UNICODE w_BYTE_VECTOR h42 n0 (Nat.le_trans Z0 K42.1) f_59 (Fld.ne F_ordinal_w_UINT32 F_ordinal_w_ASCII (by decide)) f_60 (Fld.ne F_ordinal_w_UINT32 F_ordinal_w_UNICODE (by decide)) f_61 (Fld.ne F_ordinal_w_UINT32 F_ordinal_w_BYTE_VECTOR (by decide))) hZ (hw _ (List.mem_of_getElem? (i := 24) rfl)) (hw _ (List.mem_of_getElem? (i := 3) rfl)) (by decide) (by decide)) q62a q62c (g := (mkF m 75 #[.val (.int p1), .val (.ref b2), .val (.int (1 : Int32)), .val (.int (0 : Int32))] [(.ref w_UINT32)])) rfl (by rw [hml]; rfl) (Steps.refl _) (argsL := []) (rest := []) (lenOf pd_0 rfl) rfl (by show 2 * 0 + _ ≤ _; exact Nat.le_of_eq rfl) (hb hby at_75) (fun _ _ => ⟨rfl, e42, (by decide : 1 + 0 ≤ _), (by decide : 8 + 0 ≤ _)⟩)
    dsimp only [Pt.U, Pt.locs, Pt.cells, Pt.slots] at X62 l62 y62 z62 st62 hQ62
    subst l62 y62 z62
    obtain ⟨rfl, N62q, eq62⟩ := hQ62
    have N62 := Fr.app N42 N62q
    refine Go.tr st62 ?_
    show Go p e below _ (T62.setTop (mkF m 78 #[.val (.int p1), .val (.ref b2), .val (.int (1 : Int32)), .val (.int (0 : Int32))] [(.int (0 : Int32))]))
    refine Go.st (fun _ kk => XS.iloadN X62.here hx rfl (hb hby at_78) rfl  kk) ?_
    show Go p e below _ (T62.setTop (mkF m 79 #[.val (.int p1), .val (.ref b2), .val (.int (1 : Int32)), .val (.int (0 : Int32))] [(.int (0 : Int32)), (.int (0 : Int32))]))
    refine Go.st (fun _ kk => XS.icmpNo X62.here hx rfl (hb hby at_79) rfl (teq (by decide : ((0 : Int32) = (0 : Int32)))).2 kk) ?_
    show Go p e below _ (T62.setTop (mkF m 82 #[.val (.int p1), .val (.ref b2), .val (.int (1 : Int32)), .val (.int (0 : Int32))] []))
    refine Go.st (fun _ kk => XS.iconst X62.here hx rfl (hb hby at_82) kk) ?_
    show Go p e below _ (T62.setTop (mkF m 83 #[.val (.int p1), .val (.ref b2), .val (.int (1 : Int32)), .val (.int (0 : Int32))] [(.int (1 : Int32))]))
    refine Go.st (fun _ kk => XS.goto X62.here hx rfl (pc0 := 83) (pc' := 87) rfl (hb hby at_83) (by decide) (by decide) kk) ?_
    show Go p e below _ (T62.setTop (mkF m 87 #[.val (.int p1), .val (.ref b2), .val (.int (1 : Int32)), .val (.int (0 : Int32))] [(.int (1 : Int32))]))
    exact Go.ret (Q := Q0 n0) X62 (v := some (.int (1 : Int32))) (fun h => by rw [Bd.returns] at h; cases h) Bd.notSynchronized (fun fs hr => retN X62 hx (t := .boolean) Bd.returns (by simp) (hb hby at_87) hr) eq62 ⟨rfl, N62⟩ (by decide) (by decide)
  · skip
    rw [hk45]
    show Go p e below _ (T42.setTop (mkF m 60 #[.val (.int p1), .val (.ref b2), .unset, .unset] [(.int (2 : Int32))]))
    refine Go.st (fun _ kk => XS.istoreN X42.here hx rfl (hb hby at_60) rfl (l' := #[.val (.int p1), .val (.ref b2), .val (.int (2 : Int32)), .unset]) rfl kk) ?_
    show Go p e below _ (T42.setTop (mkF m 61 #[.val (.int p1), .val (.ref b2), .val (.int (2 : Int32)), .unset] []))
    refine Go.st (fun _ kk => XS.iloadN X42.here hx rfl (hb hby at_61) rfl  kk) ?_
    show Go p e below _ (T42.setTop (mkF m 62 #[.val (.int p1), .val (.ref b2), .val (.int (2 : Int32)), .unset] [(.int (2 : Int32))]))
    refine Go.st (fun _ kk => XS.iconst X42.here hx rfl (hb hby at_62) kk) ?_
    show Go p e below _ (T42.setTop (mkF m 63 #[.val (.int p1), .val (.ref b2), .val (.int (2 : Int32)), .unset] [(.int (5 : Int32)), (.int (2 : Int32))]))
    refine Go.st (fun _ kk => XS.icmpYes X42.here hx rfl (pc0 := 63) (pc' := 70) rfl (hb hby at_63) rfl (tlt (by decide : ((2 : Int32) < (5 : Int32)))).1 (by decide) (by decide) kk) ?_
    show Go p e below _ (T42.setTop (mkF m 70 #[.val (.int p1), .val (.ref b2), .val (.int (2 : Int32)), .unset] []))
    refine Go.st (fun _ kk => XS.iconst X42.here hx rfl (hb hby at_70) kk) ?_
    show Go p e below _ (T42.setTop (mkF m 71 #[.val (.int p1), .val (.ref b2), .val (.int (2 : Int32)), .unset] [(.int (0 : Int32))]))
    refine Go.st (fun _ kk => XS.istoreN X42.here hx rfl (hb hby at_71) rfl (l' := #[.val (.int p1), .val (.ref b2), .val (.int (2 : Int32)), .val (.int (0 : Int32))]) rfl kk) ?_
    show Go p e below _ (T42.setTop (mkF m 72 #[.val (.int p1), .val (.ref b2), .val (.int (2 : Int32)), .val (.int (0 : Int32))] []))
    refine Go.st (fun _ kk => XS.aloadN X42.here hx rfl (hb hby at_72) rfl rfl  kk) ?_
    show Go p e below _ (T42.setTop (mkF m 73 #[.val (.int p1), .val (.ref b2), .val (.int (2 : Int32)), .val (.int (0 : Int32))] [(.ref b2)]))
    refine Go.st (fun _ kk => XS.iloadN X42.here hx rfl (hb hby at_73) rfl  kk) ?_
    show Go p e below _ (T42.setTop (mkF m 74 #[.val (.int p1), .val (.ref b2), .val (.int (2 : Int32)), .val (.int (0 : Int32))] [(.int (2 : Int32)), (.ref b2)]))
    obtain ⟨clq63, Arq63, caq63, saq63, naq63, haq63, gaq63⟩ := V42
    have inq63 : ¬ ((2 : Int32) < 0 ∨ clq63.slots.size ≤ ((2 : Int32)).toNatClampNeg) := inb_of saq63 ⟨by decide, by decide⟩
    have atq63 : clq63.slots[((2 : Int32)).toNatClampNeg]? = some (.ref w_INT64) := haq63.at inq63 rfl
    refine Go.st (fun _ kk => X42.aaload hx (j := (2 : Int32)) (v := (.ref w_INT64)) (by rw [e42]; exact Arq63.1) (State.isArrayOf_alike hZ.alike Arq63.2.1) rfl Arq63.2.2 inq63 atq63 (g := (mkF m 74 #[.val (.int p1), .val (.ref b2), .val (.int (2 : Int32)), .val (.int (0 : Int32))] [(.int (2 : Int32)), (.ref b2)])) rfl rfl (hb hby at_74) _ kk) ?_
    show Go p e below _ (T42.setTop (mkF m 75 #[.val (.int p1), .val (.ref b2), .val (.int (2 : Int32)), .val (.int (0 : Int32))] [(.ref w_INT64)]))
    have f_64 := (Exa.wr W42 (Exa.wr W37 (Exa.wr W32 (Exa.wr W27 (Exa.wr W22 (Exa.wr W17 f_16))))))
    have f_65 := (Sta.wr W42 (Sta.wr W37 (Sta.wr W32 f_28)))
    have f_66 := (Sta.wr W42 (Sta.wr W37 f_33))
    have f_67 := (Sta.wr W42 f_38)
    obtain ⟨cq68, kq68, q68a, q68b, q68c⟩ := isOf hZ e42 f_64
    obtain ⟨_, _, ⟨T68, L68, k68, n68⟩, -, X68, ⟨Lc68, hQ68, l68, y68, z68⟩, st68⟩ := X42.virtualBack hx (y := (⟨"com/example/zarnitsa/zarnitsa/FastTemplate$Type", "isBytes", "()Z"⟩ : MethodName)) (z := (⟨"com/example/zarnitsa/zarnitsa/FastTemplate$Type", "isBytes", "()Z"⟩ : MethodName)) hown (mvT hZ (hw _ (List.mem_of_getElem? (i := 20) rfl))) (mvT hZ (hw _ (List.mem_of_getElem? (i := 21) rfl))) (notFace_of_selects (args := #[]) (mvT hZ (hw _ (List.mem_of_getElem? (i := 23) rfl)))) (mvT hZ (hw _ (List.mem_of_getElem? (i := 23) rfl))) (mvT hZ (hw _ (List.mem_of_getElem? (i := 22) rfl))) (by decide) (backOf (W := 0) (rm1_fff l Z a0 hw [] w_INT64 w_ASCII w_UNICODE w_BYTE_VECTOR h42 n0 (Nat.le_trans Z0 K42.1) f_65 (Fld.ne F_ordinal_w_INT64 F_ordinal_w_ASCII (by decide)) f_66 (Fld.ne F_ordinal_w_INT64 F_ordinal_w_UNICODE (by decide)) f_67 (Fld.ne F_ordinal_w_INT64 F_ordinal_w_BYTE_VECTOR (by decide))) hZ (hw _ (List.mem_of_getElem? (i := 24) rfl)) (hw _ (List.mem_of_getElem? (i := 3) rfl)) (by decide) (by decide)) q68a q68c (g := (mkF m 75 #[.val (.int p1), .val (.ref b2), .val (.int (2 : Int32)), .val (.int (0 : Int32))] [(.ref w_INT64)])) rfl (by rw [hml]; rfl) (Steps.refl _) (argsL := []) (rest := []) (lenOf pd_0 rfl) rfl (by show 2 * 0 + _ ≤ _; exact Nat.le_of_eq rfl) (hb hby at_75) (fun _ _ => ⟨rfl, e42, (by decide : 1 + 0 ≤ _), (by decide : 8 + 0 ≤ _)⟩)
    dsimp only [Pt.U, Pt.locs, Pt.cells, Pt.slots] at X68 l68 y68 z68 st68 hQ68
    subst l68 y68 z68
    obtain ⟨rfl, N68q, eq68⟩ := hQ68
    have N68 := Fr.app N42 N68q
    refine Go.tr st68 ?_
    show Go p e below _ (T68.setTop (mkF m 78 #[.val (.int p1), .val (.ref b2), .val (.int (2 : Int32)), .val (.int (0 : Int32))] [(.int (0 : Int32))]))
    refine Go.st (fun _ kk => XS.iloadN X68.here hx rfl (hb hby at_78) rfl  kk) ?_
    show Go p e below _ (T68.setTop (mkF m 79 #[.val (.int p1), .val (.ref b2), .val (.int (2 : Int32)), .val (.int (0 : Int32))] [(.int (0 : Int32)), (.int (0 : Int32))]))
    refine Go.st (fun _ kk => XS.icmpNo X68.here hx rfl (hb hby at_79) rfl (teq (by decide : ((0 : Int32) = (0 : Int32)))).2 kk) ?_
    show Go p e below _ (T68.setTop (mkF m 82 #[.val (.int p1), .val (.ref b2), .val (.int (2 : Int32)), .val (.int (0 : Int32))] []))
    refine Go.st (fun _ kk => XS.iconst X68.here hx rfl (hb hby at_82) kk) ?_
    show Go p e below _ (T68.setTop (mkF m 83 #[.val (.int p1), .val (.ref b2), .val (.int (2 : Int32)), .val (.int (0 : Int32))] [(.int (1 : Int32))]))
    refine Go.st (fun _ kk => XS.goto X68.here hx rfl (pc0 := 83) (pc' := 87) rfl (hb hby at_83) (by decide) (by decide) kk) ?_
    show Go p e below _ (T68.setTop (mkF m 87 #[.val (.int p1), .val (.ref b2), .val (.int (2 : Int32)), .val (.int (0 : Int32))] [(.int (1 : Int32))]))
    exact Go.ret (Q := Q0 n0) X68 (v := some (.int (1 : Int32))) (fun h => by rw [Bd.returns] at h; cases h) Bd.notSynchronized (fun fs hr => retN X68 hx (t := .boolean) Bd.returns (by simp) (hb hby at_87) hr) eq68 ⟨rfl, N68⟩ (by decide) (by decide)
  · skip
    rw [hk46]
    show Go p e below _ (T42.setTop (mkF m 60 #[.val (.int p1), .val (.ref b2), .unset, .unset] [(.int (3 : Int32))]))
    refine Go.st (fun _ kk => XS.istoreN X42.here hx rfl (hb hby at_60) rfl (l' := #[.val (.int p1), .val (.ref b2), .val (.int (3 : Int32)), .unset]) rfl kk) ?_
    show Go p e below _ (T42.setTop (mkF m 61 #[.val (.int p1), .val (.ref b2), .val (.int (3 : Int32)), .unset] []))
    refine Go.st (fun _ kk => XS.iloadN X42.here hx rfl (hb hby at_61) rfl  kk) ?_
    show Go p e below _ (T42.setTop (mkF m 62 #[.val (.int p1), .val (.ref b2), .val (.int (3 : Int32)), .unset] [(.int (3 : Int32))]))
    refine Go.st (fun _ kk => XS.iconst X42.here hx rfl (hb hby at_62) kk) ?_
    show Go p e below _ (T42.setTop (mkF m 63 #[.val (.int p1), .val (.ref b2), .val (.int (3 : Int32)), .unset] [(.int (5 : Int32)), (.int (3 : Int32))]))
    refine Go.st (fun _ kk => XS.icmpYes X42.here hx rfl (pc0 := 63) (pc' := 70) rfl (hb hby at_63) rfl (tlt (by decide : ((3 : Int32) < (5 : Int32)))).1 (by decide) (by decide) kk) ?_
    show Go p e below _ (T42.setTop (mkF m 70 #[.val (.int p1), .val (.ref b2), .val (.int (3 : Int32)), .unset] []))
    refine Go.st (fun _ kk => XS.iconst X42.here hx rfl (hb hby at_70) kk) ?_
    show Go p e below _ (T42.setTop (mkF m 71 #[.val (.int p1), .val (.ref b2), .val (.int (3 : Int32)), .unset] [(.int (0 : Int32))]))
    refine Go.st (fun _ kk => XS.istoreN X42.here hx rfl (hb hby at_71) rfl (l' := #[.val (.int p1), .val (.ref b2), .val (.int (3 : Int32)), .val (.int (0 : Int32))]) rfl kk) ?_
    show Go p e below _ (T42.setTop (mkF m 72 #[.val (.int p1), .val (.ref b2), .val (.int (3 : Int32)), .val (.int (0 : Int32))] []))
    refine Go.st (fun _ kk => XS.aloadN X42.here hx rfl (hb hby at_72) rfl rfl  kk) ?_
    show Go p e below _ (T42.setTop (mkF m 73 #[.val (.int p1), .val (.ref b2), .val (.int (3 : Int32)), .val (.int (0 : Int32))] [(.ref b2)]))
    refine Go.st (fun _ kk => XS.iloadN X42.here hx rfl (hb hby at_73) rfl  kk) ?_
    show Go p e below _ (T42.setTop (mkF m 74 #[.val (.int p1), .val (.ref b2), .val (.int (3 : Int32)), .val (.int (0 : Int32))] [(.int (3 : Int32)), (.ref b2)]))
    obtain ⟨clq69, Arq69, caq69, saq69, naq69, haq69, gaq69⟩ := V42
    have inq69 : ¬ ((3 : Int32) < 0 ∨ clq69.slots.size ≤ ((3 : Int32)).toNatClampNeg) := inb_of saq69 ⟨by decide, by decide⟩
    have atq69 : clq69.slots[((3 : Int32)).toNatClampNeg]? = some (.ref w_UINT64) := haq69.at inq69 rfl
    refine Go.st (fun _ kk => X42.aaload hx (j := (3 : Int32)) (v := (.ref w_UINT64)) (by rw [e42]; exact Arq69.1) (State.isArrayOf_alike hZ.alike Arq69.2.1) rfl Arq69.2.2 inq69 atq69 (g := (mkF m 74 #[.val (.int p1), .val (.ref b2), .val (.int (3 : Int32)), .val (.int (0 : Int32))] [(.int (3 : Int32)), (.ref b2)])) rfl rfl (hb hby at_74) _ kk) ?_
    show Go p e below _ (T42.setTop (mkF m 75 #[.val (.int p1), .val (.ref b2), .val (.int (3 : Int32)), .val (.int (0 : Int32))] [(.ref w_UINT64)]))
    have f_70 := (Exa.wr W42 (Exa.wr W37 (Exa.wr W32 (Exa.wr W27 (Exa.wr W22 f_21)))))
    have f_71 := (Sta.wr W42 (Sta.wr W37 (Sta.wr W32 f_28)))
    have f_72 := (Sta.wr W42 (Sta.wr W37 f_33))
    have f_73 := (Sta.wr W42 f_38)
    obtain ⟨cq74, kq74, q74a, q74b, q74c⟩ := isOf hZ e42 f_70
    obtain ⟨_, _, ⟨T74, L74, k74, n74⟩, -, X74, ⟨Lc74, hQ74, l74, y74, z74⟩, st74⟩ := X42.virtualBack hx (y := (⟨"com/example/zarnitsa/zarnitsa/FastTemplate$Type", "isBytes", "()Z"⟩ : MethodName)) (z := (⟨"com/example/zarnitsa/zarnitsa/FastTemplate$Type", "isBytes", "()Z"⟩ : MethodName)) hown (mvT hZ (hw _ (List.mem_of_getElem? (i := 20) rfl))) (mvT hZ (hw _ (List.mem_of_getElem? (i := 21) rfl))) (notFace_of_selects (args := #[]) (mvT hZ (hw _ (List.mem_of_getElem? (i := 23) rfl)))) (mvT hZ (hw _ (List.mem_of_getElem? (i := 23) rfl))) (mvT hZ (hw _ (List.mem_of_getElem? (i := 22) rfl))) (by decide) (backOf (W := 0) (rm1_fff l Z a0 hw [] w_UINT64 w_ASCII w_UNICODE w_BYTE_VECTOR h42 n0 (Nat.le_trans Z0 K42.1) f_71 (Fld.ne F_ordinal_w_UINT64 F_ordinal_w_ASCII (by decide)) f_72 (Fld.ne F_ordinal_w_UINT64 F_ordinal_w_UNICODE (by decide)) f_73 (Fld.ne F_ordinal_w_UINT64 F_ordinal_w_BYTE_VECTOR (by decide))) hZ (hw _ (List.mem_of_getElem? (i := 24) rfl)) (hw _ (List.mem_of_getElem? (i := 3) rfl)) (by decide) (by decide)) q74a q74c (g := (mkF m 75 #[.val (.int p1), .val (.ref b2), .val (.int (3 : Int32)), .val (.int (0 : Int32))] [(.ref w_UINT64)])) rfl (by rw [hml]; rfl) (Steps.refl _) (argsL := []) (rest := []) (lenOf pd_0 rfl) rfl (by show 2 * 0 + _ ≤ _; exact Nat.le_of_eq rfl) (hb hby at_75) (fun _ _ => ⟨rfl, e42, (by decide : 1 + 0 ≤ _), (by decide : 8 + 0 ≤ _)⟩)
    dsimp only [Pt.U, Pt.locs, Pt.cells, Pt.slots] at X74 l74 y74 z74 st74 hQ74
    subst l74 y74 z74
    obtain ⟨rfl, N74q, eq74⟩ := hQ74
    have N74 := Fr.app N42 N74q
    refine Go.tr st74 ?_
    show Go p e below _ (T74.setTop (mkF m 78 #[.val (.int p1), .val (.ref b2), .val (.int (3 : Int32)), .val (.int (0 : Int32))] [(.int (0 : Int32))]))
    refine Go.st (fun _ kk => XS.iloadN X74.here hx rfl (hb hby at_78) rfl  kk) ?_
    show Go p e below _ (T74.setTop (mkF m 79 #[.val (.int p1), .val (.ref b2), .val (.int (3 : Int32)), .val (.int (0 : Int32))] [(.int (0 : Int32)), (.int (0 : Int32))]))
    refine Go.st (fun _ kk => XS.icmpNo X74.here hx rfl (hb hby at_79) rfl (teq (by decide : ((0 : Int32) = (0 : Int32)))).2 kk) ?_
    show Go p e below _ (T74.setTop (mkF m 82 #[.val (.int p1), .val (.ref b2), .val (.int (3 : Int32)), .val (.int (0 : Int32))] []))
    refine Go.st (fun _ kk => XS.iconst X74.here hx rfl (hb hby at_82) kk) ?_
    show Go p e below _ (T74.setTop (mkF m 83 #[.val (.int p1), .val (.ref b2), .val (.int (3 : Int32)), .val (.int (0 : Int32))] [(.int (1 : Int32))]))
    refine Go.st (fun _ kk => XS.goto X74.here hx rfl (pc0 := 83) (pc' := 87) rfl (hb hby at_83) (by decide) (by decide) kk) ?_
    show Go p e below _ (T74.setTop (mkF m 87 #[.val (.int p1), .val (.ref b2), .val (.int (3 : Int32)), .val (.int (0 : Int32))] [(.int (1 : Int32))]))
    exact Go.ret (Q := Q0 n0) X74 (v := some (.int (1 : Int32))) (fun h => by rw [Bd.returns] at h; cases h) Bd.notSynchronized (fun fs hr => retN X74 hx (t := .boolean) Bd.returns (by simp) (hb hby at_87) hr) eq74 ⟨rfl, N74⟩ (by decide) (by decide)
  · skip
    rw [hk47]
    show Go p e below _ (T42.setTop (mkF m 60 #[.val (.int p1), .val (.ref b2), .unset, .unset] [(.int (4 : Int32))]))
    refine Go.st (fun _ kk => XS.istoreN X42.here hx rfl (hb hby at_60) rfl (l' := #[.val (.int p1), .val (.ref b2), .val (.int (4 : Int32)), .unset]) rfl kk) ?_
    show Go p e below _ (T42.setTop (mkF m 61 #[.val (.int p1), .val (.ref b2), .val (.int (4 : Int32)), .unset] []))
    refine Go.st (fun _ kk => XS.iloadN X42.here hx rfl (hb hby at_61) rfl  kk) ?_
    show Go p e below _ (T42.setTop (mkF m 62 #[.val (.int p1), .val (.ref b2), .val (.int (4 : Int32)), .unset] [(.int (4 : Int32))]))
    refine Go.st (fun _ kk => XS.iconst X42.here hx rfl (hb hby at_62) kk) ?_
    show Go p e below _ (T42.setTop (mkF m 63 #[.val (.int p1), .val (.ref b2), .val (.int (4 : Int32)), .unset] [(.int (5 : Int32)), (.int (4 : Int32))]))
    refine Go.st (fun _ kk => XS.icmpYes X42.here hx rfl (pc0 := 63) (pc' := 70) rfl (hb hby at_63) rfl (tlt (by decide : ((4 : Int32) < (5 : Int32)))).1 (by decide) (by decide) kk) ?_
    show Go p e below _ (T42.setTop (mkF m 70 #[.val (.int p1), .val (.ref b2), .val (.int (4 : Int32)), .unset] []))
    refine Go.st (fun _ kk => XS.iconst X42.here hx rfl (hb hby at_70) kk) ?_
    show Go p e below _ (T42.setTop (mkF m 71 #[.val (.int p1), .val (.ref b2), .val (.int (4 : Int32)), .unset] [(.int (0 : Int32))]))
    refine Go.st (fun _ kk => XS.istoreN X42.here hx rfl (hb hby at_71) rfl (l' := #[.val (.int p1), .val (.ref b2), .val (.int (4 : Int32)), .val (.int (0 : Int32))]) rfl kk) ?_
    show Go p e below _ (T42.setTop (mkF m 72 #[.val (.int p1), .val (.ref b2), .val (.int (4 : Int32)), .val (.int (0 : Int32))] []))
    refine Go.st (fun _ kk => XS.aloadN X42.here hx rfl (hb hby at_72) rfl rfl  kk) ?_
    show Go p e below _ (T42.setTop (mkF m 73 #[.val (.int p1), .val (.ref b2), .val (.int (4 : Int32)), .val (.int (0 : Int32))] [(.ref b2)]))
    refine Go.st (fun _ kk => XS.iloadN X42.here hx rfl (hb hby at_73) rfl  kk) ?_
    show Go p e below _ (T42.setTop (mkF m 74 #[.val (.int p1), .val (.ref b2), .val (.int (4 : Int32)), .val (.int (0 : Int32))] [(.int (4 : Int32)), (.ref b2)]))
    obtain ⟨clq75, Arq75, caq75, saq75, naq75, haq75, gaq75⟩ := V42
    have inq75 : ¬ ((4 : Int32) < 0 ∨ clq75.slots.size ≤ ((4 : Int32)).toNatClampNeg) := inb_of saq75 ⟨by decide, by decide⟩
    have atq75 : clq75.slots[((4 : Int32)).toNatClampNeg]? = some (.ref w_DECIMAL) := haq75.at inq75 rfl
    refine Go.st (fun _ kk => X42.aaload hx (j := (4 : Int32)) (v := (.ref w_DECIMAL)) (by rw [e42]; exact Arq75.1) (State.isArrayOf_alike hZ.alike Arq75.2.1) rfl Arq75.2.2 inq75 atq75 (g := (mkF m 74 #[.val (.int p1), .val (.ref b2), .val (.int (4 : Int32)), .val (.int (0 : Int32))] [(.int (4 : Int32)), (.ref b2)])) rfl rfl (hb hby at_74) _ kk) ?_
    show Go p e below _ (T42.setTop (mkF m 75 #[.val (.int p1), .val (.ref b2), .val (.int (4 : Int32)), .val (.int (0 : Int32))] [(.ref w_DECIMAL)]))
    have f_76 := (Exa.wr W42 (Exa.wr W37 (Exa.wr W32 (Exa.wr W27 f_26))))
    have f_77 := (Sta.wr W42 (Sta.wr W37 (Sta.wr W32 f_28)))
    have f_78 := (Sta.wr W42 (Sta.wr W37 f_33))
    have f_79 := (Sta.wr W42 f_38)
    obtain ⟨cq80, kq80, q80a, q80b, q80c⟩ := isOf hZ e42 f_76
    obtain ⟨_, _, ⟨T80, L80, k80, n80⟩, -, X80, ⟨Lc80, hQ80, l80, y80, z80⟩, st80⟩ := X42.virtualBack hx (y := (⟨"com/example/zarnitsa/zarnitsa/FastTemplate$Type", "isBytes", "()Z"⟩ : MethodName)) (z := (⟨"com/example/zarnitsa/zarnitsa/FastTemplate$Type", "isBytes", "()Z"⟩ : MethodName)) hown (mvT hZ (hw _ (List.mem_of_getElem? (i := 20) rfl))) (mvT hZ (hw _ (List.mem_of_getElem? (i := 21) rfl))) (notFace_of_selects (args := #[]) (mvT hZ (hw _ (List.mem_of_getElem? (i := 23) rfl)))) (mvT hZ (hw _ (List.mem_of_getElem? (i := 23) rfl))) (mvT hZ (hw _ (List.mem_of_getElem? (i := 22) rfl))) (by decide) (backOf (W := 0) (rm1_fff l Z a0 hw [] w_DECIMAL w_ASCII w_UNICODE w_BYTE_VECTOR h42 n0 (Nat.le_trans Z0 K42.1) f_77 (Fld.ne F_ordinal_w_DECIMAL F_ordinal_w_ASCII (by decide)) f_78 (Fld.ne F_ordinal_w_DECIMAL F_ordinal_w_UNICODE (by decide)) f_79 (Fld.ne F_ordinal_w_DECIMAL F_ordinal_w_BYTE_VECTOR (by decide))) hZ (hw _ (List.mem_of_getElem? (i := 24) rfl)) (hw _ (List.mem_of_getElem? (i := 3) rfl)) (by decide) (by decide)) q80a q80c (g := (mkF m 75 #[.val (.int p1), .val (.ref b2), .val (.int (4 : Int32)), .val (.int (0 : Int32))] [(.ref w_DECIMAL)])) rfl (by rw [hml]; rfl) (Steps.refl _) (argsL := []) (rest := []) (lenOf pd_0 rfl) rfl (by show 2 * 0 + _ ≤ _; exact Nat.le_of_eq rfl) (hb hby at_75) (fun _ _ => ⟨rfl, e42, (by decide : 1 + 0 ≤ _), (by decide : 8 + 0 ≤ _)⟩)
    dsimp only [Pt.U, Pt.locs, Pt.cells, Pt.slots] at X80 l80 y80 z80 st80 hQ80
    subst l80 y80 z80
    obtain ⟨rfl, N80q, eq80⟩ := hQ80
    have N80 := Fr.app N42 N80q
    refine Go.tr st80 ?_
    show Go p e below _ (T80.setTop (mkF m 78 #[.val (.int p1), .val (.ref b2), .val (.int (4 : Int32)), .val (.int (0 : Int32))] [(.int (0 : Int32))]))
    refine Go.st (fun _ kk => XS.iloadN X80.here hx rfl (hb hby at_78) rfl  kk) ?_
    show Go p e below _ (T80.setTop (mkF m 79 #[.val (.int p1), .val (.ref b2), .val (.int (4 : Int32)), .val (.int (0 : Int32))] [(.int (0 : Int32)), (.int (0 : Int32))]))
    refine Go.st (fun _ kk => XS.icmpNo X80.here hx rfl (hb hby at_79) rfl (teq (by decide : ((0 : Int32) = (0 : Int32)))).2 kk) ?_
    show Go p e below _ (T80.setTop (mkF m 82 #[.val (.int p1), .val (.ref b2), .val (.int (4 : Int32)), .val (.int (0 : Int32))] []))
    refine Go.st (fun _ kk => XS.iconst X80.here hx rfl (hb hby at_82) kk) ?_
    show Go p e below _ (T80.setTop (mkF m 83 #[.val (.int p1), .val (.ref b2), .val (.int (4 : Int32)), .val (.int (0 : Int32))] [(.int (1 : Int32))]))
    refine Go.st (fun _ kk => XS.goto X80.here hx rfl (pc0 := 83) (pc' := 87) rfl (hb hby at_83) (by decide) (by decide) kk) ?_
    show Go p e below _ (T80.setTop (mkF m 87 #[.val (.int p1), .val (.ref b2), .val (.int (4 : Int32)), .val (.int (0 : Int32))] [(.int (1 : Int32))]))
    exact Go.ret (Q := Q0 n0) X80 (v := some (.int (1 : Int32))) (fun h => by rw [Bd.returns] at h; cases h) Bd.notSynchronized (fun fs hr => retN X80 hx (t := .boolean) Bd.returns (by simp) (hb hby at_87) hr) eq80 ⟨rfl, N80⟩ (by decide) (by decide)
  · skip
    rw [hk48]
    show Go p e below _ (T42.setTop (mkF m 60 #[.val (.int p1), .val (.ref b2), .unset, .unset] [(.int (5 : Int32))]))
    refine Go.st (fun _ kk => XS.istoreN X42.here hx rfl (hb hby at_60) rfl (l' := #[.val (.int p1), .val (.ref b2), .val (.int (5 : Int32)), .unset]) rfl kk) ?_
    show Go p e below _ (T42.setTop (mkF m 61 #[.val (.int p1), .val (.ref b2), .val (.int (5 : Int32)), .unset] []))
    refine Go.st (fun _ kk => XS.iloadN X42.here hx rfl (hb hby at_61) rfl  kk) ?_
    show Go p e below _ (T42.setTop (mkF m 62 #[.val (.int p1), .val (.ref b2), .val (.int (5 : Int32)), .unset] [(.int (5 : Int32))]))
    refine Go.st (fun _ kk => XS.iconst X42.here hx rfl (hb hby at_62) kk) ?_
    show Go p e below _ (T42.setTop (mkF m 63 #[.val (.int p1), .val (.ref b2), .val (.int (5 : Int32)), .unset] [(.int (5 : Int32)), (.int (5 : Int32))]))
    refine Go.st (fun _ kk => XS.icmpNo X42.here hx rfl (hb hby at_63) rfl (flt (by decide : ¬ ((5 : Int32) < (5 : Int32)))).1 kk) ?_
    show Go p e below _ (T42.setTop (mkF m 66 #[.val (.int p1), .val (.ref b2), .val (.int (5 : Int32)), .unset] []))
    refine Go.st (fun _ kk => XS.iconst X42.here hx rfl (hb hby at_66) kk) ?_
    show Go p e below _ (T42.setTop (mkF m 67 #[.val (.int p1), .val (.ref b2), .val (.int (5 : Int32)), .unset] [(.int (1 : Int32))]))
    refine Go.st (fun _ kk => XS.goto X42.here hx rfl (pc0 := 67) (pc' := 71) rfl (hb hby at_67) (by decide) (by decide) kk) ?_
    show Go p e below _ (T42.setTop (mkF m 71 #[.val (.int p1), .val (.ref b2), .val (.int (5 : Int32)), .unset] [(.int (1 : Int32))]))
    refine Go.st (fun _ kk => XS.istoreN X42.here hx rfl (hb hby at_71) rfl (l' := #[.val (.int p1), .val (.ref b2), .val (.int (5 : Int32)), .val (.int (1 : Int32))]) rfl kk) ?_
    show Go p e below _ (T42.setTop (mkF m 72 #[.val (.int p1), .val (.ref b2), .val (.int (5 : Int32)), .val (.int (1 : Int32))] []))
    refine Go.st (fun _ kk => XS.aloadN X42.here hx rfl (hb hby at_72) rfl rfl  kk) ?_
    show Go p e below _ (T42.setTop (mkF m 73 #[.val (.int p1), .val (.ref b2), .val (.int (5 : Int32)), .val (.int (1 : Int32))] [(.ref b2)]))
    refine Go.st (fun _ kk => XS.iloadN X42.here hx rfl (hb hby at_73) rfl  kk) ?_
    show Go p e below _ (T42.setTop (mkF m 74 #[.val (.int p1), .val (.ref b2), .val (.int (5 : Int32)), .val (.int (1 : Int32))] [(.int (5 : Int32)), (.ref b2)]))
    obtain ⟨clq81, Arq81, caq81, saq81, naq81, haq81, gaq81⟩ := V42
    have inq81 : ¬ ((5 : Int32) < 0 ∨ clq81.slots.size ≤ ((5 : Int32)).toNatClampNeg) := inb_of saq81 ⟨by decide, by decide⟩
    have atq81 : clq81.slots[((5 : Int32)).toNatClampNeg]? = some (.ref w_ASCII) := haq81.at inq81 rfl
    refine Go.st (fun _ kk => X42.aaload hx (j := (5 : Int32)) (v := (.ref w_ASCII)) (by rw [e42]; exact Arq81.1) (State.isArrayOf_alike hZ.alike Arq81.2.1) rfl Arq81.2.2 inq81 atq81 (g := (mkF m 74 #[.val (.int p1), .val (.ref b2), .val (.int (5 : Int32)), .val (.int (1 : Int32))] [(.int (5 : Int32)), (.ref b2)])) rfl rfl (hb hby at_74) _ kk) ?_
    show Go p e below _ (T42.setTop (mkF m 75 #[.val (.int p1), .val (.ref b2), .val (.int (5 : Int32)), .val (.int (1 : Int32))] [(.ref w_ASCII)]))
    have f_82 := (Exa.wr W42 (Exa.wr W37 (Exa.wr W32 f_31)))
    have f_83 := (Sta.wr W42 (Sta.wr W37 (Sta.wr W32 f_28)))
    obtain ⟨cq84, kq84, q84a, q84b, q84c⟩ := isOf hZ e42 f_82
    obtain ⟨_, _, ⟨T84, L84, k84, n84⟩, -, X84, ⟨Lc84, hQ84, l84, y84, z84⟩, st84⟩ := X42.virtualBack hx (y := (⟨"com/example/zarnitsa/zarnitsa/FastTemplate$Type", "isBytes", "()Z"⟩ : MethodName)) (z := (⟨"com/example/zarnitsa/zarnitsa/FastTemplate$Type", "isBytes", "()Z"⟩ : MethodName)) hown (mvT hZ (hw _ (List.mem_of_getElem? (i := 20) rfl))) (mvT hZ (hw _ (List.mem_of_getElem? (i := 21) rfl))) (notFace_of_selects (args := #[]) (mvT hZ (hw _ (List.mem_of_getElem? (i := 23) rfl)))) (mvT hZ (hw _ (List.mem_of_getElem? (i := 23) rfl))) (mvT hZ (hw _ (List.mem_of_getElem? (i := 22) rfl))) (by decide) (backOf (W := 0) (rm1_t l Z a0 hw [] w_ASCII w_ASCII h42 n0 (Nat.le_trans Z0 K42.1) f_83 (rfl : w_ASCII = w_ASCII)) hZ (hw _ (List.mem_of_getElem? (i := 24) rfl)) (hw _ (List.mem_of_getElem? (i := 3) rfl)) (by decide) (by decide)) q84a q84c (g := (mkF m 75 #[.val (.int p1), .val (.ref b2), .val (.int (5 : Int32)), .val (.int (1 : Int32))] [(.ref w_ASCII)])) rfl (by rw [hml]; rfl) (Steps.refl _) (argsL := []) (rest := []) (lenOf pd_0 rfl) rfl (by show 2 * 0 + _ ≤ _; exact Nat.le_of_eq rfl) (hb hby at_75) (fun _ _ => ⟨rfl, e42, (by decide : 1 + 0 ≤ _), (by decide : 8 + 0 ≤ _)⟩)
    dsimp only [Pt.U, Pt.locs, Pt.cells, Pt.slots] at X84 l84 y84 z84 st84 hQ84
    subst l84 y84 z84
    obtain ⟨rfl, N84q, eq84⟩ := hQ84
    have N84 := Fr.app N42 N84q
    refine Go.tr st84 ?_
    show Go p e below _ (T84.setTop (mkF m 78 #[.val (.int p1), .val (.ref b2), .val (.int (5 : Int32)), .val (.int (1 : Int32))] [(.int (1 : Int32))]))
    refine Go.st (fun _ kk => XS.iloadN X84.here hx rfl (hb hby at_78) rfl  kk) ?_
    show Go p e below _ (T84.setTop (mkF m 79 #[.val (.int p1), .val (.ref b2), .val (.int (5 : Int32)), .val (.int (1 : Int32))] [(.int (1 : Int32)), (.int (1 : Int32))]))
    refine Go.st (fun _ kk => XS.icmpNo X84.here hx rfl (hb hby at_79) rfl (teq (by decide : ((1 : Int32) = (1 : Int32)))).2 kk) ?_
    show Go p e below _ (T84.setTop (mkF m 82 #[.val (.int p1), .val (.ref b2), .val (.int (5 : Int32)), .val (.int (1 : Int32))] []))
    refine Go.st (fun _ kk => XS.iconst X84.here hx rfl (hb hby at_82) kk) ?_
    show Go p e below _ (T84.setTop (mkF m 83 #[.val (.int p1), .val (.ref b2), .val (.int (5 : Int32)), .val (.int (1 : Int32))] [(.int (1 : Int32))]))
    refine Go.st (fun _ kk => XS.goto X84.here hx rfl (pc0 := 83) (pc' := 87) rfl (hb hby at_83) (by decide) (by decide) kk) ?_
    show Go p e below _ (T84.setTop (mkF m 87 #[.val (.int p1), .val (.ref b2), .val (.int (5 : Int32)), .val (.int (1 : Int32))] [(.int (1 : Int32))]))
    exact Go.ret (Q := Q0 n0) X84 (v := some (.int (1 : Int32))) (fun h => by rw [Bd.returns] at h; cases h) Bd.notSynchronized (fun fs hr => retN X84 hx (t := .boolean) Bd.returns (by simp) (hb hby at_87) hr) eq84 ⟨rfl, N84⟩ (by decide) (by decide)
  · skip
    rw [hk49]
    show Go p e below _ (T42.setTop (mkF m 60 #[.val (.int p1), .val (.ref b2), .unset, .unset] [(.int (6 : Int32))]))
    refine Go.st (fun _ kk => XS.istoreN X42.here hx rfl (hb hby at_60) rfl (l' := #[.val (.int p1), .val (.ref b2), .val (.int (6 : Int32)), .unset]) rfl kk) ?_
    show Go p e below _ (T42.setTop (mkF m 61 #[.val (.int p1), .val (.ref b2), .val (.int (6 : Int32)), .unset] []))
    refine Go.st (fun _ kk => XS.iloadN X42.here hx rfl (hb hby at_61) rfl  kk) ?_
    show Go p e below _ (T42.setTop (mkF m 62 #[.val (.int p1), .val (.ref b2), .val (.int (6 : Int32)), .unset] [(.int (6 : Int32))]))
    refine Go.st (fun _ kk => XS.iconst X42.here hx rfl (hb hby at_62) kk) ?_
    show Go p e below _ (T42.setTop (mkF m 63 #[.val (.int p1), .val (.ref b2), .val (.int (6 : Int32)), .unset] [(.int (5 : Int32)), (.int (6 : Int32))]))
    refine Go.st (fun _ kk => XS.icmpNo X42.here hx rfl (hb hby at_63) rfl (flt (by decide : ¬ ((6 : Int32) < (5 : Int32)))).1 kk) ?_
    show Go p e below _ (T42.setTop (mkF m 66 #[.val (.int p1), .val (.ref b2), .val (.int (6 : Int32)), .unset] []))
    refine Go.st (fun _ kk => XS.iconst X42.here hx rfl (hb hby at_66) kk) ?_
    show Go p e below _ (T42.setTop (mkF m 67 #[.val (.int p1), .val (.ref b2), .val (.int (6 : Int32)), .unset] [(.int (1 : Int32))]))
    refine Go.st (fun _ kk => XS.goto X42.here hx rfl (pc0 := 67) (pc' := 71) rfl (hb hby at_67) (by decide) (by decide) kk) ?_
    show Go p e below _ (T42.setTop (mkF m 71 #[.val (.int p1), .val (.ref b2), .val (.int (6 : Int32)), .unset] [(.int (1 : Int32))]))
    refine Go.st (fun _ kk => XS.istoreN X42.here hx rfl (hb hby at_71) rfl (l' := #[.val (.int p1), .val (.ref b2), .val (.int (6 : Int32)), .val (.int (1 : Int32))]) rfl kk) ?_
    show Go p e below _ (T42.setTop (mkF m 72 #[.val (.int p1), .val (.ref b2), .val (.int (6 : Int32)), .val (.int (1 : Int32))] []))
    refine Go.st (fun _ kk => XS.aloadN X42.here hx rfl (hb hby at_72) rfl rfl  kk) ?_
    show Go p e below _ (T42.setTop (mkF m 73 #[.val (.int p1), .val (.ref b2), .val (.int (6 : Int32)), .val (.int (1 : Int32))] [(.ref b2)]))
    refine Go.st (fun _ kk => XS.iloadN X42.here hx rfl (hb hby at_73) rfl  kk) ?_
    show Go p e below _ (T42.setTop (mkF m 74 #[.val (.int p1), .val (.ref b2), .val (.int (6 : Int32)), .val (.int (1 : Int32))] [(.int (6 : Int32)), (.ref b2)]))
    obtain ⟨clq85, Arq85, caq85, saq85, naq85, haq85, gaq85⟩ := V42
    have inq85 : ¬ ((6 : Int32) < 0 ∨ clq85.slots.size ≤ ((6 : Int32)).toNatClampNeg) := inb_of saq85 ⟨by decide, by decide⟩
    have atq85 : clq85.slots[((6 : Int32)).toNatClampNeg]? = some (.ref w_UNICODE) := haq85.at inq85 rfl
    refine Go.st (fun _ kk => X42.aaload hx (j := (6 : Int32)) (v := (.ref w_UNICODE)) (by rw [e42]; exact Arq85.1) (State.isArrayOf_alike hZ.alike Arq85.2.1) rfl Arq85.2.2 inq85 atq85 (g := (mkF m 74 #[.val (.int p1), .val (.ref b2), .val (.int (6 : Int32)), .val (.int (1 : Int32))] [(.int (6 : Int32)), (.ref b2)])) rfl rfl (hb hby at_74) _ kk) ?_
    show Go p e below _ (T42.setTop (mkF m 75 #[.val (.int p1), .val (.ref b2), .val (.int (6 : Int32)), .val (.int (1 : Int32))] [(.ref w_UNICODE)]))
    have f_86 := (Exa.wr W42 (Exa.wr W37 f_36))
    have f_87 := (Sta.wr W42 (Sta.wr W37 (Sta.wr W32 f_28)))
    have f_88 := (Sta.wr W42 (Sta.wr W37 f_33))
    obtain ⟨cq89, kq89, q89a, q89b, q89c⟩ := isOf hZ e42 f_86
    obtain ⟨_, _, ⟨T89, L89, k89, n89⟩, -, X89, ⟨Lc89, hQ89, l89, y89, z89⟩, st89⟩ := X42.virtualBack hx (y := (⟨"com/example/zarnitsa/zarnitsa/FastTemplate$Type", "isBytes", "()Z"⟩ : MethodName)) (z := (⟨"com/example/zarnitsa/zarnitsa/FastTemplate$Type", "isBytes", "()Z"⟩ : MethodName)) hown (mvT hZ (hw _ (List.mem_of_getElem? (i := 20) rfl))) (mvT hZ (hw _ (List.mem_of_getElem? (i := 21) rfl))) (notFace_of_selects (args := #[]) (mvT hZ (hw _ (List.mem_of_getElem? (i := 23) rfl)))) (mvT hZ (hw _ (List.mem_of_getElem? (i := 23) rfl))) (mvT hZ (hw _ (List.mem_of_getElem? (i := 22) rfl))) (by decide) (backOf (W := 0) (rm1_ft l Z a0 hw [] w_UNICODE w_ASCII w_UNICODE h42 n0 (Nat.le_trans Z0 K42.1) f_87 (Fld.ne F_ordinal_w_UNICODE F_ordinal_w_ASCII (by decide)) f_88 (rfl : w_UNICODE = w_UNICODE)) hZ (hw _ (List.mem_of_getElem? (i := 24) rfl)) (hw _ (List.mem_of_getElem? (i := 3) rfl)) (by decide) (by decide)) q89a q89c (g := (mkF m 75 #[.val (.int p1), .val (.ref b2), .val (.int (6 : Int32)), .val (.int (1 : Int32))] [(.ref w_UNICODE)])) rfl (by rw [hml]; rfl) (Steps.refl _) (argsL := []) (rest := []) (lenOf pd_0 rfl) rfl (by show 2 * 0 + _ ≤ _; exact Nat.le_of_eq rfl) (hb hby at_75) (fun _ _ => ⟨rfl, e42, (by decide : 1 + 0 ≤ _), (by decide : 8 + 0 ≤ _)⟩)
    dsimp only [Pt.U, Pt.locs, Pt.cells, Pt.slots] at X89 l89 y89 z89 st89 hQ89
    subst l89 y89 z89
    obtain ⟨rfl, N89q, eq89⟩ := hQ89
    have N89 := Fr.app N42 N89q
    refine Go.tr st89 ?_
    show Go p e below _ (T89.setTop (mkF m 78 #[.val (.int p1), .val (.ref b2), .val (.int (6 : Int32)), .val (.int (1 : Int32))] [(.int (1 : Int32))]))
    refine Go.st (fun _ kk => XS.iloadN X89.here hx rfl (hb hby at_78) rfl  kk) ?_
    show Go p e below _ (T89.setTop (mkF m 79 #[.val (.int p1), .val (.ref b2), .val (.int (6 : Int32)), .val (.int (1 : Int32))] [(.int (1 : Int32)), (.int (1 : Int32))]))
    refine Go.st (fun _ kk => XS.icmpNo X89.here hx rfl (hb hby at_79) rfl (teq (by decide : ((1 : Int32) = (1 : Int32)))).2 kk) ?_
    show Go p e below _ (T89.setTop (mkF m 82 #[.val (.int p1), .val (.ref b2), .val (.int (6 : Int32)), .val (.int (1 : Int32))] []))
    refine Go.st (fun _ kk => XS.iconst X89.here hx rfl (hb hby at_82) kk) ?_
    show Go p e below _ (T89.setTop (mkF m 83 #[.val (.int p1), .val (.ref b2), .val (.int (6 : Int32)), .val (.int (1 : Int32))] [(.int (1 : Int32))]))
    refine Go.st (fun _ kk => XS.goto X89.here hx rfl (pc0 := 83) (pc' := 87) rfl (hb hby at_83) (by decide) (by decide) kk) ?_
    show Go p e below _ (T89.setTop (mkF m 87 #[.val (.int p1), .val (.ref b2), .val (.int (6 : Int32)), .val (.int (1 : Int32))] [(.int (1 : Int32))]))
    exact Go.ret (Q := Q0 n0) X89 (v := some (.int (1 : Int32))) (fun h => by rw [Bd.returns] at h; cases h) Bd.notSynchronized (fun fs hr => retN X89 hx (t := .boolean) Bd.returns (by simp) (hb hby at_87) hr) eq89 ⟨rfl, N89⟩ (by decide) (by decide)
  · skip
    rw [hk50]
    show Go p e below _ (T42.setTop (mkF m 60 #[.val (.int p1), .val (.ref b2), .unset, .unset] [(.int (7 : Int32))]))
    refine Go.st (fun _ kk => XS.istoreN X42.here hx rfl (hb hby at_60) rfl (l' := #[.val (.int p1), .val (.ref b2), .val (.int (7 : Int32)), .unset]) rfl kk) ?_
    show Go p e below _ (T42.setTop (mkF m 61 #[.val (.int p1), .val (.ref b2), .val (.int (7 : Int32)), .unset] []))
    refine Go.st (fun _ kk => XS.iloadN X42.here hx rfl (hb hby at_61) rfl  kk) ?_
    show Go p e below _ (T42.setTop (mkF m 62 #[.val (.int p1), .val (.ref b2), .val (.int (7 : Int32)), .unset] [(.int (7 : Int32))]))
    refine Go.st (fun _ kk => XS.iconst X42.here hx rfl (hb hby at_62) kk) ?_
    show Go p e below _ (T42.setTop (mkF m 63 #[.val (.int p1), .val (.ref b2), .val (.int (7 : Int32)), .unset] [(.int (5 : Int32)), (.int (7 : Int32))]))
    refine Go.st (fun _ kk => XS.icmpNo X42.here hx rfl (hb hby at_63) rfl (flt (by decide : ¬ ((7 : Int32) < (5 : Int32)))).1 kk) ?_
    show Go p e below _ (T42.setTop (mkF m 66 #[.val (.int p1), .val (.ref b2), .val (.int (7 : Int32)), .unset] []))
    refine Go.st (fun _ kk => XS.iconst X42.here hx rfl (hb hby at_66) kk) ?_
    show Go p e below _ (T42.setTop (mkF m 67 #[.val (.int p1), .val (.ref b2), .val (.int (7 : Int32)), .unset] [(.int (1 : Int32))]))
    refine Go.st (fun _ kk => XS.goto X42.here hx rfl (pc0 := 67) (pc' := 71) rfl (hb hby at_67) (by decide) (by decide) kk) ?_
    show Go p e below _ (T42.setTop (mkF m 71 #[.val (.int p1), .val (.ref b2), .val (.int (7 : Int32)), .unset] [(.int (1 : Int32))]))
    refine Go.st (fun _ kk => XS.istoreN X42.here hx rfl (hb hby at_71) rfl (l' := #[.val (.int p1), .val (.ref b2), .val (.int (7 : Int32)), .val (.int (1 : Int32))]) rfl kk) ?_
    show Go p e below _ (T42.setTop (mkF m 72 #[.val (.int p1), .val (.ref b2), .val (.int (7 : Int32)), .val (.int (1 : Int32))] []))
    refine Go.st (fun _ kk => XS.aloadN X42.here hx rfl (hb hby at_72) rfl rfl  kk) ?_
    show Go p e below _ (T42.setTop (mkF m 73 #[.val (.int p1), .val (.ref b2), .val (.int (7 : Int32)), .val (.int (1 : Int32))] [(.ref b2)]))
    refine Go.st (fun _ kk => XS.iloadN X42.here hx rfl (hb hby at_73) rfl  kk) ?_
    show Go p e below _ (T42.setTop (mkF m 74 #[.val (.int p1), .val (.ref b2), .val (.int (7 : Int32)), .val (.int (1 : Int32))] [(.int (7 : Int32)), (.ref b2)]))
    obtain ⟨clq90, Arq90, caq90, saq90, naq90, haq90, gaq90⟩ := V42
    have inq90 : ¬ ((7 : Int32) < 0 ∨ clq90.slots.size ≤ ((7 : Int32)).toNatClampNeg) := inb_of saq90 ⟨by decide, by decide⟩
    have atq90 : clq90.slots[((7 : Int32)).toNatClampNeg]? = some (.ref w_BYTE_VECTOR) := haq90.at inq90 rfl
    refine Go.st (fun _ kk => X42.aaload hx (j := (7 : Int32)) (v := (.ref w_BYTE_VECTOR)) (by rw [e42]; exact Arq90.1) (State.isArrayOf_alike hZ.alike Arq90.2.1) rfl Arq90.2.2 inq90 atq90 (g := (mkF m 74 #[.val (.int p1), .val (.ref b2), .val (.int (7 : Int32)), .val (.int (1 : Int32))] [(.int (7 : Int32)), (.ref b2)])) rfl rfl (hb hby at_74) _ kk) ?_
    show Go p e below _ (T42.setTop (mkF m 75 #[.val (.int p1), .val (.ref b2), .val (.int (7 : Int32)), .val (.int (1 : Int32))] [(.ref w_BYTE_VECTOR)]))
    have f_91 := (Exa.wr W42 f_41)
    have f_92 := (Sta.wr W42 (Sta.wr W37 (Sta.wr W32 f_28)))
    have f_93 := (Sta.wr W42 (Sta.wr W37 f_33))
    have f_94 := (Sta.wr W42 f_38)
    obtain ⟨cq95, kq95, q95a, q95b, q95c⟩ := isOf hZ e42 f_91
    obtain ⟨_, _, ⟨T95, L95, k95, n95⟩, -, X95, ⟨Lc95, hQ95, l95, y95, z95⟩, st95⟩ := X42.virtualBack hx (y := (⟨"com/example/zarnitsa/zarnitsa/FastTemplate$Type", "isBytes", "()Z"⟩ : MethodName)) (z := (⟨"com/example/zarnitsa/zarnitsa/FastTemplate$Type", "isBytes", "()Z"⟩ : MethodName)) hown (mvT hZ (hw _ (List.mem_of_getElem? (i := 20) rfl))) (mvT hZ (hw _ (List.mem_of_getElem? (i := 21) rfl))) (notFace_of_selects (args := #[]) (mvT hZ (hw _ (List.mem_of_getElem? (i := 23) rfl)))) (mvT hZ (hw _ (List.mem_of_getElem? (i := 23) rfl))) (mvT hZ (hw _ (List.mem_of_getElem? (i := 22) rfl))) (by decide) (backOf (W := 0) (rm1_fft l Z a0 hw [] w_BYTE_VECTOR w_ASCII w_UNICODE w_BYTE_VECTOR h42 n0 (Nat.le_trans Z0 K42.1) f_92 (Fld.ne F_ordinal_w_BYTE_VECTOR F_ordinal_w_ASCII (by decide)) f_93 (Fld.ne F_ordinal_w_BYTE_VECTOR F_ordinal_w_UNICODE (by decide)) f_94 (rfl : w_BYTE_VECTOR = w_BYTE_VECTOR)) hZ (hw _ (List.mem_of_getElem? (i := 24) rfl)) (hw _ (List.mem_of_getElem? (i := 3) rfl)) (by decide) (by decide)) q95a q95c (g := (mkF m 75 #[.val (.int p1), .val (.ref b2), .val (.int (7 : Int32)), .val (.int (1 : Int32))] [(.ref w_BYTE_VECTOR)])) rfl (by rw [hml]; rfl) (Steps.refl _) (argsL := []) (rest := []) (lenOf pd_0 rfl) rfl (by show 2 * 0 + _ ≤ _; exact Nat.le_of_eq rfl) (hb hby at_75) (fun _ _ => ⟨rfl, e42, (by decide : 1 + 0 ≤ _), (by decide : 8 + 0 ≤ _)⟩)
    dsimp only [Pt.U, Pt.locs, Pt.cells, Pt.slots] at X95 l95 y95 z95 st95 hQ95
    subst l95 y95 z95
    obtain ⟨rfl, N95q, eq95⟩ := hQ95
    have N95 := Fr.app N42 N95q
    refine Go.tr st95 ?_
    show Go p e below _ (T95.setTop (mkF m 78 #[.val (.int p1), .val (.ref b2), .val (.int (7 : Int32)), .val (.int (1 : Int32))] [(.int (1 : Int32))]))
    refine Go.st (fun _ kk => XS.iloadN X95.here hx rfl (hb hby at_78) rfl  kk) ?_
    show Go p e below _ (T95.setTop (mkF m 79 #[.val (.int p1), .val (.ref b2), .val (.int (7 : Int32)), .val (.int (1 : Int32))] [(.int (1 : Int32)), (.int (1 : Int32))]))
    refine Go.st (fun _ kk => XS.icmpNo X95.here hx rfl (hb hby at_79) rfl (teq (by decide : ((1 : Int32) = (1 : Int32)))).2 kk) ?_
    show Go p e below _ (T95.setTop (mkF m 82 #[.val (.int p1), .val (.ref b2), .val (.int (7 : Int32)), .val (.int (1 : Int32))] []))
    refine Go.st (fun _ kk => XS.iconst X95.here hx rfl (hb hby at_82) kk) ?_
    show Go p e below _ (T95.setTop (mkF m 83 #[.val (.int p1), .val (.ref b2), .val (.int (7 : Int32)), .val (.int (1 : Int32))] [(.int (1 : Int32))]))
    refine Go.st (fun _ kk => XS.goto X95.here hx rfl (pc0 := 83) (pc' := 87) rfl (hb hby at_83) (by decide) (by decide) kk) ?_
    show Go p e below _ (T95.setTop (mkF m 87 #[.val (.int p1), .val (.ref b2), .val (.int (7 : Int32)), .val (.int (1 : Int32))] [(.int (1 : Int32))]))
    exact Go.ret (Q := Q0 n0) X95 (v := some (.int (1 : Int32))) (fun h => by rw [Bd.returns] at h; cases h) Bd.notSynchronized (fun fs hr => retN X95 hx (t := .boolean) Bd.returns (by simp) (hb hby at_87) hr) eq95 ⟨rfl, N95⟩ (by decide) (by decide)
set_option maxRecDepth 65536 in
set_option maxHeartbeats 40000000 in
theorem comes_1 {Post : Tables → Env → Array Value → State → Outcome → State → Prop} (hpost : ∀ tb e args s v u, (limb_1_1.after args s (.returned v) u = true ∧ limb_1_2.after args s (.returned v) u = true ∧ True) → FrameEnd s (.returned v) u (Jvm.fieldLocs frame_1_writes args s ++ Jvm.arrayLocs frame_1_arrays args s ++ Jvm.staticLocs frame_1_statics s) 16 128 → Post tb e args s (.returned v) u) :
    ArmFor flags0 classFile x code maxLocals ret World_1 tables_1 room_1 Calls_1 rest_1 Pre_1 Post := by
  intro l hfl _ _ p e ha hc hk s m args below hf hA hF happ hP
  obtain ⟨hcalls, hrest, hpre⟩ := hP
  obtain ⟨-, -, -, hnamed, -, -, -, hat⟩ := (Spec.applies_iff hf).mp happ
  obtain ⟨hg, hn⟩ := and_e (Cond.before_iff.mp (show (Jvm.Cond.and given_1 narrow_1).before args s = true from hpre))
  obtain ⟨hcount, hg⟩ := and_e hg
  have hg0 := hg
  obtain ⟨w0, rfl⟩ : ∃ w0 : Value, args = #[w0] := by
    have hs : args.size = 1 := by simpa [Cond.value, given_1] using hcount
    obtain ⟨L⟩ := args
    match L, hs with
    | [w0], _ => exact ⟨w0, rfl⟩
  have hw := fun d (hd : d ∈ tables_1) => atoms_spec (ws := Jvm.Cond.code x code maxLocals ret :: tables_1) hat d (List.mem_cons_of_mem _ hd)
  have hfit : Fit s := fun {y c} hc i hi => by
    obtain ⟨ha, rfl⟩ := Array.getElem?_eq_some_iff.mp hc
    have q := List.all_eq_true.mp ((Array.all_eq_true_iff_forall_mem.mp hF) _ (Array.getElem_mem ha)) i (List.mem_range.mpr hi)
    simpa [Array.getElem?_eq_getElem hi] using q
  obtain ⟨i0, ei0⟩ := is_v hg0
  obtain rfl : w0 = (.int i0) := Option.some.inj ei0
  obtain ⟨hn0, hn⟩ := and_e hn
  obtain ⟨hn1, hn⟩ := and_e hn
  obtain ⟨hn2, hn⟩ := and_e hn
  obtain ⟨hn3, hn⟩ := and_e hn
  obtain ⟨hn4, hn⟩ := and_e hn
  obtain ⟨hn5, hn⟩ := and_e hn
  obtain ⟨hn6, hn⟩ := and_e hn
  obtain ⟨hn7, hn⟩ := and_e hn
  obtain ⟨hn8, hn⟩ := and_e hn
  obtain ⟨hn9, hn⟩ := and_e hn
  obtain ⟨hn10, hn⟩ := and_e hn
  obtain ⟨hn11, hn⟩ := and_e hn
  obtain ⟨hn12, hn⟩ := and_e hn
  obtain ⟨hn13, hn⟩ := and_e hn
  obtain ⟨hn14, hn⟩ := and_e hn
  have hn15 := hn
  obtain ⟨w_INT32, ev_INT32⟩ := exa_v hn0
  have S_INT32 := Sta.start ev_INT32 (Or.inr ⟨(hw _ (List.mem_of_getElem? (i := 3) rfl)), (hw _ (List.mem_of_getElem? (i := 4) rfl))⟩)
  have E_w_INT32 := Exa.start ev_INT32 hn0
  obtain ⟨w_UINT32, ev_UINT32⟩ := exa_v hn1
  have S_UINT32 := Sta.start ev_UINT32 (Or.inr ⟨(hw _ (List.mem_of_getElem? (i := 3) rfl)), (hw _ (List.mem_of_getElem? (i := 7) rfl))⟩)
  have E_w_UINT32 := Exa.start ev_UINT32 hn1
  obtain ⟨w_INT64, ev_INT64⟩ := exa_v hn2
  have S_INT64 := Sta.start ev_INT64 (Or.inr ⟨(hw _ (List.mem_of_getElem? (i := 3) rfl)), (hw _ (List.mem_of_getElem? (i := 9) rfl))⟩)
  have E_w_INT64 := Exa.start ev_INT64 hn2
  obtain ⟨w_UINT64, ev_UINT64⟩ := exa_v hn3
  have S_UINT64 := Sta.start ev_UINT64 (Or.inr ⟨(hw _ (List.mem_of_getElem? (i := 3) rfl)), (hw _ (List.mem_of_getElem? (i := 11) rfl))⟩)
  have E_w_UINT64 := Exa.start ev_UINT64 hn3
  obtain ⟨w_DECIMAL, ev_DECIMAL⟩ := exa_v hn4
  have S_DECIMAL := Sta.start ev_DECIMAL (Or.inr ⟨(hw _ (List.mem_of_getElem? (i := 3) rfl)), (hw _ (List.mem_of_getElem? (i := 13) rfl))⟩)
  have E_w_DECIMAL := Exa.start ev_DECIMAL hn4
  obtain ⟨w_ASCII, ev_ASCII⟩ := exa_v hn5
  have S_ASCII := Sta.start ev_ASCII (Or.inr ⟨(hw _ (List.mem_of_getElem? (i := 3) rfl)), (hw _ (List.mem_of_getElem? (i := 15) rfl))⟩)
  have E_w_ASCII := Exa.start ev_ASCII hn5
  obtain ⟨w_UNICODE, ev_UNICODE⟩ := exa_v hn6
  have S_UNICODE := Sta.start ev_UNICODE (Or.inr ⟨(hw _ (List.mem_of_getElem? (i := 3) rfl)), (hw _ (List.mem_of_getElem? (i := 17) rfl))⟩)
  have E_w_UNICODE := Exa.start ev_UNICODE hn6
  obtain ⟨w_BYTE_VECTOR, ev_BYTE_VECTOR⟩ := exa_v hn7
  have S_BYTE_VECTOR := Sta.start ev_BYTE_VECTOR (Or.inr ⟨(hw _ (List.mem_of_getElem? (i := 3) rfl)), (hw _ (List.mem_of_getElem? (i := 19) rfl))⟩)
  have E_w_BYTE_VECTOR := Exa.start ev_BYTE_VECTOR hn7
  have F_ordinal_w_INT32 := fldStart ev_INT32 hn8
  have F_ordinal_w_ASCII := fldStart ev_ASCII hn9
  have F_ordinal_w_UNICODE := fldStart ev_UNICODE hn10
  have F_ordinal_w_BYTE_VECTOR := fldStart ev_BYTE_VECTOR hn11
  have F_ordinal_w_UINT64 := fldStart ev_UINT64 hn12
  have F_ordinal_w_INT64 := fldStart ev_INT64 hn13
  have F_ordinal_w_UINT32 := fldStart ev_UINT32 hn14
  have F_ordinal_w_DECIMAL := fldStart ev_DECIMAL hn15
  obtain ⟨n, o, h1, h2, h3, _, L, rfl, ⟨rfl, N⟩, hq⟩ := rm0 l s _ hw tables_1 i0 w_INT32 w_UINT32 w_INT64 w_UINT64 w_DECIMAL w_ASCII w_UNICODE w_BYTE_VECTOR s.heap s.heap.size (Nat.le_refl _) S_INT32 E_w_INT32 S_UINT32 E_w_UINT32 S_INT64 E_w_INT64 S_UINT64 E_w_UINT64 S_DECIMAL E_w_DECIMAL S_ASCII E_w_ASCII S_UNICODE E_w_UNICODE S_BYTE_VECTOR E_w_BYTE_VECTOR F_ordinal_w_INT32 F_ordinal_w_ASCII F_ordinal_w_UNICODE F_ordinal_w_BYTE_VECTOR F_ordinal_w_UINT64 F_ordinal_w_INT64 F_ordinal_w_UINT32 F_ordinal_w_DECIMAL p e ha hc hk s m _ below hf ((Spec.applies_iff_loose hf).mp happ).1 ⟨rfl, State.Warmed39.refl s, rfl⟩ trivial
  refine ⟨n, _, h1, h2, h3, hpost _ _ _ _ _ _ ⟨Cond.after_iff.mpr rfl, Cond.after_iff.mpr (eq_i res_at (Term.int_eval (1)) rfl), trivial⟩ ⟨hq.1, hq.2.1, (hq.2.2.sift fun y hy => Or.inr (N y hy)).mono (by decide) (by decide)⟩⟩
theorem main_1_1 : Claimed_1_1 := comes_1 fun _ _ _ _ _ _ h hF => ⟨h.1, hF⟩
theorem main_1_2 : Claimed_1_2 := comes_1 fun _ _ _ _ _ _ h hF => ⟨h.2.1, hF⟩
end Jvm.Pilot.@@N@@
namespace Jvm.Pilot.@@N@@
open Jvm Jvm.ClassFile Sem Op Lib Jvm.Free Jvm.Stand Jvm.Pilot.@@N@@.Jvm.D
/-! MADE BY PROGRAM (witnessworld.py) out of the Statement's table words and the real class files: 13 classes; the members and pool entries that the words name. The judged class is class 1, her method 1. -/
namespace start1
open Jvm.ClassFile
def u (s : String) : CpInfo := .utf8 (stringToUtf16 s)
/-- a pool by its gaps: so many unusable entries, then the entry; so many at the end -/
def gap : Nat → List CpInfo → List CpInfo
  | 0, r => r
  | n + 1, r => .unusable :: gap n r
def poolList (es : List (Nat × CpInfo)) (last : Nat) : List CpInfo := es.foldr (fun e r => gap e.1 (e.2 :: r)) (gap last [])
def pool (es : List (Nat × CpInfo)) (last : Nat) : Array CpInfo := ⟨poolList es last⟩
def fileOf (pool : Array CpInfo) (this : Nat) (attrs : Array Attribute := #[]) (ms : Array MethodInfo := #[]) (fl : Nat := 33) (sup : Nat := 0) (ifs : Array Nat := #[]) (fds : Array FieldInfo := #[]) : ClassFile where
  minorVersion := 0
  majorVersion := 65
  constantPool := pool
  accessFlags := fl
  thisClass := this
  superClass := sup
  interfaces := ifs
  fields := fds
  methods := ms
  attributes := attrs
def plain (name : String) (sup : Option ClassId) : Class where
  name := name
  kind := .ordinary
  loader := none
  accessFlags := 33
  super := sup
  interfaces := #[]
  cf := none
  fields := #[]
  methods := #[]
  instanceTypes := #[]
  staticTypes := #[]
  resolved := #[]
  callSites := []
  init := .initialized
  statics := none
  mirror := none

def pool0 : Array CpInfo := pool [(5, u "<init>"), (0, u "()V"), (1, .class_ 10), (1, u "java/lang/Object")] 113

def k0m0 : Method := { name := "<init>", desc := "()V", sig := { parameters := [], returnType := none }, accessFlags := 1, code := none }
/-- java/lang/Object -/
def k0 : Class := { plain "java/lang/Object" none with
  accessFlags := 33
  interfaces := #[]
  cf := some (fileOf pool0 8 #[] #[{ accessFlags := 1, nameIndex := 5, descriptorIndex := 6, attributes := #[] }] 33 0 #[] #[])
  fields := #[]
  methods := #[k0m0]
  instanceTypes := #[]
  staticTypes := #[]
  resolved := Array.replicate 124 none
  statics := none }

def pool1 : Array CpInfo := pool [(2, .class_ 4), (1, u "java/lang/Object"), (0, u "<init>"), (0, u "()V"), (0, .class_ 8), (0, u "com/example/zarnitsa/zarnitsa/FastTemplate$Type"), (0, .fieldref 7 10), (0, .nameAndType 11 12), (0, u "INT32"), (0, u "Lcom/example/zarnitsa/zarnitsa/FastTemplate$Type;"), (0, .fieldref 7 14), (0, .nameAndType 15 12), (0, u "UINT32"), (0, .fieldref 7 17), (0, .nameAndType 18 12), (0, u "INT64"), (0, .fieldref 7 20), (0, .nameAndType 21 12), (0, u "UINT64"), (0, .fieldref 7 23), (0, .nameAndType 24 12), (0, u "DECIMAL"), (0, .fieldref 7 26), (0, .nameAndType 27 12), (0, u "ASCII"), (0, .fieldref 7 29), (0, .nameAndType 30 12), (0, u "UNICODE"), (0, .fieldref 7 32), (0, .nameAndType 33 12), (0, u "BYTE_VECTOR"), (0, .methodref 7 35), (0, .nameAndType 36 37), (0, u "isBytes"), (0, u "()Z"), (0, .class_ 39), (0, u "com/example/zarnitsa/zarnitsa/TypeIsBytesPinLaw"), (2, u "law"), (0, u "(I)Z")] 9

def k1m0 : Method := { name := "<init>", desc := "()V", sig := { parameters := [], returnType := none }, accessFlags := 1, code := none }
def k1c1 : Code := { maxStack := 4, maxLocals := 4, code := code, exceptionTable := #[], attributes := #[] }
def k1m1 : Method := { name := "law", desc := "(I)Z", sig := { parameters := [.int], returnType := some .boolean }, accessFlags := 9, code := some k1c1 }
/-- com/example/zarnitsa/zarnitsa/TypeIsBytesPinLaw -/
def k1 : Class := { plain "com/example/zarnitsa/zarnitsa/TypeIsBytesPinLaw" (some 0) with
  accessFlags := 49
  interfaces := #[]
  cf := some (fileOf pool1 38 #[] #[{ accessFlags := 1, nameIndex := 5, descriptorIndex := 6, attributes := #[] }, { accessFlags := 9, nameIndex := 42, descriptorIndex := 43, attributes := #[] }] 49 2 #[] #[])
  fields := #[]
  methods := #[k1m0, k1m1]
  instanceTypes := #[]
  staticTypes := #[]
  resolved := Array.replicate 53 none
  statics := none }

def pool2 : Array CpInfo := pool [(1, .class_ 2), (0, u "java/lang/constant/Constable"), (0, .class_ 4), (0, u "java/lang/Object")] 6

/-- java/lang/constant/Constable -/
def k2 : Class := { plain "java/lang/constant/Constable" (some 0) with
  accessFlags := 1537
  interfaces := #[]
  cf := some (fileOf pool2 1 #[] #[] 1537 3 #[] #[])
  fields := #[]
  methods := #[]
  instanceTypes := #[]
  staticTypes := #[]
  resolved := Array.replicate 11 none
  statics := none }

def pool3 : Array CpInfo := pool [(1, .class_ 2), (0, u "java/lang/Comparable"), (0, .class_ 4), (0, u "java/lang/Object")] 7

/-- java/lang/Comparable -/
def k3 : Class := { plain "java/lang/Comparable" (some 0) with
  accessFlags := 1537
  interfaces := #[]
  cf := some (fileOf pool3 1 #[] #[] 1537 3 #[] #[])
  fields := #[]
  methods := #[]
  instanceTypes := #[]
  staticTypes := #[]
  resolved := Array.replicate 12 none
  statics := none }

def pool4 : Array CpInfo := pool [(1, .class_ 2), (0, u "java/io/Serializable"), (0, .class_ 4), (0, u "java/lang/Object")] 2

/-- java/io/Serializable -/
def k4 : Class := { plain "java/io/Serializable" (some 0) with
  accessFlags := 1537
  interfaces := #[]
  cf := some (fileOf pool4 1 #[] #[] 1537 3 #[] #[])
  fields := #[]
  methods := #[]
  instanceTypes := #[]
  staticTypes := #[]
  resolved := Array.replicate 7 none
  statics := none }

def pool5 : Array CpInfo := pool [(2, .class_ 4), (1, u "java/lang/Enum"), (0, u "name"), (0, u "Ljava/lang/String;"), (2, u "ordinal"), (0, u "I"), (1, .class_ 14), (1, u "java/lang/Object"), (4, u "hash"), (86, .class_ 108), (1, u "java/lang/Enum$EnumDesc"), (2, .class_ 112), (0, u "java/lang/constant/Constable"), (0, .class_ 114), (0, u "java/lang/Comparable"), (0, .class_ 116), (0, u "java/io/Serializable")] 87

/-- java/lang/Enum -/
def k5 : Class := { plain "java/lang/Enum" (some 0) with
  accessFlags := 1057
  interfaces := #[2, 3, 4]
  cf := some (fileOf pool5 2 #[.nestMembers #[106]] #[] 1057 12 #[111, 113, 115] #[{ accessFlags := 18, nameIndex := 5, descriptorIndex := 6, attributes := #[] }, { accessFlags := 18, nameIndex := 9, descriptorIndex := 10, attributes := #[] }, { accessFlags := 2, nameIndex := 19, descriptorIndex := 10, attributes := #[] }])
  fields := #[{ name := "name", type := (.object "java/lang/String"), accessFlags := 18, slot := 0, constantValue := 0 }, { name := "ordinal", type := .int, accessFlags := 18, slot := 1, constantValue := 0 }, { name := "hash", type := .int, accessFlags := 2, slot := 2, constantValue := 0 }]
  methods := #[]
  instanceTypes := #[(.object "java/lang/String"), .int, .int]
  staticTypes := #[]
  resolved := Array.replicate 204 none
  statics := none }

def pool6 : Array CpInfo := pool [(1, .class_ 2), (0, u "com/example/zarnitsa/zarnitsa/FastTemplate$Type"), (2, u "INT32"), (0, u "Lcom/example/zarnitsa/zarnitsa/FastTemplate$Type;"), (2, u "UINT32"), (2, u "INT64"), (2, u "UINT64"), (2, u "DECIMAL"), (0, .fieldref 1 20), (0, .nameAndType 21 6), (0, u "ASCII"), (0, .fieldref 1 23), (0, .nameAndType 24 6), (0, u "UNICODE"), (0, .fieldref 1 26), (0, .nameAndType 27 6), (0, u "BYTE_VECTOR"), (2, u "$VALUES"), (0, u "[Lcom/example/zarnitsa/zarnitsa/FastTemplate$Type;"), (6, .class_ 40), (1, u "java/lang/Enum"), (27, u "()Z"), (1, u "isBytes"), (5, .class_ 77), (0, u "com/example/zarnitsa/zarnitsa/FastTemplate")] 2

def k6c0 : Code := { maxStack := 2, maxLocals := 1, code := prog_42_method_5_code, exceptionTable := #[], attributes := #[] }
def k6m0 : Method := { name := "isBytes", desc := "()Z", sig := { parameters := [], returnType := some .boolean }, accessFlags := 0, code := some k6c0 }
/-- com/example/zarnitsa/zarnitsa/FastTemplate$Type -/
def k6 : Class := { plain "com/example/zarnitsa/zarnitsa/FastTemplate$Type" (some 5) with
  accessFlags := 16432
  interfaces := #[]
  cf := some (fileOf pool6 1 #[.nestHost 76] #[{ accessFlags := 0, nameIndex := 70, descriptorIndex := 68, attributes := #[] }] 16432 38 #[] #[{ accessFlags := 16409, nameIndex := 5, descriptorIndex := 6, attributes := #[] }, { accessFlags := 16409, nameIndex := 9, descriptorIndex := 6, attributes := #[] }, { accessFlags := 16409, nameIndex := 12, descriptorIndex := 6, attributes := #[] }, { accessFlags := 16409, nameIndex := 15, descriptorIndex := 6, attributes := #[] }, { accessFlags := 16409, nameIndex := 18, descriptorIndex := 6, attributes := #[] }, { accessFlags := 16409, nameIndex := 21, descriptorIndex := 6, attributes := #[] }, { accessFlags := 16409, nameIndex := 24, descriptorIndex := 6, attributes := #[] }, { accessFlags := 16409, nameIndex := 27, descriptorIndex := 6, attributes := #[] }, { accessFlags := 4122, nameIndex := 30, descriptorIndex := 31, attributes := #[] }])
  fields := #[{ name := "INT32", type := (.object "com/example/zarnitsa/zarnitsa/FastTemplate$Type"), accessFlags := 16409, slot := 0, constantValue := 0 }, { name := "UINT32", type := (.object "com/example/zarnitsa/zarnitsa/FastTemplate$Type"), accessFlags := 16409, slot := 1, constantValue := 0 }, { name := "INT64", type := (.object "com/example/zarnitsa/zarnitsa/FastTemplate$Type"), accessFlags := 16409, slot := 2, constantValue := 0 }, { name := "UINT64", type := (.object "com/example/zarnitsa/zarnitsa/FastTemplate$Type"), accessFlags := 16409, slot := 3, constantValue := 0 }, { name := "DECIMAL", type := (.object "com/example/zarnitsa/zarnitsa/FastTemplate$Type"), accessFlags := 16409, slot := 4, constantValue := 0 }, { name := "ASCII", type := (.object "com/example/zarnitsa/zarnitsa/FastTemplate$Type"), accessFlags := 16409, slot := 5, constantValue := 0 }, { name := "UNICODE", type := (.object "com/example/zarnitsa/zarnitsa/FastTemplate$Type"), accessFlags := 16409, slot := 6, constantValue := 0 }, { name := "BYTE_VECTOR", type := (.object "com/example/zarnitsa/zarnitsa/FastTemplate$Type"), accessFlags := 16409, slot := 7, constantValue := 0 }, { name := "$VALUES", type := (.array (.object "com/example/zarnitsa/zarnitsa/FastTemplate$Type")), accessFlags := 4122, slot := 8, constantValue := 0 }]
  methods := #[k6m0]
  instanceTypes := #[(.object "java/lang/String"), .int, .int]
  staticTypes := #[(.object "com/example/zarnitsa/zarnitsa/FastTemplate$Type"), (.object "com/example/zarnitsa/zarnitsa/FastTemplate$Type"), (.object "com/example/zarnitsa/zarnitsa/FastTemplate$Type"), (.object "com/example/zarnitsa/zarnitsa/FastTemplate$Type"), (.object "com/example/zarnitsa/zarnitsa/FastTemplate$Type"), (.object "com/example/zarnitsa/zarnitsa/FastTemplate$Type"), (.object "com/example/zarnitsa/zarnitsa/FastTemplate$Type"), (.object "com/example/zarnitsa/zarnitsa/FastTemplate$Type"), (.array (.object "com/example/zarnitsa/zarnitsa/FastTemplate$Type"))]
  resolved := Array.replicate 80 none
  statics := some 0 }

def pool7 : Array CpInfo := pool [(1, u "java/lang/Cloneable"), (0, .class_ 1), (0, u "java/lang/Object"), (0, .class_ 3)] 3

/-- java/lang/Cloneable -/
def k7 : Class := { plain "java/lang/Cloneable" (some 0) with
  accessFlags := 1537
  interfaces := #[]
  cf := some (fileOf pool7 2 #[] #[] 1537 4 #[] #[])
  fields := #[]
  methods := #[]
  instanceTypes := #[]
  staticTypes := #[]
  resolved := Array.replicate 8 none
  statics := none }

/-- the primitive byte -/
def k8 : Class := { plain "byte" none with kind := .primitive 'B', accessFlags := 0x411 }
/-- [B -/
def k9 : Class := { plain "[B" (some 0) with kind := .array 8 .byte, interfaces := #[7, 4], accessFlags := 1041 }

/-- the primitive int -/
def k10 : Class := { plain "int" none with kind := .primitive 'I', accessFlags := 0x411 }
/-- [I -/
def k11 : Class := { plain "[I" (some 0) with kind := .array 10 .int, interfaces := #[7, 4], accessFlags := 1041 }

/-- [Lcom/example/zarnitsa/zarnitsa/FastTemplate$Type; -/
def k12 : Class := { plain "[Lcom/example/zarnitsa/zarnitsa/FastTemplate$Type;" (some 0) with kind := .array 6 (.object "com/example/zarnitsa/zarnitsa/FastTemplate$Type"), interfaces := #[7, 4], accessFlags := 1041 }

def heap : Heap := #[{ cls := 6, slots := #[.ref 1, .ref 2, .ref 3, .ref 4, .ref 5, .ref 6, .ref 7, .ref 8, .null], vm := .statics 6 },
  { cls := 6, slots := #[.null, .int 0, .int 0], vm := .none },
  { cls := 6, slots := #[.null, .int 1, .int 0], vm := .none },
  { cls := 6, slots := #[.null, .int 2, .int 0], vm := .none },
  { cls := 6, slots := #[.null, .int 3, .int 0], vm := .none },
  { cls := 6, slots := #[.null, .int 4, .int 0], vm := .none },
  { cls := 6, slots := #[.null, .int 5, .int 0], vm := .none },
  { cls := 6, slots := #[.null, .int 6, .int 0], vm := .none },
  { cls := 6, slots := #[.null, .int 7, .int 0], vm := .none }]
def classes : Array Class := #[k0, k1, k2, k3, k4, k5, k6, k7, k8, k9, k10, k11, k12]
def interned : List (Array UInt16 × Addr) := []
def slotsUsed : Nat := 33
def theMethod : MethodId := ⟨1, 1⟩
def args0 : Array Value := #[.int 5]
def aboutOver (below : List Frame) : State where
  vm := { classes := classes, interned := interned.toArray }
  heap := heap
  slotsUsed := slotsUsed
  threads := #[{ frames := .invoking theMethod args0 :: below }]
def below0 : List Frame := [.native { method := ⟨0, 0⟩, args := #[] }]
def about1 : State := aboutOver below0
def p0 : Program := .bare "" "" ""
def e0 : Env := launch0.env 0 0 0
theorem w_frames : about1.frames = Frame.invoking theMethod args0 :: below0 := rfl
set_option maxRecDepth 65536 in
theorem w_args : argsFit about1.vm theMethod args0 = true := by decide +kernel
set_option maxRecDepth 65536 in
theorem w_heap : heapFits about1 = true := by decide +kernel
set_option maxRecDepth 65536 in
theorem w_runnable : about1.curStatus? = some .runnable := by decide +kernel
set_option maxRecDepth 65536 in
theorem w_alone : about1.alone = true := by decide +kernel
set_option maxRecDepth 65536 in
theorem w_named : about1.methodNamed? x = some theMethod := by decide +kernel
set_option maxRecDepth 65536 in
theorem w_hears : about1.hears theMethod below0 = true := by decide +kernel
set_option maxRecDepth 65536 in
theorem w_ripe : about1.ripe theMethod args0 below0 = true := by decide +kernel
theorem w_running : about1.status = .running := rfl
set_option maxRecDepth 65536 in
theorem w_room : about1.hasRoom e0.platform room_1 = true :=
  launch0.hasRoom_least _ room_1 (by decide +kernel) (by decide +kernel) (by decide +kernel) (by decide +kernel) (by decide +kernel) (by decide +kernel)
theorem allAtoms_all (ts : List Jvm.Cond) (a : Array Jvm.Value) (st : Jvm.State) : (allAtoms ts).before a st = ts.all (fun c => c.before a st) := by
  induction ts with
  | nil => rfl
  | cons c t ih =>
    show (Jvm.Cond.and c (allAtoms t)).before a st = _
    rw [Jvm.Cond.before_and, ih, List.all_cons]
def words1 : List Jvm.Cond := Jvm.Cond.code x code maxLocals ret :: tables_1
/-- a 'code' word, met by the world's own term for the bytes: nothing is compared byte by byte -/
theorem code_word {y : MethodName} {bytes : ByteArray} {mx : Nat} {rt : Option FieldType} {a : Array Value} {s : State} {m : MethodId} {meth : Method} {c : Code} (h1 : s.methodNamed? y = some m) (h2 : s.vm.method? m = some meth) (h3 : meth.code = some c) (h4 : c.code = bytes)
    (h5 : (c.maxLocals == mx && c.exceptionTable.isEmpty && decide (c.maxStack ≤ mostOperands) && decide (meth.sig.returnType = rt) && !meth.locks && decide (parseMethodDescriptor y.desc = some meth.sig)) = true) : (Jvm.Cond.code y bytes mx rt).before a s = true := by
  simp only [Bool.and_eq_true, beq_iff_eq, Bool.not_eq_true', decide_eq_true_eq] at h5
  obtain ⟨⟨⟨⟨⟨g1, g2⟩, g3⟩, g4⟩, g5⟩, g6⟩ := h5
  simp [Cond.before, Cond.holds, Cond.value, h1, h2, h3, h4, g1, g2, g3, g4, g5, g6]
def isCode : Jvm.Cond → Bool
  | .code _ _ _ _ => true
  | _ => false
theorem all_split {L : List Jvm.Cond} {P : Jvm.Cond → Bool} (h1 : L.all (fun c => isCode c || P c) = true) (h2 : ∀ c ∈ L.filter isCode, P c = true) : L.all P = true := by
  refine List.all_eq_true.mpr fun c hc => ?_
  have h := List.all_eq_true.mp h1 c hc
  rcases Bool.eq_false_or_eq_true (isCode c) with hi | hi
  · exact h2 c (List.mem_filter.mpr ⟨hc, hi⟩)
  · simpa [hi] using h
set_option maxRecDepth 65536 in
theorem w_c0 : (Jvm.Cond.code x code maxLocals ret).before args0 about1 = true := code_word (m := ⟨1, 1⟩) (meth := k1m1) (c := k1c1) (by decide +kernel) rfl rfl rfl (by decide +kernel)
set_option maxRecDepth 65536 in
theorem w_c1 : (Jvm.Cond.code ({ cls := "com/example/zarnitsa/zarnitsa/FastTemplate$Type", name := "isBytes", desc := "()Z" } : Jvm.MethodName) prog_42_method_5_code (1 : Nat) (Option.some Jvm.ClassFile.FieldType.boolean)).before args0 about1 = true := code_word (m := ⟨6, 0⟩) (meth := k6m0) (c := k6c0) (by decide +kernel) rfl rfl rfl (by decide +kernel)
def codes1 : List Jvm.Cond := [Jvm.Cond.code x code maxLocals ret, Jvm.Cond.code ({ cls := "com/example/zarnitsa/zarnitsa/FastTemplate$Type", name := "isBytes", desc := "()Z" } : Jvm.MethodName) prog_42_method_5_code (1 : Nat) (Option.some Jvm.ClassFile.FieldType.boolean)]
set_option maxRecDepth 65536 in
theorem codes_eq : words1.filter isCode = codes1 := rfl
theorem w_codes : ∀ c ∈ words1.filter isCode, c.before args0 about1 = true := by
  rw [codes_eq]
  intro c hc
  simp only [codes1, List.mem_cons, List.not_mem_nil, or_false] at hc
  rcases hc with rfl | rfl
  · exact w_c0
  · exact w_c1
set_option maxRecDepth 65536 in
theorem w_t1 : (words1.take 24).all (fun c => isCode c || c.before args0 about1) = true := by decide +kernel
set_option maxRecDepth 65536 in
theorem w_t2 : (words1.drop 24).all (fun c => isCode c || c.before args0 about1) = true := by decide +kernel
theorem w_tables : (allAtoms (Jvm.Cond.code x code maxLocals ret :: tables_1)).before args0 about1 = true := by
  rw [allAtoms_all]
  show words1.all (fun c => c.before args0 about1) = true
  refine all_split ?_ w_codes
  rw [← List.take_append_drop 24 words1, List.all_append, w_t1, w_t2]
  rfl
set_option maxRecDepth 65536 in
theorem w_case : (Jvm.Cond.and given_1 narrow_1).before args0 about1 = true := by decide +kernel
theorem w_applies : (headSpec (Jvm.Cond.code x code maxLocals ret :: tables_1) room_1).applies x e0.platform about1 = true :=
  (Spec.applies_iff w_frames).mpr ⟨w_running, w_runnable, w_alone, w_named, w_hears, w_ripe, w_room, w_tables⟩
theorem atStart : AtStart classFile x code maxLocals ret World_1 tables_1 room_1 Calls_1 rest_1 Pre_1 launch0 p0 e0 about1 theMethod args0 below0 :=
  ⟨lists_1, trivial, launch0.admits_env _ _ _, launch0.least_env, fairChoices_fair.cas, fairChoices_fair.clock, w_frames, w_args, w_heap, w_applies, trivial, trivial, w_case⟩
end start1
theorem witness_1 : WitnessClaimed_1 := ⟨start1.p0, start1.e0, start1.about1, start1.theMethod, start1.args0, start1.below0, start1.atStart⟩
end Jvm.Pilot.@@N@@
