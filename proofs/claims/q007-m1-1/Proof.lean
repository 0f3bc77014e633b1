import JvmDerived
import JvmDerived.Pilot.@@N@@Statement
import JvmDerived.Pilot.@@N@@Code
set_option linter.unusedVariables false
set_option linter.unusedSimpArgs false
namespace Jvm.RoadKit
open Sem ClassFile Op Lib Jvm.Stand Jvm.Free Jvm.LawKit
section Own
variable {p : Program} {l : Launch} {e : Env} {R : Room} {s : State} {m : MethodId} {args : Array Value} {below : List Frame} {meth : Method} {c : Code} {T : State} {locs : List Loc} {cells slots : Nat} {Z : State} {h h' : Heap}
/-- from U the run comes to an end that G allows -/
def Go (p : Program) (e : Env) (below : List Frame) (G : Outcome → State → Prop) (U : State) : Prop := ∃ s₂ o, Steps p.tables e below U s₂ ∧ s₂.status = .running ∧ Ended s₂ below o ∧ G o s₂
theorem Go.st {G : Outcome → State → Prop} {U V : State} (h : ∀ t, Steps p.tables e below V t → Steps p.tables e below U t) (k : Go p e below G V) : Go p e below G U := by
  obtain ⟨s₂, o, a, r⟩ := k; exact ⟨s₂, o, h _ a, r⟩
theorem Go.tr {G : Outcome → State → Prop} {U V : State} (h : Steps p.tables e below U V) (k : Go p e below G V) : Go p e below G U := by
  obtain ⟨s₂, o, a, r⟩ := k; exact ⟨s₂, o, h.trans a, r⟩
theorem Go.en {G : Outcome → State → Prop} {g g' : JFrame} (q : g = g') (k : Go p e below G (T.setTop g')) : Go p e below G (T.setTop g) := q ▸ k
theorem Go.ret {Q : Option Value → Heap → List Loc → Prop} {K N : Nat} {U : State} (X : Stand p l e R s m args below meth c T locs cells slots) {v : Option Value} (hv : meth.sig.returnType = none → v = none) (hlk : meth.locks = false)
    (st : ∀ fs, (∀ (f : JFrame) (acts : List Action), f.method = m → f.locked = none → f.entered = [] → (doReturn e (T.setTop f) acts v).1 = T.setFrames fs) → Steps p.tables e below U (T.setFrames fs)) (eT : T.heap = h) (hQ : Q v h locs) (hk : cells ≤ K) (hn : slots ≤ N) :
    Go p e below (fun o s₂ => ∃ v L, o = .returned v ∧ Q v s₂.heap L ∧ FrameEnd s o s₂ L K N) U := by
  subst eT
  obtain ⟨fs, hr, hrun, hended, hW, hsame⟩ := X.leave hv hlk
  exact ⟨_, _, st fs hr, hrun, hended, _, _, rfl, hQ, ⟨_, rfl⟩, hW, hsame.mono hk hn⟩
theorem Go.retW {Q : Option Value → Heap → List Loc → Prop} {K N k0 : Nat} {U : State} {vm0 : Vm} (hS : s.Since vm0 k0) (hk0 : k0 ≤ h.size) (X : Stand p l e R (s.setVm vm0) m args below meth c T locs cells slots) {v : Option Value} (hv : meth.sig.returnType = none → v = none) (hlk : meth.locks = false)
    (st : ∀ fs, (∀ (f : JFrame) (acts : List Action), f.method = m → f.locked = none → f.entered = [] → (doReturn e (T.setTop f) acts v).1 = T.setFrames fs) → Steps p.tables e below U (T.setFrames fs)) (eT : T.heap = h) (hQ : Q v h locs) (hk : cells ≤ K) (hn : slots ≤ N) :
    Go p e below (fun o s₂ => ∃ v L, o = .returned v ∧ Q v s₂.heap L ∧ ReturnedEndW s o s₂ L K N) U := by
  subst eT
  obtain ⟨fs, hr, hrun, hended, hR⟩ := X.leaveW hS hk0 hv hlk
  exact ⟨_, _, st fs hr, hrun, hended, _, _, rfl, hQ, hR.1, hR.2.1, hR.2.2.1, hR.2.2.2.mono hk hn⟩
/-- RoadKit's backOfS for a callee that is told what the constants hold -/
theorem backOfSC {y : MethodName} {bytes : ByteArray} {maxL : Nat} {ret : Option FieldType} {rm : Room} {len W : Nat} {as' : Array Value} {Q : Option Value → Heap → List Loc → Prop} {EL : List (String × Nat)} {vm0 : Vm} {a0 : Array Value}
    (hM : MetFree l y (head1 [Cond.code y bytes maxL ret] rm) (fun a U => a = as' ∧ Z.Warmed39 U.vm ∧ U.heap = h ∧ CHv Z EL U.vm h) (fun _ _ _ _ _ => True) (fun _ U o U' => ∃ v L, o = .returned v ∧ Q v U'.heap L ∧ ReturnedEndW U o U' L rm.cells rm.slots))
    (hZ : Z.Warmed39 vm0) (wc : (Cond.code y bytes maxL ret).before a0 Z = true) (wz : (Cond.initialized y.cls).before a0 Z = true) (hf : rm.frames + 1 ≤ R.frames) (hl : W + (maxL + 11) + rm.locals ≤ R.locals) (hEL : EW Z a0 EL) (H : CHv Z EL vm0 h) :
    BackS l R p e below (s.setVm vm0) args y len W (fun A a => a = as' ∧ A.U.heap = h ∧ A.cells + rm.cells ≤ R.cells ∧ A.slots + rm.slots ≤ R.slots)
      (fun A _ v B => ∃ L, Q v B.U.heap L ∧ B.locs = A.locs ++ L ∧ B.cells = A.cells + rm.cells ∧ B.slots = A.slots + rm.slots) :=
  BackS.of_freeW (bytes := bytes) (maxL := maxL) (ret := ret) (E := fun _ _ o t L k n => k = rm.cells ∧ n = rm.slots ∧ ∃ v, o = .returned v ∧ Q v t.heap L) hM hf hl
    (fun m meth c A a Y hp => by
      have hU : Z.Warmed39 A.U.vm := wtrans (s := s.setVm vm0) hZ Y.warmed
      exact ⟨by show (Cond.and _ .tt).before a A.U = true; rw [Cond.before_and, mv hU wc]; rfl, mv hU wc, mv hU wz, hp.2.2.1, hp.2.2.2⟩)
    (fun m meth c A a g mk Y hp => ⟨hp.1, wtrans (s := s.setVm vm0) hZ Y.warmed, hp.2.1, (CHv.at Y hZ hEL H).1⟩) (fun _ _ _ _ _ _ _ _ _ => trivial)
    (fun _ _ _ _ ⟨v, L, h1, h2, h3⟩ => ⟨L, _, _, h3, rfl, rfl, v, h1, h2⟩)
    (fun m meth c A a g mk v t L k n Y hp _ _ ⟨e1, e2, v', e3, e4⟩ => by cases e3; subst e1 e2; exact ⟨L, e4, rfl, rfl, rfl⟩)
theorem staKeep0 {C n d : String} {v : Value} (F : Sta Z h C n d v) (K : Keep h h' []) : Sta Z h' C n d v := by
  obtain ⟨cf, i, k, f, st, cell, h1, h2, h3, h4, h5, r⟩ := F
  exact ⟨cf, i, k, f, st, cell, h1, h2, h3, h4, K.2.1 _ _ h5 nin0, r⟩
theorem staKeepE {C n d O : String} {v : Value} {a : Addr} (F : Sta Z h C n d v) (K : Keep h h' [a]) (E : Exa Z h a O) : Sta Z h' C n d v := by
  obtain ⟨cf, i, k, f, st, cell, h1, h2, h3, h4, h5, h6, r⟩ := F
  obtain ⟨c', k', e1, -, -, e4, -⟩ := E
  have ne : st ≠ a := fun q => by subst q; cases h5.symm.trans e1; rw [h6] at e4; cases e4
  exact ⟨cf, i, k, f, st, cell, h1, h2, h3, h4, K.2.1 _ _ h5 (ninS ne nin0), h6, r⟩
/-- getfield where the sheet says the reference resolved -/
theorem getFR (X : Stand p l e R s m args below meth c T locs cells slots) (hx : p.tables.exec = Jvm.exec) (hZ : Z.Warmed39 s.vm) {a0 : Array Value} {own O n d : String} {index : Nat} (hown : s.vm.findClass own = some m.cls) (w : (Cond.fieldRef own index O n d).before a0 Z = true)
    (eT : T.heap = h) {a : Addr} {v : Value} (F : Fld Z h a O n d v) {g : JFrame} (hg : g.method = m) {rest : List Value} (hs : g.stack = .ref a :: rest) (hd : decode c.code g.pc = .ok (.getfield index, 3)) :
    ∀ target, Steps p.tables e below (T.setTop { g with pc := g.pc + 3, stack := v :: rest }) target → Steps p.tables e below (T.setTop g) target := by
  intro target hrest
  obtain ⟨cell, cf, k, i, f, h1, h2, h3, h4, -, -, h7⟩ := F
  have hW : Z.Warmed39 T.vm := wtrans hZ X.warmed
  have q := Cond.fieldRef_warmed39 hW w
  have hcur : (Z.setVm T.vm).vm.findClass own = some m.cls := by
    show T.vm.findClass own = some m.cls
    rw [X.warmed.alike.findClass]; exact hown
  obtain ⟨c', k', i', f', hi, hready⟩ := Cond.fieldRef_spec hcur q
  obtain ⟨k2, hi2, -⟩ := State.fieldFound?_setVm (s := Z) hW.alike h2
  have q3 : (Z.setVm T.vm).fieldFound? O n d = some (cf, k2, i, f) := hi2
  cases hi.symm.trans q3
  subst hg
  jvm_step X.here [hx, hd, getfield.wp_ready (e := e) (s := T) (f := g) X.here.top hready h3 hs (by rw [eT]; exact h1) h4 h7]
  exact hrest
/-- an array of that kind and length, whatever it holds -/
def Arn (Z : State) (h : Heap) (a : Addr) (ty : FieldType) (z : Int32) : Prop := ∃ c : Cell, Arr Z h a c ty ∧ c.slots.size = z.toNatClampNeg ∧ ¬ z < 0
section Arn
variable {a b : Addr} {ty : FieldType} {z : Int32} {sl : Nat} {v : Value} {ws : List Addr}
theorem Arn.lt (F : Arn Z h a ty z) : a < h.size := by obtain ⟨c, A, -⟩ := F; exact A.lt
theorem Arn.ext (F : Arn Z h a ty z) (E : Ext h h') : Arn Z h' a ty z := by obtain ⟨c, A, r⟩ := F; exact ⟨c, A.ext E, r⟩
theorem Arn.other (F : Arn Z h b ty z) (W : Wr h h' a sl v) (q : b ≠ a) : Arn Z h' b ty z := by obtain ⟨c, A, r⟩ := F; exact ⟨c, A.other W q, r⟩
theorem Arn.keep (F : Arn Z h a ty z) (K : Keep h h' ws) (q : a ∉ ws) : Arn Z h' a ty z := by obtain ⟨c, A, r⟩ := F; exact ⟨c, ⟨K.2.1 a c A.1 q, A.2⟩, r⟩
theorem Arn.set {c : Cell} (A : Arr Z h a c ty) (S : c.slots.size = z.toNatClampNeg) (q : ¬ z < 0) (W : Wr h h' a sl v) : Arn Z h' a ty z := ⟨_, A.same W, by rw [sz_set]; exact S, q⟩
theorem Arv.arn {k : ClassId} {vs : List Value} {dv : Value} (F : Arv Z h a k ty z vs dv) : Arn Z h a ty z := by obtain ⟨c, A, -, S, q, -⟩ := F; exact ⟨c, A, S, q⟩
end Arn
theorem staKeepA {C n d : String} {v : Value} {a : Addr} {ty : FieldType} {z : Int32} (F : Sta Z h C n d v) (K : Keep h h' [a]) (E : Arn Z h a ty z) : Sta Z h' C n d v := by
  obtain ⟨cf, i, k, f, st, cell, h1, h2, h3, h4, h5, h6, r⟩ := F
  obtain ⟨c', A, -⟩ := E
  have e4 := A.plain
  have ne : st ≠ a := fun q => by subst q; cases h5.symm.trans A.1; rw [h6] at e4; cases e4
  exact ⟨cf, i, k, f, st, cell, h1, h2, h3, h4, K.2.1 _ _ h5 (ninS ne nin0), h6, r⟩
theorem own_nn {n : Int32} (h : 0 ≤ n.toInt) : ¬ n < 0 := by rw [Int32.lt_iff_toInt_lt]; show ¬ n.toInt < 0; omega
theorem own_cap {n : Int32} {k : Nat} (h : n.toInt ≤ k) : n.toNatClampNeg ≤ k := by simp only [Int32.toNatClampNeg]; omega
theorem own_inc {i z : Int32} (h0 : ¬ i < 0) (h : i < z) : ¬ (i + 1) < 0 ∧ (i + 1).toInt = i.toInt + 1 := by
  have h1 := c_iadd i 1; have h2 := rng32 z; have h3 := rng32 i; have h4 := rng32 (i + 1)
  rw [Int32.lt_iff_toInt_lt] at h0 h ⊢
  have e0 : (0 : Int32).toInt = 0 := rfl
  have e1 : (1 : Int32).toInt = 1 := rfl
  rw [e0] at h0 ⊢; rw [e1] at h1
  omega
theorem own_ge {i z : Int32} (h : z.toInt ≤ i.toInt) : ¬ i < z := by rw [Int32.lt_iff_toInt_lt]; omega
theorem staInt {args : Array Value} {C n d : String} {k : Int32} (h : (Cond.eq (.static C n d) (.int k)).value args Z none Z [] = some true) (hi : (Cond.initializedFor C n d).before args Z = true ∨ ((Cond.initialized C).before args Z = true ∧ (Cond.laysStatic C n d).before args Z = true)) : Sta Z Z.heap C n d (.int k) := by
  obtain ⟨x, y, e1, e2, k1, -⟩ := cmp_v (Or.inl h)
  have e3 : (Term.int k).eval args Z none [] Z = some (.int k) := Term.int_eval k
  cases e2.symm.trans e3
  cases x with
  | int z =>
    have q : (Cond.eq (.static C n d) (.int k)).value args Z none Z [] = some (decide (z = k)) := by simp [Cond.value, e1, e3]
    exact (gotT q h) ▸ Sta.start e1 hi
  | _ => simp [Kin, Value.isRef] at k1
theorem fldNull {args : Array Value} {t : Term} {C n d : String} {a : Addr} (ev : t.eval args Z none [] Z = some (.ref a)) (h : (Cond.eq (.field t C n d) .null).value args Z none Z [] = some true) : Fld Z Z.heap a C n d .null := by
  have e1 := null_v h
  rw [fld_at ev] at e1
  exact Fld.start e1
theorem fldStart {args : Array Value} {t : Term} {C n d : String} {a : Addr} {k : Int32} (ev : t.eval args Z none [] Z = some (.ref a)) (h : (Cond.eq (.field t C n d) (.int k)).value args Z none Z [] = some true) : Fld Z Z.heap a C n d (.int k) := by
  obtain ⟨x, y, e1, e2, k1, -⟩ := cmp_v (Or.inl h)
  rw [fld_at ev] at e1
  have e3 : (Term.int k).eval args Z none [] Z = some (.int k) := Term.int_eval k
  cases e2.symm.trans e3
  cases x with
  | int z =>
    have q : (Cond.eq (.field t C n d) (.int k)).value args Z none Z [] = some (decide (z = k)) := by simp [Cond.value, (fld_at ev).trans e1, e3]
    exact (gotT q h) ▸ Fld.start e1
  | _ => simp [Kin, Value.isRef] at k1
end Own
end Jvm.RoadKit
namespace Jvm.Pilot.@@N@@
open Jvm Jvm.ClassFile Sem Op Lib Jvm.Free Jvm.Stand Jvm.LawKit Jvm.RoadKit Bundle Jvm.Pilot.@@N@@.Jvm.D
theorem own_k (x : Int32) : (x &&& (7 : Int32)) = (0 : Int32) ∨ (x &&& (7 : Int32)) = (1 : Int32) ∨ (x &&& (7 : Int32)) = (2 : Int32) ∨ (x &&& (7 : Int32)) = (3 : Int32) ∨ (x &&& (7 : Int32)) = (4 : Int32) ∨ (x &&& (7 : Int32)) = (5 : Int32) ∨ (x &&& (7 : Int32)) = (6 : Int32) ∨ (x &&& (7 : Int32)) = (7 : Int32) := by
  have h2 := c_mask x (7 : Int32) 3 (by decide) (by decide)
  generalize (x &&& (7 : Int32)) = k at *
  have h3 : k.toInt = 0 ∨ k.toInt = 1 ∨ k.toInt = 2 ∨ k.toInt = 3 ∨ k.toInt = 4 ∨ k.toInt = 5 ∨ k.toInt = 6 ∨ k.toInt = 7 := by omega
  rcases h3 with h | h | h | h | h | h | h | h
  · exact (Or.inl (Int32.toInt_inj.mp (h.trans (by decide))))
  · exact (Or.inr (Or.inl (Int32.toInt_inj.mp (h.trans (by decide)))))
  · exact (Or.inr (Or.inr (Or.inl (Int32.toInt_inj.mp (h.trans (by decide))))))
  · exact (Or.inr (Or.inr (Or.inr (Or.inl (Int32.toInt_inj.mp (h.trans (by decide)))))))
  · exact (Or.inr (Or.inr (Or.inr (Or.inr (Or.inl (Int32.toInt_inj.mp (h.trans (by decide))))))))
  · exact (Or.inr (Or.inr (Or.inr (Or.inr (Or.inr (Or.inl (Int32.toInt_inj.mp (h.trans (by decide)))))))))
  · exact (Or.inr (Or.inr (Or.inr (Or.inr (Or.inr (Or.inr (Or.inl (Int32.toInt_inj.mp (h.trans (by decide))))))))))
  · exact (Or.inr (Or.inr (Or.inr (Or.inr (Or.inr (Or.inr (Or.inr (Int32.toInt_inj.mp (h.trans (by decide))))))))))

theorem pn_0 : plainName "com/example/zarnitsa/zarnitsa/TypeIsIntegerPinLaw" = true := by first | (simp [plainName, overriddenIn]; done) | decide +kernel
theorem ef_0 (m : MethodId) (x0 : Int32) : entryFrame m #[(.int x0)] maxLocals = mkF m 0 #[.val (.int x0), .unset, .unset, .unset] [] := by first | (simp [entryFrame, mkF, argsToLocals, Value.category, maxLocals]; done) | rfl
theorem d1_0 : decode method_2_code 0 = .ok (.iload_n 0, 1) := by decide +kernel
theorem d1_1 : decode method_2_code 1 = .ok (.ifCond .ne 7, 3) := by decide +kernel
theorem d1_4 : decode method_2_code 4 = .ok (.getstatic 7, 3) := by decide +kernel
theorem d1_7 : decode method_2_code 7 = .ok (.areturn, 1) := by decide +kernel
theorem d1_8 : decode method_2_code 8 = .ok (.iload_n 0, 1) := by decide +kernel
theorem d1_9 : decode method_2_code 9 = .ok (.iconst 1, 1) := by decide +kernel
theorem d1_10 : decode method_2_code 10 = .ok (.if_icmp .ne 7, 3) := by decide +kernel
theorem d1_13 : decode method_2_code 13 = .ok (.getstatic 13, 3) := by decide +kernel
theorem d1_16 : decode method_2_code 16 = .ok (.areturn, 1) := by decide +kernel
theorem d1_17 : decode method_2_code 17 = .ok (.iload_n 0, 1) := by decide +kernel
theorem d1_18 : decode method_2_code 18 = .ok (.iconst 2, 1) := by decide +kernel
theorem d1_19 : decode method_2_code 19 = .ok (.if_icmp .ne 7, 3) := by decide +kernel
theorem d1_22 : decode method_2_code 22 = .ok (.getstatic 16, 3) := by decide +kernel
theorem d1_25 : decode method_2_code 25 = .ok (.areturn, 1) := by decide +kernel
theorem d1_26 : decode method_2_code 26 = .ok (.iload_n 0, 1) := by decide +kernel
theorem d1_27 : decode method_2_code 27 = .ok (.iconst 3, 1) := by decide +kernel
theorem d1_28 : decode method_2_code 28 = .ok (.if_icmp .ne 7, 3) := by decide +kernel
theorem d1_31 : decode method_2_code 31 = .ok (.getstatic 19, 3) := by decide +kernel
theorem d1_34 : decode method_2_code 34 = .ok (.areturn, 1) := by decide +kernel
theorem d1_35 : decode method_2_code 35 = .ok (.iload_n 0, 1) := by decide +kernel
theorem d1_36 : decode method_2_code 36 = .ok (.iconst 4, 1) := by decide +kernel
theorem d1_37 : decode method_2_code 37 = .ok (.if_icmp .ne 7, 3) := by decide +kernel
theorem d1_40 : decode method_2_code 40 = .ok (.getstatic 22, 3) := by decide +kernel
theorem d1_43 : decode method_2_code 43 = .ok (.areturn, 1) := by decide +kernel
theorem d1_44 : decode method_2_code 44 = .ok (.iload_n 0, 1) := by decide +kernel
theorem d1_45 : decode method_2_code 45 = .ok (.iconst 5, 1) := by decide +kernel
theorem d1_46 : decode method_2_code 46 = .ok (.if_icmp .ne 7, 3) := by decide +kernel
theorem d1_49 : decode method_2_code 49 = .ok (.getstatic 25, 3) := by decide +kernel
theorem d1_52 : decode method_2_code 52 = .ok (.areturn, 1) := by decide +kernel
theorem d1_53 : decode method_2_code 53 = .ok (.iload_n 0, 1) := by decide +kernel
theorem d1_54 : decode method_2_code 54 = .ok (.bipush 6, 2) := by decide +kernel
theorem d1_56 : decode method_2_code 56 = .ok (.if_icmp .ne 7, 3) := by decide +kernel
theorem d1_59 : decode method_2_code 59 = .ok (.getstatic 28, 3) := by decide +kernel
theorem d1_62 : decode method_2_code 62 = .ok (.areturn, 1) := by decide +kernel
theorem d1_63 : decode method_2_code 63 = .ok (.getstatic 31, 3) := by decide +kernel
theorem d1_66 : decode method_2_code 66 = .ok (.areturn, 1) := by decide +kernel
theorem pn_1 : plainName "com/example/zarnitsa/zarnitsa/TypeIsIntegerPinLaw" = true := by first | (simp [plainName, overriddenIn]; done) | decide +kernel
theorem ef_1 (m : MethodId) (x0 : Int32) : entryFrame m #[(.int x0)] 1 = mkF m 0 #[.val (.int x0)] [] := by first | (simp [entryFrame, mkF, argsToLocals, Value.category]; done) | rfl
theorem d2_0 : decode prog_42_method_4_code 0 = .ok (.aload_n 0, 1) := by decide +kernel
theorem d2_1 : decode prog_42_method_4_code 1 = .ok (.getstatic 3, 3) := by decide +kernel
theorem d2_4 : decode prog_42_method_4_code 4 = .ok (.if_acmp .eq 24, 3) := by decide +kernel
theorem d2_7 : decode prog_42_method_4_code 7 = .ok (.aload_n 0, 1) := by decide +kernel
theorem d2_8 : decode prog_42_method_4_code 8 = .ok (.getstatic 7, 3) := by decide +kernel
theorem d2_11 : decode prog_42_method_4_code 11 = .ok (.if_acmp .eq 17, 3) := by decide +kernel
theorem d2_14 : decode prog_42_method_4_code 14 = .ok (.aload_n 0, 1) := by decide +kernel
theorem d2_15 : decode prog_42_method_4_code 15 = .ok (.getstatic 10, 3) := by decide +kernel
theorem d2_18 : decode prog_42_method_4_code 18 = .ok (.if_acmp .eq 10, 3) := by decide +kernel
theorem d2_21 : decode prog_42_method_4_code 21 = .ok (.aload_n 0, 1) := by decide +kernel
theorem d2_22 : decode prog_42_method_4_code 22 = .ok (.getstatic 13, 3) := by decide +kernel
theorem d2_25 : decode prog_42_method_4_code 25 = .ok (.if_acmp .ne 7, 3) := by decide +kernel
theorem d2_28 : decode prog_42_method_4_code 28 = .ok (.iconst 1, 1) := by decide +kernel
theorem d2_29 : decode prog_42_method_4_code 29 = .ok (.goto 4, 3) := by decide +kernel
theorem d2_32 : decode prog_42_method_4_code 32 = .ok (.iconst 0, 1) := by decide +kernel
theorem d2_33 : decode prog_42_method_4_code 33 = .ok (.ireturn, 1) := by decide +kernel
theorem pn_2 : plainName "com/example/zarnitsa/zarnitsa/FastTemplate$Type" = true := by first | (simp [plainName, overriddenIn]; done) | decide +kernel
theorem ef_2 (m : MethodId) (x0 : Addr) : entryFrame m #[(.ref x0)] 1 = mkF m 0 #[.val (.ref x0)] [] := by first | (simp [entryFrame, mkF, argsToLocals, Value.category]; done) | rfl
theorem pd_0 : parseMethodDescriptor "(I)Lcom/example/zarnitsa/zarnitsa/FastTemplate$Type;" = some ⟨[.int], some (.object "com/example/zarnitsa/zarnitsa/FastTemplate$Type")⟩ := by decide +kernel
theorem pd_1 : parseMethodDescriptor "()Z" = some ⟨[], some .boolean⟩ := by decide +kernel
def Qm1_t (Z : State) (p1 : Int32) (w2 : Addr) (h0 : Heap) (n0 : Nat) (v : Option Value) (h : Heap) (L : List Loc) : Prop := v = some (.ref w2) ∧ Fr n0 L ∧ h = h0
set_option maxRecDepth 65536 in
set_option maxHeartbeats 40000000 in
theorem rm1_t (l : Launch) (Z : State) (a0 : Array Value) (hw : ∀ d ∈ tables_1, d.before a0 Z = true) (ws : List Jvm.Cond) (p1 : Int32) (w2 : Addr) (h0 : Heap) (n0 : Nat) (Z0 : n0 ≤ h0.size) (hd0 : p1 = (0 : Int32)) (S_INT32 : Sta Z h0 "com/example/zarnitsa/zarnitsa/FastTemplate$Type" "INT32" "Lcom/example/zarnitsa/zarnitsa/FastTemplate$Type;" (.ref w2)) :
    MetFree l (⟨"com/example/zarnitsa/zarnitsa/TypeIsIntegerPinLaw", "pick", "(I)Lcom/example/zarnitsa/zarnitsa/FastTemplate$Type;"⟩ : MethodName) (head1 (Jvm.Cond.code (⟨"com/example/zarnitsa/zarnitsa/TypeIsIntegerPinLaw", "pick", "(I)Lcom/example/zarnitsa/zarnitsa/FastTemplate$Type;"⟩ : MethodName) method_2_code 1 (some (.object "com/example/zarnitsa/zarnitsa/FastTemplate$Type")) :: ws) ({ frames := 0, cells := 0, slots := 0, locals := 0 } : Room)) (fun a U => a = #[(.int p1)] ∧ Z.Warmed39 U.vm ∧ U.heap = h0) (fun _ _ _ _ _ => True) (fun _ U o U' => ∃ v L, o = .returned v ∧ Qm1_t Z p1 w2 h0 n0 v U'.heap L ∧ FrameEnd U o U' L ({ frames := 0, cells := 0, slots := 0, locals := 0 } : Room).cells ({ frames := 0, cells := 0, slots := 0, locals := 0 } : Room).slots) := by
  refine MetFree.of_bodySF (plainFor_of_name pn_1) hisR ?_
  intro p e s m args below meth c s₁ Bd hml0 hP hK
  obtain ⟨rfl, hZ, hh⟩ := hP
  have hx := Bd.exec
  have hby := Bd.bytes
  have hml : c.maxLocals = 1 := hml0
  have hown : s.vm.findClass "com/example/zarnitsa/zarnitsa/TypeIsIntegerPinLaw" = some m.cls := findClass_of_methodNamed Bd.named
  have hnm := (name_of_methodNamed Bd.named Bd.method).1
  have X0 : Stand p l e ({ frames := 0, cells := 0, slots := 0, locals := 0 } : Room) s m #[(.int p1)] below meth c s₁ [] 0 0 := Stand.of_body Bd
  have e0 : s₁.heap = h0 := by rw [← hh, Bd.state]; rfl
  have N0 := Fr.nil n0
  refine Go.en (ef_1 m p1) ?_
  show Go p e below _ (s₁.setTop (mkF m 0 #[.val (.int p1)] []))
  refine Go.st (fun _ kk => XS.iloadN X0.here hx rfl (hb hby d1_0) rfl  kk) ?_
  show Go p e below _ (s₁.setTop (mkF m 1 #[.val (.int p1)] [(.int p1)]))
  refine Go.st (fun _ kk => XS.ifNo X0.here hx rfl (hb hby d1_1) rfl ((if0 _ _).trans (teq hd0).2) kk) ?_
  show Go p e below _ (s₁.setTop (mkF m 4 #[.val (.int p1)] []))
  obtain ⟨T3, X3, e3, st3⟩ := getS2 X0 hx hZ hown (host := "") (Or.inl (hw _ (List.mem_of_getElem? (i := 4) rfl))) Via.refl e0 S_INT32 (g := (mkF m 4 #[.val (.int p1)] [])) rfl (hb hby d1_4)
  refine Go.st st3 ?_
  show Go p e below _ (T3.setTop (mkF m 7 #[.val (.int p1)] [(.ref w2)]))
  exact Go.ret (Q := Qm1_t Z p1 w2 h0 n0) X3 (v := some (.ref w2)) (fun h => by rw [Bd.returns] at h; cases h) Bd.notSynchronized (fun fs hr => retOut X3 hx Bd.returns rfl (Or.inr (Or.inr (Or.inr (Or.inr ⟨rfl, rfl, rfl⟩)))) (hb hby d1_7) hr) e3 ⟨rfl, N0, rfl⟩ (by decide) (by decide)
def Qm1_ft (Z : State) (p1 : Int32) (w2 : Addr) (h0 : Heap) (n0 : Nat) (v : Option Value) (h : Heap) (L : List Loc) : Prop := v = some (.ref w2) ∧ Fr n0 L ∧ h = h0
set_option maxRecDepth 65536 in
set_option maxHeartbeats 40000000 in
theorem rm1_ft (l : Launch) (Z : State) (a0 : Array Value) (hw : ∀ d ∈ tables_1, d.before a0 Z = true) (ws : List Jvm.Cond) (p1 : Int32) (w2 : Addr) (h0 : Heap) (n0 : Nat) (Z0 : n0 ≤ h0.size) (hd0 : ¬ (p1 = (0 : Int32))) (hd1 : p1 = (1 : Int32)) (S_UINT32 : Sta Z h0 "com/example/zarnitsa/zarnitsa/FastTemplate$Type" "UINT32" "Lcom/example/zarnitsa/zarnitsa/FastTemplate$Type;" (.ref w2)) :
    MetFree l (⟨"com/example/zarnitsa/zarnitsa/TypeIsIntegerPinLaw", "pick", "(I)Lcom/example/zarnitsa/zarnitsa/FastTemplate$Type;"⟩ : MethodName) (head1 (Jvm.Cond.code (⟨"com/example/zarnitsa/zarnitsa/TypeIsIntegerPinLaw", "pick", "(I)Lcom/example/zarnitsa/zarnitsa/FastTemplate$Type;"⟩ : MethodName) method_2_code 1 (some (.object "com/example/zarnitsa/zarnitsa/FastTemplate$Type")) :: ws) ({ frames := 0, cells := 0, slots := 0, locals := 0 } : Room)) (fun a U => a = #[(.int p1)] ∧ Z.Warmed39 U.vm ∧ U.heap = h0) (fun _ _ _ _ _ => True) (fun _ U o U' => ∃ v L, o = .returned v ∧ Qm1_ft Z p1 w2 h0 n0 v U'.heap L ∧ FrameEnd U o U' L ({ frames := 0, cells := 0, slots := 0, locals := 0 } : Room).cells ({ frames := 0, cells := 0, slots := 0, locals := 0 } : Room).slots) := by
  refine MetFree.of_bodySF (plainFor_of_name pn_1) hisR ?_
  intro p e s m args below meth c s₁ Bd hml0 hP hK
  obtain ⟨rfl, hZ, hh⟩ := hP
  have hx := Bd.exec
  have hby := Bd.bytes
  have hml : c.maxLocals = 1 := hml0
  have hown : s.vm.findClass "com/example/zarnitsa/zarnitsa/TypeIsIntegerPinLaw" = some m.cls := findClass_of_methodNamed Bd.named
  have hnm := (name_of_methodNamed Bd.named Bd.method).1
  have X0 : Stand p l e ({ frames := 0, cells := 0, slots := 0, locals := 0 } : Room) s m #[(.int p1)] below meth c s₁ [] 0 0 := Stand.of_body Bd
  have e0 : s₁.heap = h0 := by rw [← hh, Bd.state]; rfl
  have N0 := Fr.nil n0
  refine Go.en (ef_1 m p1) ?_
  show Go p e below _ (s₁.setTop (mkF m 0 #[.val (.int p1)] []))
  refine Go.st (fun _ kk => XS.iloadN X0.here hx rfl (hb hby d1_0) rfl  kk) ?_
  show Go p e below _ (s₁.setTop (mkF m 1 #[.val (.int p1)] [(.int p1)]))
  refine Go.st (fun _ kk => XS.ifYes X0.here hx rfl (pc0 := 1) (pc' := 8) rfl (hb hby d1_1) rfl ((if0 _ _).trans (feq hd0).2) (by decide) (by decide) kk) ?_
  show Go p e below _ (s₁.setTop (mkF m 8 #[.val (.int p1)] []))
  refine Go.st (fun _ kk => XS.iloadN X0.here hx rfl (hb hby d1_8) rfl  kk) ?_
  show Go p e below _ (s₁.setTop (mkF m 9 #[.val (.int p1)] [(.int p1)]))
  refine Go.st (fun _ kk => XS.iconst X0.here hx rfl (hb hby d1_9) kk) ?_
  show Go p e below _ (s₁.setTop (mkF m 10 #[.val (.int p1)] [(.int (1 : Int32)), (.int p1)]))
  refine Go.st (fun _ kk => XS.icmpNo X0.here hx rfl (hb hby d1_10) rfl (teq hd1).2 kk) ?_
  show Go p e below _ (s₁.setTop (mkF m 13 #[.val (.int p1)] []))
  obtain ⟨T3, X3, e3, st3⟩ := getS2 X0 hx hZ hown (host := "") (Or.inl (hw _ (List.mem_of_getElem? (i := 25) rfl))) Via.refl e0 S_UINT32 (g := (mkF m 13 #[.val (.int p1)] [])) rfl (hb hby d1_13)
  refine Go.st st3 ?_
  show Go p e below _ (T3.setTop (mkF m 16 #[.val (.int p1)] [(.ref w2)]))
  exact Go.ret (Q := Qm1_ft Z p1 w2 h0 n0) X3 (v := some (.ref w2)) (fun h => by rw [Bd.returns] at h; cases h) Bd.notSynchronized (fun fs hr => retOut X3 hx Bd.returns rfl (Or.inr (Or.inr (Or.inr (Or.inr ⟨rfl, rfl, rfl⟩)))) (hb hby d1_16) hr) e3 ⟨rfl, N0, rfl⟩ (by decide) (by decide)
def Qm1_fft (Z : State) (p1 : Int32) (w2 : Addr) (h0 : Heap) (n0 : Nat) (v : Option Value) (h : Heap) (L : List Loc) : Prop := v = some (.ref w2) ∧ Fr n0 L ∧ h = h0
set_option maxRecDepth 65536 in
set_option maxHeartbeats 40000000 in
theorem rm1_fft (l : Launch) (Z : State) (a0 : Array Value) (hw : ∀ d ∈ tables_1, d.before a0 Z = true) (ws : List Jvm.Cond) (p1 : Int32) (w2 : Addr) (h0 : Heap) (n0 : Nat) (Z0 : n0 ≤ h0.size) (hd0 : ¬ (p1 = (0 : Int32))) (hd1 : ¬ (p1 = (1 : Int32))) (hd2 : p1 = (2 : Int32)) (S_INT64 : Sta Z h0 "com/example/zarnitsa/zarnitsa/FastTemplate$Type" "INT64" "Lcom/example/zarnitsa/zarnitsa/FastTemplate$Type;" (.ref w2)) :
    MetFree l (⟨"com/example/zarnitsa/zarnitsa/TypeIsIntegerPinLaw", "pick", "(I)Lcom/example/zarnitsa/zarnitsa/FastTemplate$Type;"⟩ : MethodName) (head1 (Jvm.Cond.code (⟨"com/example/zarnitsa/zarnitsa/TypeIsIntegerPinLaw", "pick", "(I)Lcom/example/zarnitsa/zarnitsa/FastTemplate$Type;"⟩ : MethodName) method_2_code 1 (some (.object "com/example/zarnitsa/zarnitsa/FastTemplate$Type")) :: ws) ({ frames := 0, cells := 0, slots := 0, locals := 0 } : Room)) (fun a U => a = #[(.int p1)] ∧ Z.Warmed39 U.vm ∧ U.heap = h0) (fun _ _ _ _ _ => True) (fun _ U o U' => ∃ v L, o = .returned v ∧ Qm1_fft Z p1 w2 h0 n0 v U'.heap L ∧ FrameEnd U o U' L ({ frames := 0, cells := 0, slots := 0, locals := 0 } : Room).cells ({ frames := 0, cells := 0, slots := 0, locals := 0 } : Room).slots) := by
  refine MetFree.of_bodySF (plainFor_of_name pn_1) hisR ?_
  intro p e s m args below meth c s₁ Bd hml0 hP hK
  obtain ⟨rfl, hZ, hh⟩ := hP
  have hx := Bd.exec
  have hby := Bd.bytes
  have hml : c.maxLocals = 1 := hml0
  have hown : s.vm.findClass "com/example/zarnitsa/zarnitsa/TypeIsIntegerPinLaw" = some m.cls := findClass_of_methodNamed Bd.named
  have hnm := (name_of_methodNamed Bd.named Bd.method).1
  have X0 : Stand p l e ({ frames := 0, cells := 0, slots := 0, locals := 0 } : Room) s m #[(.int p1)] below meth c s₁ [] 0 0 := Stand.of_body Bd
  have e0 : s₁.heap = h0 := by rw [← hh, Bd.state]; rfl
  have N0 := Fr.nil n0
  refine Go.en (ef_1 m p1) ?_
  show Go p e below _ (s₁.setTop (mkF m 0 #[.val (.int p1)] []))
  refine Go.st (fun _ kk => XS.iloadN X0.here hx rfl (hb hby d1_0) rfl  kk) ?_
  show Go p e below _ (s₁.setTop (mkF m 1 #[.val (.int p1)] [(.int p1)]))
  refine Go.st (fun _ kk => XS.ifYes X0.here hx rfl (pc0 := 1) (pc' := 8) rfl (hb hby d1_1) rfl ((if0 _ _).trans (feq hd0).2) (by decide) (by decide) kk) ?_
  show Go p e below _ (s₁.setTop (mkF m 8 #[.val (.int p1)] []))
  refine Go.st (fun _ kk => XS.iloadN X0.here hx rfl (hb hby d1_8) rfl  kk) ?_
  show Go p e below _ (s₁.setTop (mkF m 9 #[.val (.int p1)] [(.int p1)]))
  refine Go.st (fun _ kk => XS.iconst X0.here hx rfl (hb hby d1_9) kk) ?_
  show Go p e below _ (s₁.setTop (mkF m 10 #[.val (.int p1)] [(.int (1 : Int32)), (.int p1)]))
  refine Go.st (fun _ kk => XS.icmpYes X0.here hx rfl (pc0 := 10) (pc' := 17) rfl (hb hby d1_10) rfl (feq hd1).2 (by decide) (by decide) kk) ?_
  show Go p e below _ (s₁.setTop (mkF m 17 #[.val (.int p1)] []))
  refine Go.st (fun _ kk => XS.iloadN X0.here hx rfl (hb hby d1_17) rfl  kk) ?_
  show Go p e below _ (s₁.setTop (mkF m 18 #[.val (.int p1)] [(.int p1)]))
  refine Go.st (fun _ kk => XS.iconst X0.here hx rfl (hb hby d1_18) kk) ?_
  show Go p e below _ (s₁.setTop (mkF m 19 #[.val (.int p1)] [(.int (2 : Int32)), (.int p1)]))
  refine Go.st (fun _ kk => XS.icmpNo X0.here hx rfl (hb hby d1_19) rfl (teq hd2).2 kk) ?_
  show Go p e below _ (s₁.setTop (mkF m 22 #[.val (.int p1)] []))
  obtain ⟨T3, X3, e3, st3⟩ := getS2 X0 hx hZ hown (host := "") (Or.inl (hw _ (List.mem_of_getElem? (i := 24) rfl))) Via.refl e0 S_INT64 (g := (mkF m 22 #[.val (.int p1)] [])) rfl (hb hby d1_22)
  refine Go.st st3 ?_
  show Go p e below _ (T3.setTop (mkF m 25 #[.val (.int p1)] [(.ref w2)]))
  exact Go.ret (Q := Qm1_fft Z p1 w2 h0 n0) X3 (v := some (.ref w2)) (fun h => by rw [Bd.returns] at h; cases h) Bd.notSynchronized (fun fs hr => retOut X3 hx Bd.returns rfl (Or.inr (Or.inr (Or.inr (Or.inr ⟨rfl, rfl, rfl⟩)))) (hb hby d1_25) hr) e3 ⟨rfl, N0, rfl⟩ (by decide) (by decide)
def Qm1_ffft (Z : State) (p1 : Int32) (w2 : Addr) (h0 : Heap) (n0 : Nat) (v : Option Value) (h : Heap) (L : List Loc) : Prop := v = some (.ref w2) ∧ Fr n0 L ∧ h = h0
set_option maxRecDepth 65536 in
set_option maxHeartbeats 40000000 in
theorem rm1_ffft (l : Launch) (Z : State) (a0 : Array Value) (hw : ∀ d ∈ tables_1, d.before a0 Z = true) (ws : List Jvm.Cond) (p1 : Int32) (w2 : Addr) (h0 : Heap) (n0 : Nat) (Z0 : n0 ≤ h0.size) (hd0 : ¬ (p1 = (0 : Int32))) (hd1 : ¬ (p1 = (1 : Int32))) (hd2 : ¬ (p1 = (2 : Int32))) (hd3 : p1 = (3 : Int32)) (S_UINT64 : Sta Z h0 "com/example/zarnitsa/zarnitsa/FastTemplate$Type" "UINT64" "Lcom/example/zarnitsa/zarnitsa/FastTemplate$Type;" (.ref w2)) :
    MetFree l (⟨"com/example/zarnitsa/zarnitsa/TypeIsIntegerPinLaw", "pick", "(I)Lcom/example/zarnitsa/zarnitsa/FastTemplate$Type;"⟩ : MethodName) (head1 (Jvm.Cond.code (⟨"com/example/zarnitsa/zarnitsa/TypeIsIntegerPinLaw", "pick", "(I)Lcom/example/zarnitsa/zarnitsa/FastTemplate$Type;"⟩ : MethodName) method_2_code 1 (some (.object "com/example/zarnitsa/zarnitsa/FastTemplate$Type")) :: ws) ({ frames := 0, cells := 0, slots := 0, locals := 0 } : Room)) (fun a U => a = #[(.int p1)] ∧ Z.Warmed39 U.vm ∧ U.heap = h0) (fun _ _ _ _ _ => True) (fun _ U o U' => ∃ v L, o = .returned v ∧ Qm1_ffft Z p1 w2 h0 n0 v U'.heap L ∧ FrameEnd U o U' L ({ frames := 0, cells := 0, slots := 0, locals := 0 } : Room).cells ({ frames := 0, cells := 0, slots := 0, locals := 0 } : Room).slots) := by
  refine MetFree.of_bodySF (plainFor_of_name pn_1) hisR ?_
  intro p e s m args below meth c s₁ Bd hml0 hP hK
  obtain ⟨rfl, hZ, hh⟩ := hP
  have hx := Bd.exec
  have hby := Bd.bytes
  have hml : c.maxLocals = 1 := hml0
  have hown : s.vm.findClass "com/example/zarnitsa/zarnitsa/TypeIsIntegerPinLaw" = some m.cls := findClass_of_methodNamed Bd.named
  have hnm := (name_of_methodNamed Bd.named Bd.method).1
  have X0 : Stand p l e ({ frames := 0, cells := 0, slots := 0, locals := 0 } : Room) s m #[(.int p1)] below meth c s₁ [] 0 0 := Stand.of_body Bd
  have e0 : s₁.heap = h0 := by rw [← hh, Bd.state]; rfl
  have N0 := Fr.nil n0
  refine Go.en (ef_1 m p1) ?_
  show Go p e below _ (s₁.setTop (mkF m 0 #[.val (.int p1)] []))
  refine Go.st (fun _ kk => XS.iloadN X0.here hx rfl (hb hby d1_0) rfl  kk) ?_
  show Go p e below _ (s₁.setTop (mkF m 1 #[.val (.int p1)] [(.int p1)]))
  refine Go.st (fun _ kk => XS.ifYes X0.here hx rfl (pc0 := 1) (pc' := 8) rfl (hb hby d1_1) rfl ((if0 _ _).trans (feq hd0).2) (by decide) (by decide) kk) ?_
  show Go p e below _ (s₁.setTop (mkF m 8 #[.val (.int p1)] []))
  refine Go.st (fun _ kk => XS.iloadN X0.here hx rfl (hb hby d1_8) rfl  kk) ?_
  show Go p e below _ (s₁.setTop (mkF m 9 #[.val (.int p1)] [(.int p1)]))
  refine Go.st (fun _ kk => XS.iconst X0.here hx rfl (hb hby d1_9) kk) ?_
  show Go p e below _ (s₁.setTop (mkF m 10 #[.val (.int p1)] [(.int (1 : Int32)), (.int p1)]))
  refine Go.st (fun _ kk => XS.icmpYes X0.here hx rfl (pc0 := 10) (pc' := 17) rfl (hb hby d1_10) rfl (feq hd1).2 (by decide) (by decide) kk) ?_
  show Go p e below _ (s₁.setTop (mkF m 17 #[.val (.int p1)] []))
  refine Go.st (fun _ kk => XS.iloadN X0.here hx rfl (hb hby d1_17) rfl  kk) ?_
  show Go p e below _ (s₁.setTop (mkF m 18 #[.val (.int p1)] [(.int p1)]))
  refine Go.st (fun _ kk => XS.iconst X0.here hx rfl (hb hby d1_18) kk) ?_
  show Go p e below _ (s₁.setTop (mkF m 19 #[.val (.int p1)] [(.int (2 : Int32)), (.int p1)]))
  refine Go.st (fun _ kk => XS.icmpYes X0.here hx rfl (pc0 := 19) (pc' := 26) rfl (hb hby d1_19) rfl (feq hd2).2 (by decide) (by decide) kk) ?_
  show Go p e below _ (s₁.setTop (mkF m 26 #[.val (.int p1)] []))
  refine Go.st (fun _ kk => XS.iloadN X0.here hx rfl (hb hby d1_26) rfl  kk) ?_
  show Go p e below _ (s₁.setTop (mkF m 27 #[.val (.int p1)] [(.int p1)]))
  refine Go.st (fun _ kk => XS.iconst X0.here hx rfl (hb hby d1_27) kk) ?_
  show Go p e below _ (s₁.setTop (mkF m 28 #[.val (.int p1)] [(.int (3 : Int32)), (.int p1)]))
  refine Go.st (fun _ kk => XS.icmpNo X0.here hx rfl (hb hby d1_28) rfl (teq hd3).2 kk) ?_
  show Go p e below _ (s₁.setTop (mkF m 31 #[.val (.int p1)] []))
  obtain ⟨T3, X3, e3, st3⟩ := getS2 X0 hx hZ hown (host := "") (Or.inl (hw _ (List.mem_of_getElem? (i := 13) rfl))) Via.refl e0 S_UINT64 (g := (mkF m 31 #[.val (.int p1)] [])) rfl (hb hby d1_31)
  refine Go.st st3 ?_
  show Go p e below _ (T3.setTop (mkF m 34 #[.val (.int p1)] [(.ref w2)]))
  exact Go.ret (Q := Qm1_ffft Z p1 w2 h0 n0) X3 (v := some (.ref w2)) (fun h => by rw [Bd.returns] at h; cases h) Bd.notSynchronized (fun fs hr => retOut X3 hx Bd.returns rfl (Or.inr (Or.inr (Or.inr (Or.inr ⟨rfl, rfl, rfl⟩)))) (hb hby d1_34) hr) e3 ⟨rfl, N0, rfl⟩ (by decide) (by decide)
def Qm1_fffft (Z : State) (p1 : Int32) (w2 : Addr) (h0 : Heap) (n0 : Nat) (v : Option Value) (h : Heap) (L : List Loc) : Prop := v = some (.ref w2) ∧ Fr n0 L ∧ h = h0
set_option maxRecDepth 65536 in
set_option maxHeartbeats 40000000 in
theorem rm1_fffft (l : Launch) (Z : State) (a0 : Array Value) (hw : ∀ d ∈ tables_1, d.before a0 Z = true) (ws : List Jvm.Cond) (p1 : Int32) (w2 : Addr) (h0 : Heap) (n0 : Nat) (Z0 : n0 ≤ h0.size) (hd0 : ¬ (p1 = (0 : Int32))) (hd1 : ¬ (p1 = (1 : Int32))) (hd2 : ¬ (p1 = (2 : Int32))) (hd3 : ¬ (p1 = (3 : Int32))) (hd4 : p1 = (4 : Int32)) (S_DECIMAL : Sta Z h0 "com/example/zarnitsa/zarnitsa/FastTemplate$Type" "DECIMAL" "Lcom/example/zarnitsa/zarnitsa/FastTemplate$Type;" (.ref w2)) :
    MetFree l (⟨"com/example/zarnitsa/zarnitsa/TypeIsIntegerPinLaw", "pick", "(I)Lcom/example/zarnitsa/zarnitsa/FastTemplate$Type;"⟩ : MethodName) (head1 (Jvm.Cond.code (⟨"com/example/zarnitsa/zarnitsa/TypeIsIntegerPinLaw", "pick", "(I)Lcom/example/zarnitsa/zarnitsa/FastTemplate$Type;"⟩ : MethodName) method_2_code 1 (some (.object "com/example/zarnitsa/zarnitsa/FastTemplate$Type")) :: ws) ({ frames := 0, cells := 0, slots := 0, locals := 0 } : Room)) (fun a U => a = #[(.int p1)] ∧ Z.Warmed39 U.vm ∧ U.heap = h0) (fun _ _ _ _ _ => True) (fun _ U o U' => ∃ v L, o = .returned v ∧ Qm1_fffft Z p1 w2 h0 n0 v U'.heap L ∧ FrameEnd U o U' L ({ frames := 0, cells := 0, slots := 0, locals := 0 } : Room).cells ({ frames := 0, cells := 0, slots := 0, locals := 0 } : Room).slots) := by
  refine MetFree.of_bodySF (plainFor_of_name pn_1) hisR ?_
  intro p e s m args below meth c s₁ Bd hml0 hP hK
  obtain ⟨rfl, hZ, hh⟩ := hP
  have hx := Bd.exec
  have hby := Bd.bytes
  have hml : c.maxLocals = 1 := hml0
  have hown : s.vm.findClass "com/example/zarnitsa/zarnitsa/TypeIsIntegerPinLaw" = some m.cls := findClass_of_methodNamed Bd.named
  have hnm := (name_of_methodNamed Bd.named Bd.method).1
  have X0 : Stand p l e ({ frames := 0, cells := 0, slots := 0, locals := 0 } : Room) s m #[(.int p1)] below meth c s₁ [] 0 0 := Stand.of_body Bd
  have e0 : s₁.heap = h0 := by rw [← hh, Bd.state]; rfl
  have N0 := Fr.nil n0
  refine Go.en (ef_1 m p1) ?_
  show Go p e below _ (s₁.setTop (mkF m 0 #[.val (.int p1)] []))
  refine Go.st (fun _ kk => XS.iloadN X0.here hx rfl (hb hby d1_0) rfl  kk) ?_
  show Go p e below _ (s₁.setTop (mkF m 1 #[.val (.int p1)] [(.int p1)]))
  refine Go.st (fun _ kk => XS.ifYes X0.here hx rfl (pc0 := 1) (pc' := 8) rfl (hb hby d1_1) rfl ((if0 _ _).trans (feq hd0).2) (by decide) (by decide) kk) ?_
  show Go p e below _ (s₁.setTop (mkF m 8 #[.val (.int p1)] []))
  refine Go.st (fun _ kk => XS.iloadN X0.here hx rfl (hb hby d1_8) rfl  kk) ?_
  show Go p e below _ (s₁.setTop (mkF m 9 #[.val (.int p1)] [(.int p1)]))
  refine Go.st (fun _ kk => XS.iconst X0.here hx rfl (hb hby d1_9) kk) ?_
  show Go p e below _ (s₁.setTop (mkF m 10 #[.val (.int p1)] [(.int (1 : Int32)), (.int p1)]))
  refine Go.st (fun _ kk => XS.icmpYes X0.here hx rfl (pc0 := 10) (pc' := 17) rfl (hb hby d1_10) rfl (feq hd1).2 (by decide) (by decide) kk) ?_
  show Go p e below _ (s₁.setTop (mkF m 17 #[.val (.int p1)] []))
  refine Go.st (fun _ kk => XS.iloadN X0.here hx rfl (hb hby d1_17) rfl  kk) ?_
  show Go p e below _ (s₁.setTop (mkF m 18 #[.val (.int p1)] [(.int p1)]))
  refine Go.st (fun _ kk => XS.iconst X0.here hx rfl (hb hby d1_18) kk) ?_
  show Go p e below _ (s₁.setTop (mkF m 19 #[.val (.int p1)] [(.int (2 : Int32)), (.int p1)]))
  refine Go.st (fun _ kk => XS.icmpYes X0.here hx rfl (pc0 := 19) (pc' := 26) rfl (hb hby d1_19) rfl (feq hd2).2 (by decide) (by decide) kk) ?_
  show Go p e below _ (s₁.setTop (mkF m 26 #[.val (.int p1)] []))
  refine Go.st (fun _ kk => XS.iloadN X0.here hx rfl (hb hby d1_26) rfl  kk) ?_
  show Go p e below _ (s₁.setTop (mkF m 27 #[.val (.int p1)] [(.int p1)]))
  refine Go.st (fun _ kk => XS.iconst X0.here hx rfl (hb hby d1_27) kk) ?_
  show Go p e below _ (s₁.setTop (mkF m 28 #[.val (.int p1)] [(.int (3 : Int32)), (.int p1)]))
  refine Go.st (fun _ kk => XS.icmpYes X0.here hx rfl (pc0 := 28) (pc' := 35) rfl (hb hby d1_28) rfl (feq hd3).2 (by decide) (by decide) kk) ?_
  show Go p e below _ (s₁.setTop (mkF m 35 #[.val (.int p1)] []))
  refine Go.st (fun _ kk => XS.iloadN X0.here hx rfl (hb hby d1_35) rfl  kk) ?_
  show Go p e below _ (s₁.setTop (mkF m 36 #[.val (.int p1)] [(.int p1)]))
  refine Go.st (fun _ kk => XS.iconst X0.here hx rfl (hb hby d1_36) kk) ?_
  show Go p e below _ (s₁.setTop (mkF m 37 #[.val (.int p1)] [(.int (4 : Int32)), (.int p1)]))
  refine Go.st (fun _ kk => XS.icmpNo X0.here hx rfl (hb hby d1_37) rfl (teq hd4).2 kk) ?_
  show Go p e below _ (s₁.setTop (mkF m 40 #[.val (.int p1)] []))
  obtain ⟨T3, X3, e3, st3⟩ := getS2 X0 hx hZ hown (host := "") (Or.inl (hw _ (List.mem_of_getElem? (i := 26) rfl))) Via.refl e0 S_DECIMAL (g := (mkF m 40 #[.val (.int p1)] [])) rfl (hb hby d1_40)
  refine Go.st st3 ?_
  show Go p e below _ (T3.setTop (mkF m 43 #[.val (.int p1)] [(.ref w2)]))
  exact Go.ret (Q := Qm1_fffft Z p1 w2 h0 n0) X3 (v := some (.ref w2)) (fun h => by rw [Bd.returns] at h; cases h) Bd.notSynchronized (fun fs hr => retOut X3 hx Bd.returns rfl (Or.inr (Or.inr (Or.inr (Or.inr ⟨rfl, rfl, rfl⟩)))) (hb hby d1_43) hr) e3 ⟨rfl, N0, rfl⟩ (by decide) (by decide)
def Qm1_ffffft (Z : State) (p1 : Int32) (w2 : Addr) (h0 : Heap) (n0 : Nat) (v : Option Value) (h : Heap) (L : List Loc) : Prop := v = some (.ref w2) ∧ Fr n0 L ∧ h = h0
set_option maxRecDepth 65536 in
set_option maxHeartbeats 40000000 in
theorem rm1_ffffft (l : Launch) (Z : State) (a0 : Array Value) (hw : ∀ d ∈ tables_1, d.before a0 Z = true) (ws : List Jvm.Cond) (p1 : Int32) (w2 : Addr) (h0 : Heap) (n0 : Nat) (Z0 : n0 ≤ h0.size) (hd0 : ¬ (p1 = (0 : Int32))) (hd1 : ¬ (p1 = (1 : Int32))) (hd2 : ¬ (p1 = (2 : Int32))) (hd3 : ¬ (p1 = (3 : Int32))) (hd4 : ¬ (p1 = (4 : Int32))) (hd5 : p1 = (5 : Int32)) (S_ASCII : Sta Z h0 "com/example/zarnitsa/zarnitsa/FastTemplate$Type" "ASCII" "Lcom/example/zarnitsa/zarnitsa/FastTemplate$Type;" (.ref w2)) :
    MetFree l (⟨"com/example/zarnitsa/zarnitsa/TypeIsIntegerPinLaw", "pick", "(I)Lcom/example/zarnitsa/zarnitsa/FastTemplate$Type;"⟩ : MethodName) (head1 (Jvm.Cond.code (⟨"com/example/zarnitsa/zarnitsa/TypeIsIntegerPinLaw", "pick", "(I)Lcom/example/zarnitsa/zarnitsa/FastTemplate$Type;"⟩ : MethodName) method_2_code 1 (some (.object "com/example/zarnitsa/zarnitsa/FastTemplate$Type")) :: ws) ({ frames := 0, cells := 0, slots := 0, locals := 0 } : Room)) (fun a U => a = #[(.int p1)] ∧ Z.Warmed39 U.vm ∧ U.heap = h0) (fun _ _ _ _ _ => True) (fun _ U o U' => ∃ v L, o = .returned v ∧ Qm1_ffffft Z p1 w2 h0 n0 v U'.heap L ∧ FrameEnd U o U' L ({ frames := 0, cells := 0, slots := 0, locals := 0 } : Room).cells ({ frames := 0, cells := 0, slots := 0, locals := 0 } : Room).slots) := by
  refine MetFree.of_bodySF (plainFor_of_name pn_1) hisR ?_
  intro p e s m args below meth c s₁ Bd hml0 hP hK
  obtain ⟨rfl, hZ, hh⟩ := hP
  have hx := Bd.exec
  have hby := Bd.bytes
  have hml : c.maxLocals = 1 := hml0
  have hown : s.vm.findClass "com/example/zarnitsa/zarnitsa/TypeIsIntegerPinLaw" = some m.cls := findClass_of_methodNamed Bd.named
  have hnm := (name_of_methodNamed Bd.named Bd.method).1
  have X0 : Stand p l e ({ frames := 0, cells := 0, slots := 0, locals := 0 } : Room) s m #[(.int p1)] below meth c s₁ [] 0 0 := Stand.of_body Bd
  have e0 : s₁.heap = h0 := by rw [← hh, Bd.state]; rfl
  have N0 := Fr.nil n0
  refine Go.en (ef_1 m p1) ?_
  show Go p e below _ (s₁.setTop (mkF m 0 #[.val (.int p1)] []))
  refine Go.st (fun _ kk => XS.iloadN X0.here hx rfl (hb hby d1_0) rfl  kk) ?_
  show Go p e below _ (s₁.setTop (mkF m 1 #[.val (.int p1)] [(.int p1)]))
  refine Go.st (fun _ kk => XS.ifYes X0.here hx rfl (pc0 := 1) (pc' := 8) rfl (hb hby d1_1) rfl ((if0 _ _).trans (feq hd0).2) (by decide) (by decide) kk) ?_
  show Go p e below _ (s₁.setTop (mkF m 8 #[.val (.int p1)] []))
  refine Go.st (fun _ kk => XS.iloadN X0.here hx rfl (hb hby d1_8) rfl  kk) ?_
  show Go p e below _ (s₁.setTop (mkF m 9 #[.val (.int p1)] [(.int p1)]))
  refine Go.st (fun _ kk => XS.iconst X0.here hx rfl (hb hby d1_9) kk) ?_
  show Go p e below _ (s₁.setTop (mkF m 10 #[.val (.int p1)] [(.int (1 : Int32)), (.int p1)]))
  refine Go.st (fun _ kk => XS.icmpYes X0.here hx rfl (pc0 := 10) (pc' := 17) rfl (hb hby d1_10) rfl (feq hd1).2 (by decide) (by decide) kk) ?_
  show Go p e below _ (s₁.setTop (mkF m 17 #[.val (.int p1)] []))
  refine Go.st (fun _ kk => XS.iloadN X0.here hx rfl (hb hby d1_17) rfl  kk) ?_
  show Go p e below _ (s₁.setTop (mkF m 18 #[.val (.int p1)] [(.int p1)]))
  refine Go.st (fun _ kk => XS.iconst X0.here hx rfl (hb hby d1_18) kk) ?_
  show Go p e below _ (s₁.setTop (mkF m 19 #[.val (.int p1)] [(.int (2 : Int32)), (.int p1)]))
  refine Go.st (fun _ kk => XS.icmpYes X0.here hx rfl (pc0 := 19) (pc' := 26) rfl (hb hby d1_19) rfl (feq hd2).2 (by decide) (by decide) kk) ?_
  show Go p e below _ (s₁.setTop (mkF m 26 #[.val (.int p1)] []))
  refine Go.st (fun _ kk => XS.iloadN X0.here hx rfl (hb hby d1_26) rfl  kk) ?_
  show Go p e below _ (s₁.setTop (mkF m 27 #[.val (.int p1)] [(.int p1)]))
  refine Go.st (fun _ kk => XS.iconst X0.here hx rfl (hb hby d1_27) kk) ?_
  show Go p e below _ (s₁.setTop (mkF m 28 #[.val (.int p1)] [(.int (3 : Int32)), (.int p1)]))
  refine Go.st (fun _ kk => XS.icmpYes X0.here hx rfl (pc0 := 28) (pc' := 35) rfl (hb hby d1_28) rfl (feq hd3).2 (by decide) (by decide) kk) ?_
  show Go p e below _ (s₁.setTop (mkF m 35 #[.val (.int p1)] []))
  refine Go.st (fun _ kk => XS.iloadN X0.here hx rfl (hb hby d1_35) rfl  kk) ?_
  show Go p e below _ (s₁.setTop (mkF m 36 #[.val (.int p1)] [(.int p1)]))
  refine Go.st (fun _ kk => XS.iconst X0.here hx rfl (hb hby d1_36) kk) ?_
  show Go p e below _ (s₁.setTop (mkF m 37 #[.val (.int p1)] [(.int (4 : Int32)), (.int p1)]))
  refine Go.st (fun _ kk => XS.icmpYes X0.here hx rfl (pc0 := 37) (pc' := 44) rfl (hb hby d1_37) rfl (feq hd4).2 (by decide) (by decide) kk) ?_
  show Go p e below _ (s₁.setTop (mkF m 44 #[.val (.int p1)] []))
  refine Go.st (fun _ kk => XS.iloadN X0.here hx rfl (hb hby d1_44) rfl  kk) ?_
  show Go p e below _ (s₁.setTop (mkF m 45 #[.val (.int p1)] [(.int p1)]))
  refine Go.st (fun _ kk => XS.iconst X0.here hx rfl (hb hby d1_45) kk) ?_
  show Go p e below _ (s₁.setTop (mkF m 46 #[.val (.int p1)] [(.int (5 : Int32)), (.int p1)]))
  refine Go.st (fun _ kk => XS.icmpNo X0.here hx rfl (hb hby d1_46) rfl (teq hd5).2 kk) ?_
  show Go p e below _ (s₁.setTop (mkF m 49 #[.val (.int p1)] []))
  obtain ⟨T3, X3, e3, st3⟩ := getS2 X0 hx hZ hown (host := "") (Or.inl (hw _ (List.mem_of_getElem? (i := 28) rfl))) Via.refl e0 S_ASCII (g := (mkF m 49 #[.val (.int p1)] [])) rfl (hb hby d1_49)
  refine Go.st st3 ?_
  show Go p e below _ (T3.setTop (mkF m 52 #[.val (.int p1)] [(.ref w2)]))
  exact Go.ret (Q := Qm1_ffffft Z p1 w2 h0 n0) X3 (v := some (.ref w2)) (fun h => by rw [Bd.returns] at h; cases h) Bd.notSynchronized (fun fs hr => retOut X3 hx Bd.returns rfl (Or.inr (Or.inr (Or.inr (Or.inr ⟨rfl, rfl, rfl⟩)))) (hb hby d1_52) hr) e3 ⟨rfl, N0, rfl⟩ (by decide) (by decide)
def Qm1_fffffft (Z : State) (p1 : Int32) (w2 : Addr) (h0 : Heap) (n0 : Nat) (v : Option Value) (h : Heap) (L : List Loc) : Prop := v = some (.ref w2) ∧ Fr n0 L ∧ h = h0
set_option maxRecDepth 65536 in
set_option maxHeartbeats 40000000 in
theorem rm1_fffffft (l : Launch) (Z : State) (a0 : Array Value) (hw : ∀ d ∈ tables_1, d.before a0 Z = true) (ws : List Jvm.Cond) (p1 : Int32) (w2 : Addr) (h0 : Heap) (n0 : Nat) (Z0 : n0 ≤ h0.size) (hd0 : ¬ (p1 = (0 : Int32))) (hd1 : ¬ (p1 = (1 : Int32))) (hd2 : ¬ (p1 = (2 : Int32))) (hd3 : ¬ (p1 = (3 : Int32))) (hd4 : ¬ (p1 = (4 : Int32))) (hd5 : ¬ (p1 = (5 : Int32))) (hd6 : p1 = (6 : Int32)) (S_UNICODE : Sta Z h0 "com/example/zarnitsa/zarnitsa/FastTemplate$Type" "UNICODE" "Lcom/example/zarnitsa/zarnitsa/FastTemplate$Type;" (.ref w2)) :
    MetFree l (⟨"com/example/zarnitsa/zarnitsa/TypeIsIntegerPinLaw", "pick", "(I)Lcom/example/zarnitsa/zarnitsa/FastTemplate$Type;"⟩ : MethodName) (head1 (Jvm.Cond.code (⟨"com/example/zarnitsa/zarnitsa/TypeIsIntegerPinLaw", "pick", "(I)Lcom/example/zarnitsa/zarnitsa/FastTemplate$Type;"⟩ : MethodName) method_2_code 1 (some (.object "com/example/zarnitsa/zarnitsa/FastTemplate$Type")) :: ws) ({ frames := 0, cells := 0, slots := 0, locals := 0 } : Room)) (fun a U => a = #[(.int p1)] ∧ Z.Warmed39 U.vm ∧ U.heap = h0) (fun _ _ _ _ _ => True) (fun _ U o U' => ∃ v L, o = .returned v ∧ Qm1_fffffft Z p1 w2 h0 n0 v U'.heap L ∧ FrameEnd U o U' L ({ frames := 0, cells := 0, slots := 0, locals := 0 } : Room).cells ({ frames := 0, cells := 0, slots := 0, locals := 0 } : Room).slots) := by
  refine MetFree.of_bodySF (plainFor_of_name pn_1) hisR ?_
  intro p e s m args below meth c s₁ Bd hml0 hP hK
  obtain ⟨rfl, hZ, hh⟩ := hP
  have hx := Bd.exec
  have hby := Bd.bytes
  have hml : c.maxLocals = 1 := hml0
  have hown : s.vm.findClass "com/example/zarnitsa/zarnitsa/TypeIsIntegerPinLaw" = some m.cls := findClass_of_methodNamed Bd.named
  have hnm := (name_of_methodNamed Bd.named Bd.method).1
  have X0 : Stand p l e ({ frames := 0, cells := 0, slots := 0, locals := 0 } : Room) s m #[(.int p1)] below meth c s₁ [] 0 0 := Stand.of_body Bd
  have e0 : s₁.heap = h0 := by rw [← hh, Bd.state]; rfl
  have N0 := Fr.nil n0
  refine Go.en (ef_1 m p1) ?_
  show Go p e below _ (s₁.setTop (mkF m 0 #[.val (.int p1)] []))
  refine Go.st (fun _ kk => XS.iloadN X0.here hx rfl (hb hby d1_0) rfl  kk) ?_
  show Go p e below _ (s₁.setTop (mkF m 1 #[.val (.int p1)] [(.int p1)]))
  refine Go.st (fun _ kk => XS.ifYes X0.here hx rfl (pc0 := 1) (pc' := 8) rfl (hb hby d1_1) rfl ((if0 _ _).trans (feq hd0).2) (by decide) (by decide) kk) ?_
  show Go p e below _ (s₁.setTop (mkF m 8 #[.val (.int p1)] []))
  refine Go.st (fun _ kk => XS.iloadN X0.here hx rfl (hb hby d1_8) rfl  kk) ?_
  show Go p e below _ (s₁.setTop (mkF m 9 #[.val (.int p1)] [(.int p1)]))
  refine Go.st (fun _ kk => XS.iconst X0.here hx rfl (hb hby d1_9) kk) ?_
  show Go p e below _ (s₁.setTop (mkF m 10 #[.val (.int p1)] [(.int (1 : Int32)), (.int p1)]))
  refine Go.st (fun _ kk => XS.icmpYes X0.here hx rfl (pc0 := 10) (pc' := 17) rfl (hb hby d1_10) rfl (feq hd1).2 (by decide) (by decide) kk) ?_
  show Go p e below _ (s₁.setTop (mkF m 17 #[.val (.int p1)] []))
  refine Go.st (fun _ kk => XS.iloadN X0.here hx rfl (hb hby d1_17) rfl  kk) ?_
  show Go p e below _ (s₁.setTop (mkF m 18 #[.val (.int p1)] [(.int p1)]))
  refine Go.st (fun _ kk => XS.iconst X0.here hx rfl (hb hby d1_18) kk) ?_
  show Go p e below _ (s₁.setTop (mkF m 19 #[.val (.int p1)] [(.int (2 : Int32)), (.int p1)]))
  refine Go.st (fun _ kk => XS.icmpYes X0.here hx rfl (pc0 := 19) (pc' := 26) rfl (hb hby d1_19) rfl (feq hd2).2 (by decide) (by decide) kk) ?_
  show Go p e below _ (s₁.setTop (mkF m 26 #[.val (.int p1)] []))
  refine Go.st (fun _ kk => XS.iloadN X0.here hx rfl (hb hby d1_26) rfl  kk) ?_
  show Go p e below _ (s₁.setTop (mkF m 27 #[.val (.int p1)] [(.int p1)]))
  refine Go.st (fun _ kk => XS.iconst X0.here hx rfl (hb hby d1_27) kk) ?_
  show Go p e below _ (s₁.setTop (mkF m 28 #[.val (.int p1)] [(.int (3 : Int32)), (.int p1)]))
  refine Go.st (fun _ kk => XS.icmpYes X0.here hx rfl (pc0 := 28) (pc' := 35) rfl (hb hby d1_28) rfl (feq hd3).2 (by decide) (by decide) kk) ?_
  show Go p e below _ (s₁.setTop (mkF m 35 #[.val (.int p1)] []))
  refine Go.st (fun _ kk => XS.iloadN X0.here hx rfl (hb hby d1_35) rfl  kk) ?_
  show Go p e below _ (s₁.setTop (mkF m 36 #[.val (.int p1)] [(.int p1)]))
  refine Go.st (fun _ kk => XS.iconst X0.here hx rfl (hb hby d1_36) kk) ?_
  show Go p e below _ (s₁.setTop (mkF m 37 #[.val (.int p1)] [(.int (4 : Int32)), (.int p1)]))
  refine Go.st (fun _ kk => XS.icmpYes X0.here hx rfl (pc0 := 37) (pc' := 44) rfl (hb hby d1_37) rfl (feq hd4).2 (by decide) (by decide) kk) ?_
  show Go p e below _ (s₁.setTop (mkF m 44 #[.val (.int p1)] []))
  refine Go.st (fun _ kk => XS.iloadN X0.here hx rfl (hb hby d1_44) rfl  kk) ?_
  show Go p e below _ (s₁.setTop (mkF m 45 #[.val (.int p1)] [(.int p1)]))
  refine Go.st (fun _ kk => XS.iconst X0.here hx rfl (hb hby d1_45) kk) ?_
  show Go p e below _ (s₁.setTop (mkF m 46 #[.val (.int p1)] [(.int (5 : Int32)), (.int p1)]))
  refine Go.st (fun _ kk => XS.icmpYes X0.here hx rfl (pc0 := 46) (pc' := 53) rfl (hb hby d1_46) rfl (feq hd5).2 (by decide) (by decide) kk) ?_
  show Go p e below _ (s₁.setTop (mkF m 53 #[.val (.int p1)] []))
  refine Go.st (fun _ kk => XS.iloadN X0.here hx rfl (hb hby d1_53) rfl  kk) ?_
  show Go p e below _ (s₁.setTop (mkF m 54 #[.val (.int p1)] [(.int p1)]))
  refine Go.st (fun _ kk => XS.bipush X0.here hx rfl (hb hby d1_54) kk) ?_
  show Go p e below _ (s₁.setTop (mkF m 56 #[.val (.int p1)] [(.int (6 : Int32)), (.int p1)]))
  refine Go.st (fun _ kk => XS.icmpNo X0.here hx rfl (hb hby d1_56) rfl (teq hd6).2 kk) ?_
  show Go p e below _ (s₁.setTop (mkF m 59 #[.val (.int p1)] []))
  obtain ⟨T3, X3, e3, st3⟩ := getS2 X0 hx hZ hown (host := "") (Or.inl (hw _ (List.mem_of_getElem? (i := 20) rfl))) Via.refl e0 S_UNICODE (g := (mkF m 59 #[.val (.int p1)] [])) rfl (hb hby d1_59)
  refine Go.st st3 ?_
  show Go p e below _ (T3.setTop (mkF m 62 #[.val (.int p1)] [(.ref w2)]))
  exact Go.ret (Q := Qm1_fffffft Z p1 w2 h0 n0) X3 (v := some (.ref w2)) (fun h => by rw [Bd.returns] at h; cases h) Bd.notSynchronized (fun fs hr => retOut X3 hx Bd.returns rfl (Or.inr (Or.inr (Or.inr (Or.inr ⟨rfl, rfl, rfl⟩)))) (hb hby d1_62) hr) e3 ⟨rfl, N0, rfl⟩ (by decide) (by decide)
def Qm1_fffffff (Z : State) (p1 : Int32) (w2 : Addr) (h0 : Heap) (n0 : Nat) (v : Option Value) (h : Heap) (L : List Loc) : Prop := v = some (.ref w2) ∧ Fr n0 L ∧ h = h0
set_option maxRecDepth 65536 in
set_option maxHeartbeats 40000000 in
theorem rm1_fffffff (l : Launch) (Z : State) (a0 : Array Value) (hw : ∀ d ∈ tables_1, d.before a0 Z = true) (ws : List Jvm.Cond) (p1 : Int32) (w2 : Addr) (h0 : Heap) (n0 : Nat) (Z0 : n0 ≤ h0.size) (hd0 : ¬ (p1 = (0 : Int32))) (hd1 : ¬ (p1 = (1 : Int32))) (hd2 : ¬ (p1 = (2 : Int32))) (hd3 : ¬ (p1 = (3 : Int32))) (hd4 : ¬ (p1 = (4 : Int32))) (hd5 : ¬ (p1 = (5 : Int32))) (hd6 : ¬ (p1 = (6 : Int32))) (S_BYTE_VECTOR : Sta Z h0 "com/example/zarnitsa/zarnitsa/FastTemplate$Type" "BYTE_VECTOR" "Lcom/example/zarnitsa/zarnitsa/FastTemplate$Type;" (.ref w2)) :
    MetFree l (⟨"com/example/zarnitsa/zarnitsa/TypeIsIntegerPinLaw", "pick", "(I)Lcom/example/zarnitsa/zarnitsa/FastTemplate$Type;"⟩ : MethodName) (head1 (Jvm.Cond.code (⟨"com/example/zarnitsa/zarnitsa/TypeIsIntegerPinLaw", "pick", "(I)Lcom/example/zarnitsa/zarnitsa/FastTemplate$Type;"⟩ : MethodName) method_2_code 1 (some (.object "com/example/zarnitsa/zarnitsa/FastTemplate$Type")) :: ws) ({ frames := 0, cells := 0, slots := 0, locals := 0 } : Room)) (fun a U => a = #[(.int p1)] ∧ Z.Warmed39 U.vm ∧ U.heap = h0) (fun _ _ _ _ _ => True) (fun _ U o U' => ∃ v L, o = .returned v ∧ Qm1_fffffff Z p1 w2 h0 n0 v U'.heap L ∧ FrameEnd U o U' L ({ frames := 0, cells := 0, slots := 0, locals := 0 } : Room).cells ({ frames := 0, cells := 0, slots := 0, locals := 0 } : Room).slots) := by
  refine MetFree.of_bodySF (plainFor_of_name pn_1) hisR ?_
  intro p e s m args below meth c s₁ Bd hml0 hP hK
  obtain ⟨rfl, hZ, hh⟩ := hP
  have hx := Bd.exec
  have hby := Bd.bytes
  have hml : c.maxLocals = 1 := hml0
  have hown : s.vm.findClass "com/example/zarnitsa/zarnitsa/TypeIsIntegerPinLaw" = some m.cls := findClass_of_methodNamed Bd.named
  have hnm := (name_of_methodNamed Bd.named Bd.method).1
  have X0 : Stand p l e ({ frames := 0, cells := 0, slots := 0, locals := 0 } : Room) s m #[(.int p1)] below meth c s₁ [] 0 0 := Stand.of_body Bd
  have e0 : s₁.heap = h0 := by rw [← hh, Bd.state]; rfl
  have N0 := Fr.nil n0
  refine Go.en (ef_1 m p1) ?_
  show Go p e below _ (s₁.setTop (mkF m 0 #[.val (.int p1)] []))
  refine Go.st (fun _ kk => XS.iloadN X0.here hx rfl (hb hby d1_0) rfl  kk) ?_
  show Go p e below _ (s₁.setTop (mkF m 1 #[.val (.int p1)] [(.int p1)]))
  refine Go.st (fun _ kk => XS.ifYes X0.here hx rfl (pc0 := 1) (pc' := 8) rfl (hb hby d1_1) rfl ((if0 _ _).trans (feq hd0).2) (by decide) (by decide) kk) ?_
  show Go p e below _ (s₁.setTop (mkF m 8 #[.val (.int p1)] []))
  refine Go.st (fun _ kk => XS.iloadN X0.here hx rfl (hb hby d1_8) rfl  kk) ?_
  show Go p e below _ (s₁.setTop (mkF m 9 #[.val (.int p1)] [(.int p1)]))
  refine Go.st (fun _ kk => XS.iconst X0.here hx rfl (hb hby d1_9) kk) ?_
  show Go p e below _ (s₁.setTop (mkF m 10 #[.val (.int p1)] [(.int (1 : Int32)), (.int p1)]))
  refine Go.st (fun _ kk => XS.icmpYes X0.here hx rfl (pc0 := 10) (pc' := 17) rfl (hb hby d1_10) rfl (feq hd1).2 (by decide) (by decide) kk) ?_
  show Go p e below _ (s₁.setTop (mkF m 17 #[.val (.int p1)] []))
  refine Go.st (fun _ kk => XS.iloadN X0.here hx rfl (hb hby d1_17) rfl  kk) ?_
  show Go p e below _ (s₁.setTop (mkF m 18 #[.val (.int p1)] [(.int p1)]))
  refine Go.st (fun _ kk => XS.iconst X0.here hx rfl (hb hby d1_18) kk) ?_
  show Go p e below _ (s₁.setTop (mkF m 19 #[.val (.int p1)] [(.int (2 : Int32)), (.int p1)]))
  refine Go.st (fun _ kk => XS.icmpYes X0.here hx rfl (pc0 := 19) (pc' := 26) rfl (hb hby d1_19) rfl (feq hd2).2 (by decide) (by decide) kk) ?_
  show Go p e below _ (s₁.setTop (mkF m 26 #[.val (.int p1)] []))
  refine Go.st (fun _ kk => XS.iloadN X0.here hx rfl (hb hby d1_26) rfl  kk) ?_
  show Go p e below _ (s₁.setTop (mkF m 27 #[.val (.int p1)] [(.int p1)]))
  refine Go.st (fun _ kk => XS.iconst X0.here hx rfl (hb hby d1_27) kk) ?_
  show Go p e below _ (s₁.setTop (mkF m 28 #[.val (.int p1)] [(.int (3 : Int32)), (.int p1)]))
  refine Go.st (fun _ kk => XS.icmpYes X0.here hx rfl (pc0 := 28) (pc' := 35) rfl (hb hby d1_28) rfl (feq hd3).2 (by decide) (by decide) kk) ?_
  show Go p e below _ (s₁.setTop (mkF m 35 #[.val (.int p1)] []))
  refine Go.st (fun _ kk => XS.iloadN X0.here hx rfl (hb hby d1_35) rfl  kk) ?_
  show Go p e below _ (s₁.setTop (mkF m 36 #[.val (.int p1)] [(.int p1)]))
  refine Go.st (fun _ kk => XS.iconst X0.here hx rfl (hb hby d1_36) kk) ?_
  show Go p e below _ (s₁.setTop (mkF m 37 #[.val (.int p1)] [(.int (4 : Int32)), (.int p1)]))
  refine Go.st (fun _ kk => XS.icmpYes X0.here hx rfl (pc0 := 37) (pc' := 44) rfl (hb hby d1_37) rfl (feq hd4).2 (by decide) (by decide) kk) ?_
  show Go p e below _ (s₁.setTop (mkF m 44 #[.val (.int p1)] []))
  refine Go.st (fun _ kk => XS.iloadN X0.here hx rfl (hb hby d1_44) rfl  kk) ?_
  show Go p e below _ (s₁.setTop (mkF m 45 #[.val (.int p1)] [(.int p1)]))
  refine Go.st (fun _ kk => XS.iconst X0.here hx rfl (hb hby d1_45) kk) ?_
  show Go p e below _ (s₁.setTop (mkF m 46 #[.val (.int p1)] [(.int (5 : Int32)), (.int p1)]))
  refine Go.st (fun _ kk => XS.icmpYes X0.here hx rfl (pc0 := 46) (pc' := 53) rfl (hb hby d1_46) rfl (feq hd5).2 (by decide) (by decide) kk) ?_
  show Go p e below _ (s₁.setTop (mkF m 53 #[.val (.int p1)] []))
  refine Go.st (fun _ kk => XS.iloadN X0.here hx rfl (hb hby d1_53) rfl  kk) ?_
  show Go p e below _ (s₁.setTop (mkF m 54 #[.val (.int p1)] [(.int p1)]))
  refine Go.st (fun _ kk => XS.bipush X0.here hx rfl (hb hby d1_54) kk) ?_
  show Go p e below _ (s₁.setTop (mkF m 56 #[.val (.int p1)] [(.int (6 : Int32)), (.int p1)]))
  refine Go.st (fun _ kk => XS.icmpYes X0.here hx rfl (pc0 := 56) (pc' := 63) rfl (hb hby d1_56) rfl (feq hd6).2 (by decide) (by decide) kk) ?_
  show Go p e below _ (s₁.setTop (mkF m 63 #[.val (.int p1)] []))
  obtain ⟨T3, X3, e3, st3⟩ := getS2 X0 hx hZ hown (host := "") (Or.inl (hw _ (List.mem_of_getElem? (i := 22) rfl))) Via.refl e0 S_BYTE_VECTOR (g := (mkF m 63 #[.val (.int p1)] [])) rfl (hb hby d1_63)
  refine Go.st st3 ?_
  show Go p e below _ (T3.setTop (mkF m 66 #[.val (.int p1)] [(.ref w2)]))
  exact Go.ret (Q := Qm1_fffffff Z p1 w2 h0 n0) X3 (v := some (.ref w2)) (fun h => by rw [Bd.returns] at h; cases h) Bd.notSynchronized (fun fs hr => retOut X3 hx Bd.returns rfl (Or.inr (Or.inr (Or.inr (Or.inr ⟨rfl, rfl, rfl⟩)))) (hb hby d1_66) hr) e3 ⟨rfl, N0, rfl⟩ (by decide) (by decide)
def Qm2_t (Z : State) (a1 : Addr) (w2 : Addr) (h0 : Heap) (n0 : Nat) (v : Option Value) (h : Heap) (L : List Loc) : Prop := v = some (.int (1 : Int32)) ∧ Fr n0 L ∧ h = h0
set_option maxRecDepth 65536 in
set_option maxHeartbeats 40000000 in
theorem rm2_t (l : Launch) (Z : State) (a0 : Array Value) (hw : ∀ d ∈ tables_1, d.before a0 Z = true) (ws : List Jvm.Cond) (a1 : Addr) (w2 : Addr) (h0 : Heap) (n0 : Nat) (Z0 : n0 ≤ h0.size) (S_INT32 : Sta Z h0 "com/example/zarnitsa/zarnitsa/FastTemplate$Type" "INT32" "Lcom/example/zarnitsa/zarnitsa/FastTemplate$Type;" (.ref w2)) (hd0 : a1 = w2) :
    MetFree l (⟨"com/example/zarnitsa/zarnitsa/FastTemplate$Type", "isInteger", "()Z"⟩ : MethodName) (head1 (Jvm.Cond.code (⟨"com/example/zarnitsa/zarnitsa/FastTemplate$Type", "isInteger", "()Z"⟩ : MethodName) prog_42_method_4_code 1 (some .boolean) :: ws) ({ frames := 0, cells := 0, slots := 0, locals := 0 } : Room)) (fun a U => a = #[(.ref a1)] ∧ Z.Warmed39 U.vm ∧ U.heap = h0) (fun _ _ _ _ _ => True) (fun _ U o U' => ∃ v L, o = .returned v ∧ Qm2_t Z a1 w2 h0 n0 v U'.heap L ∧ FrameEnd U o U' L ({ frames := 0, cells := 0, slots := 0, locals := 0 } : Room).cells ({ frames := 0, cells := 0, slots := 0, locals := 0 } : Room).slots) := by
  refine MetFree.of_bodySF (plainFor_of_name pn_2) hisR ?_
  intro p e s m args below meth c s₁ Bd hml0 hP hK
  obtain ⟨rfl, hZ, hh⟩ := hP
  have hx := Bd.exec
  have hby := Bd.bytes
  have hml : c.maxLocals = 1 := hml0
  have hown : s.vm.findClass "com/example/zarnitsa/zarnitsa/FastTemplate$Type" = some m.cls := findClass_of_methodNamed Bd.named
  have hnm := (name_of_methodNamed Bd.named Bd.method).1
  have X0 : Stand p l e ({ frames := 0, cells := 0, slots := 0, locals := 0 } : Room) s m #[(.ref a1)] below meth c s₁ [] 0 0 := Stand.of_body Bd
  have e0 : s₁.heap = h0 := by rw [← hh, Bd.state]; rfl
  have N0 := Fr.nil n0
  refine Go.en (ef_2 m a1) ?_
  show Go p e below _ (s₁.setTop (mkF m 0 #[.val (.ref a1)] []))
  refine Go.st (fun _ kk => XS.aloadN X0.here hx rfl (hb hby d2_0) rfl rfl  kk) ?_
  show Go p e below _ (s₁.setTop (mkF m 1 #[.val (.ref a1)] [(.ref a1)]))
  obtain ⟨T3, X3, e3, st3⟩ := getS2 X0 hx hZ hown (host := "") (Or.inl (hw _ (List.mem_of_getElem? (i := 12) rfl))) Via.refl e0 S_INT32 (g := (mkF m 1 #[.val (.ref a1)] [(.ref a1)])) rfl (hb hby d2_1)
  refine Go.st st3 ?_
  show Go p e below _ (T3.setTop (mkF m 4 #[.val (.ref a1)] [(.ref w2), (.ref a1)]))
  refine Go.st (fun _ kk => Jvm.RoadKit.acmp (g := (mkF m 4 #[.val (.ref a1)] [(.ref w2), (.ref a1)])) X3 hx rfl rfl rfl (pc0 := 4) (pc' := 28) (same := true) rfl (hb hby d2_4) rfl (decide_eq_true (congrArg Value.ref hd0)) (by decide) (by decide) kk) ?_
  show Go p e below _ (T3.setTop (mkF m 28 #[.val (.ref a1)] []))
  refine Go.st (fun _ kk => XS.iconst X3.here hx rfl (hb hby d2_28) kk) ?_
  show Go p e below _ (T3.setTop (mkF m 29 #[.val (.ref a1)] [(.int (1 : Int32))]))
  refine Go.st (fun _ kk => XS.goto X3.here hx rfl (pc0 := 29) (pc' := 33) rfl (hb hby d2_29) (by decide) (by decide) kk) ?_
  show Go p e below _ (T3.setTop (mkF m 33 #[.val (.ref a1)] [(.int (1 : Int32))]))
  exact Go.ret (Q := Qm2_t Z a1 w2 h0 n0) X3 (v := some (.int (1 : Int32))) (fun h => by rw [Bd.returns] at h; cases h) Bd.notSynchronized (fun fs hr => retN X3 hx (t := .boolean) Bd.returns (by simp) (hb hby d2_33) hr) e3 ⟨rfl, N0, rfl⟩ (by decide) (by decide)
def Qm2_ft (Z : State) (a1 : Addr) (w2 : Addr) (w4 : Addr) (h0 : Heap) (n0 : Nat) (v : Option Value) (h : Heap) (L : List Loc) : Prop := v = some (.int (1 : Int32)) ∧ Fr n0 L ∧ h = h0
set_option maxRecDepth 65536 in
set_option maxHeartbeats 40000000 in
theorem rm2_ft (l : Launch) (Z : State) (a0 : Array Value) (hw : ∀ d ∈ tables_1, d.before a0 Z = true) (ws : List Jvm.Cond) (a1 : Addr) (w2 : Addr) (w4 : Addr) (h0 : Heap) (n0 : Nat) (Z0 : n0 ≤ h0.size) (S_INT32 : Sta Z h0 "com/example/zarnitsa/zarnitsa/FastTemplate$Type" "INT32" "Lcom/example/zarnitsa/zarnitsa/FastTemplate$Type;" (.ref w2)) (hd0 : ¬ (a1 = w2)) (S_UINT32 : Sta Z h0 "com/example/zarnitsa/zarnitsa/FastTemplate$Type" "UINT32" "Lcom/example/zarnitsa/zarnitsa/FastTemplate$Type;" (.ref w4)) (hd1 : a1 = w4) :
    MetFree l (⟨"com/example/zarnitsa/zarnitsa/FastTemplate$Type", "isInteger", "()Z"⟩ : MethodName) (head1 (Jvm.Cond.code (⟨"com/example/zarnitsa/zarnitsa/FastTemplate$Type", "isInteger", "()Z"⟩ : MethodName) prog_42_method_4_code 1 (some .boolean) :: ws) ({ frames := 0, cells := 0, slots := 0, locals := 0 } : Room)) (fun a U => a = #[(.ref a1)] ∧ Z.Warmed39 U.vm ∧ U.heap = h0) (fun _ _ _ _ _ => True) (fun _ U o U' => ∃ v L, o = .returned v ∧ Qm2_ft Z a1 w2 w4 h0 n0 v U'.heap L ∧ FrameEnd U o U' L ({ frames := 0, cells := 0, slots := 0, locals := 0 } : Room).cells ({ frames := 0, cells := 0, slots := 0, locals := 0 } : Room).slots) := by
  refine MetFree.of_bodySF (plainFor_of_name pn_2) hisR ?_
  intro p e s m args below meth c s₁ Bd hml0 hP hK
  obtain ⟨rfl, hZ, hh⟩ := hP
  have hx := Bd.exec
  have hby := Bd.bytes
  have hml : c.maxLocals = 1 := hml0
  have hown : s.vm.findClass "com/example/zarnitsa/zarnitsa/FastTemplate$Type" = some m.cls := findClass_of_methodNamed Bd.named
  have hnm := (name_of_methodNamed Bd.named Bd.method).1
  have X0 : Stand p l e ({ frames := 0, cells := 0, slots := 0, locals := 0 } : Room) s m #[(.ref a1)] below meth c s₁ [] 0 0 := Stand.of_body Bd
  have e0 : s₁.heap = h0 := by rw [← hh, Bd.state]; rfl
  have N0 := Fr.nil n0
  refine Go.en (ef_2 m a1) ?_
  show Go p e below _ (s₁.setTop (mkF m 0 #[.val (.ref a1)] []))
  refine Go.st (fun _ kk => XS.aloadN X0.here hx rfl (hb hby d2_0) rfl rfl  kk) ?_
  show Go p e below _ (s₁.setTop (mkF m 1 #[.val (.ref a1)] [(.ref a1)]))
  obtain ⟨T3, X3, e3, st3⟩ := getS2 X0 hx hZ hown (host := "") (Or.inl (hw _ (List.mem_of_getElem? (i := 12) rfl))) Via.refl e0 S_INT32 (g := (mkF m 1 #[.val (.ref a1)] [(.ref a1)])) rfl (hb hby d2_1)
  refine Go.st st3 ?_
  show Go p e below _ (T3.setTop (mkF m 4 #[.val (.ref a1)] [(.ref w2), (.ref a1)]))
  refine Go.st (fun _ kk => Jvm.RoadKit.acmp (g := (mkF m 4 #[.val (.ref a1)] [(.ref w2), (.ref a1)])) X3 hx rfl rfl rfl (pc0 := 4) (pc' := 7) (same := false) rfl (hb hby d2_4) rfl (decide_eq_false fun q => hd0 (Value.ref.inj q)) (by decide) (by decide) kk) ?_
  show Go p e below _ (T3.setTop (mkF m 7 #[.val (.ref a1)] []))
  refine Go.st (fun _ kk => XS.aloadN X3.here hx rfl (hb hby d2_7) rfl rfl  kk) ?_
  show Go p e below _ (T3.setTop (mkF m 8 #[.val (.ref a1)] [(.ref a1)]))
  obtain ⟨T5, X5, e5, st5⟩ := getS2 X3 hx hZ hown (host := "") (Or.inl (hw _ (List.mem_of_getElem? (i := 15) rfl))) Via.refl e3 S_UINT32 (g := (mkF m 8 #[.val (.ref a1)] [(.ref a1)])) rfl (hb hby d2_8)
  refine Go.st st5 ?_
  show Go p e below _ (T5.setTop (mkF m 11 #[.val (.ref a1)] [(.ref w4), (.ref a1)]))
  refine Go.st (fun _ kk => Jvm.RoadKit.acmp (g := (mkF m 11 #[.val (.ref a1)] [(.ref w4), (.ref a1)])) X5 hx rfl rfl rfl (pc0 := 11) (pc' := 28) (same := true) rfl (hb hby d2_11) rfl (decide_eq_true (congrArg Value.ref hd1)) (by decide) (by decide) kk) ?_
  show Go p e below _ (T5.setTop (mkF m 28 #[.val (.ref a1)] []))
  refine Go.st (fun _ kk => XS.iconst X5.here hx rfl (hb hby d2_28) kk) ?_
  show Go p e below _ (T5.setTop (mkF m 29 #[.val (.ref a1)] [(.int (1 : Int32))]))
  refine Go.st (fun _ kk => XS.goto X5.here hx rfl (pc0 := 29) (pc' := 33) rfl (hb hby d2_29) (by decide) (by decide) kk) ?_
  show Go p e below _ (T5.setTop (mkF m 33 #[.val (.ref a1)] [(.int (1 : Int32))]))
  exact Go.ret (Q := Qm2_ft Z a1 w2 w4 h0 n0) X5 (v := some (.int (1 : Int32))) (fun h => by rw [Bd.returns] at h; cases h) Bd.notSynchronized (fun fs hr => retN X5 hx (t := .boolean) Bd.returns (by simp) (hb hby d2_33) hr) e5 ⟨rfl, N0, rfl⟩ (by decide) (by decide)
def Qm2_fft (Z : State) (a1 : Addr) (w2 : Addr) (w4 : Addr) (w6 : Addr) (h0 : Heap) (n0 : Nat) (v : Option Value) (h : Heap) (L : List Loc) : Prop := v = some (.int (1 : Int32)) ∧ Fr n0 L ∧ h = h0
set_option maxRecDepth 65536 in
set_option maxHeartbeats 40000000 in
theorem rm2_fft (l : Launch) (Z : State) (a0 : Array Value) (hw : ∀ d ∈ tables_1, d.before a0 Z = true) (ws : List Jvm.Cond) (a1 : Addr) (w2 : Addr) (w4 : Addr) (w6 : Addr) (h0 : Heap) (n0 : Nat) (Z0 : n0 ≤ h0.size) (S_INT32 : Sta Z h0 "com/example/zarnitsa/zarnitsa/FastTemplate$Type" "INT32" "Lcom/example/zarnitsa/zarnitsa/FastTemplate$Type;" (.ref w2)) (hd0 : ¬ (a1 = w2)) (S_UINT32 : Sta Z h0 "com/example/zarnitsa/zarnitsa/FastTemplate$Type" "UINT32" "Lcom/example/zarnitsa/zarnitsa/FastTemplate$Type;" (.ref w4)) (hd1 : ¬ (a1 = w4)) (S_INT64 : Sta Z h0 "com/example/zarnitsa/zarnitsa/FastTemplate$Type" "INT64" "Lcom/example/zarnitsa/zarnitsa/FastTemplate$Type;" (.ref w6)) (hd2 : a1 = w6) :
    MetFree l (⟨"com/example/zarnitsa/zarnitsa/FastTemplate$Type", "isInteger", "()Z"⟩ : MethodName) (head1 (Jvm.Cond.code (⟨"com/example/zarnitsa/zarnitsa/FastTemplate$Type", "isInteger", "()Z"⟩ : MethodName) prog_42_method_4_code 1 (some .boolean) :: ws) ({ frames := 0, cells := 0, slots := 0, locals := 0 } : Room)) (fun a U => a = #[(.ref a1)] ∧ Z.Warmed39 U.vm ∧ U.heap = h0) (fun _ _ _ _ _ => True) (fun _ U o U' => ∃ v L, o = .returned v ∧ Qm2_fft Z a1 w2 w4 w6 h0 n0 v U'.heap L ∧ FrameEnd U o U' L ({ frames := 0, cells := 0, slots := 0, locals := 0 } : Room).cells ({ frames := 0, cells := 0, slots := 0, locals := 0 } : Room).slots) := by
  refine MetFree.of_bodySF (plainFor_of_name pn_2) hisR ?_
  intro p e s m args below meth c s₁ Bd hml0 hP hK
  obtain ⟨rfl, hZ, hh⟩ := hP
  have hx := Bd.exec
  have hby := Bd.bytes
  have hml : c.maxLocals = 1 := hml0
  have hown : s.vm.findClass "com/example/zarnitsa/zarnitsa/FastTemplate$Type" = some m.cls := findClass_of_methodNamed Bd.named
  have hnm := (name_of_methodNamed Bd.named Bd.method).1
  have X0 : Stand p l e ({ frames := 0, cells := 0, slots := 0, locals := 0 } : Room) s m #[(.ref a1)] below meth c s₁ [] 0 0 := Stand.of_body Bd
  have e0 : s₁.heap = h0 := by rw [← hh, Bd.state]; rfl
  have N0 := Fr.nil n0
  refine Go.en (ef_2 m a1) ?_
  show Go p e below _ (s₁.setTop (mkF m 0 #[.val (.ref a1)] []))
  refine Go.st (fun _ kk => XS.aloadN X0.here hx rfl (hb hby d2_0) rfl rfl  kk) ?_
  show Go p e below _ (s₁.setTop (mkF m 1 #[.val (.ref a1)] [(.ref a1)]))
  obtain ⟨T3, X3, e3, st3⟩ := getS2 X0 hx hZ hown (host := "") (Or.inl (hw _ (List.mem_of_getElem? (i := 12) rfl))) Via.refl e0 S_INT32 (g := (mkF m 1 #[.val (.ref a1)] [(.ref a1)])) rfl (hb hby d2_1)
  refine Go.st st3 ?_
  show Go p e below _ (T3.setTop (mkF m 4 #[.val (.ref a1)] [(.ref w2), (.ref a1)]))
  refine Go.st (fun _ kk => Jvm.RoadKit.acmp (g := (mkF m 4 #[.val (.ref a1)] [(.ref w2), (.ref a1)])) X3 hx rfl rfl rfl (pc0 := 4) (pc' := 7) (same := false) rfl (hb hby d2_4) rfl (decide_eq_false fun q => hd0 (Value.ref.inj q)) (by decide) (by decide) kk) ?_
  show Go p e below _ (T3.setTop (mkF m 7 #[.val (.ref a1)] []))
  refine Go.st (fun _ kk => XS.aloadN X3.here hx rfl (hb hby d2_7) rfl rfl  kk) ?_
  show Go p e below _ (T3.setTop (mkF m 8 #[.val (.ref a1)] [(.ref a1)]))
  obtain ⟨T5, X5, e5, st5⟩ := getS2 X3 hx hZ hown (host := "") (Or.inl (hw _ (List.mem_of_getElem? (i := 15) rfl))) Via.refl e3 S_UINT32 (g := (mkF m 8 #[.val (.ref a1)] [(.ref a1)])) rfl (hb hby d2_8)
  refine Go.st st5 ?_
  show Go p e below _ (T5.setTop (mkF m 11 #[.val (.ref a1)] [(.ref w4), (.ref a1)]))
  refine Go.st (fun _ kk => Jvm.RoadKit.acmp (g := (mkF m 11 #[.val (.ref a1)] [(.ref w4), (.ref a1)])) X5 hx rfl rfl rfl (pc0 := 11) (pc' := 14) (same := false) rfl (hb hby d2_11) rfl (decide_eq_false fun q => hd1 (Value.ref.inj q)) (by decide) (by decide) kk) ?_
  show Go p e below _ (T5.setTop (mkF m 14 #[.val (.ref a1)] []))
  refine Go.st (fun _ kk => XS.aloadN X5.here hx rfl (hb hby d2_14) rfl rfl  kk) ?_
  show Go p e below _ (T5.setTop (mkF m 15 #[.val (.ref a1)] [(.ref a1)]))
  obtain ⟨T7, X7, e7, st7⟩ := getS2 X5 hx hZ hown (host := "") (Or.inl (hw _ (List.mem_of_getElem? (i := 17) rfl))) Via.refl e5 S_INT64 (g := (mkF m 15 #[.val (.ref a1)] [(.ref a1)])) rfl (hb hby d2_15)
  refine Go.st st7 ?_
  show Go p e below _ (T7.setTop (mkF m 18 #[.val (.ref a1)] [(.ref w6), (.ref a1)]))
  refine Go.st (fun _ kk => Jvm.RoadKit.acmp (g := (mkF m 18 #[.val (.ref a1)] [(.ref w6), (.ref a1)])) X7 hx rfl rfl rfl (pc0 := 18) (pc' := 28) (same := true) rfl (hb hby d2_18) rfl (decide_eq_true (congrArg Value.ref hd2)) (by decide) (by decide) kk) ?_
  show Go p e below _ (T7.setTop (mkF m 28 #[.val (.ref a1)] []))
  refine Go.st (fun _ kk => XS.iconst X7.here hx rfl (hb hby d2_28) kk) ?_
  show Go p e below _ (T7.setTop (mkF m 29 #[.val (.ref a1)] [(.int (1 : Int32))]))
  refine Go.st (fun _ kk => XS.goto X7.here hx rfl (pc0 := 29) (pc' := 33) rfl (hb hby d2_29) (by decide) (by decide) kk) ?_
  show Go p e below _ (T7.setTop (mkF m 33 #[.val (.ref a1)] [(.int (1 : Int32))]))
  exact Go.ret (Q := Qm2_fft Z a1 w2 w4 w6 h0 n0) X7 (v := some (.int (1 : Int32))) (fun h => by rw [Bd.returns] at h; cases h) Bd.notSynchronized (fun fs hr => retN X7 hx (t := .boolean) Bd.returns (by simp) (hb hby d2_33) hr) e7 ⟨rfl, N0, rfl⟩ (by decide) (by decide)
def Qm2_ffft (Z : State) (a1 : Addr) (w2 : Addr) (w4 : Addr) (w6 : Addr) (w8 : Addr) (h0 : Heap) (n0 : Nat) (v : Option Value) (h : Heap) (L : List Loc) : Prop := v = some (.int (1 : Int32)) ∧ Fr n0 L ∧ h = h0
set_option maxRecDepth 65536 in
set_option maxHeartbeats 40000000 in
theorem rm2_ffft (l : Launch) (Z : State) (a0 : Array Value) (hw : ∀ d ∈ tables_1, d.before a0 Z = true) (ws : List Jvm.Cond) (a1 : Addr) (w2 : Addr) (w4 : Addr) (w6 : Addr) (w8 : Addr) (h0 : Heap) (n0 : Nat) (Z0 : n0 ≤ h0.size) (S_INT32 : Sta Z h0 "com/example/zarnitsa/zarnitsa/FastTemplate$Type" "INT32" "Lcom/example/zarnitsa/zarnitsa/FastTemplate$Type;" (.ref w2)) (hd0 : ¬ (a1 = w2)) (S_UINT32 : Sta Z h0 "com/example/zarnitsa/zarnitsa/FastTemplate$Type" "UINT32" "Lcom/example/zarnitsa/zarnitsa/FastTemplate$Type;" (.ref w4)) (hd1 : ¬ (a1 = w4)) (S_INT64 : Sta Z h0 "com/example/zarnitsa/zarnitsa/FastTemplate$Type" "INT64" "Lcom/example/zarnitsa/zarnitsa/FastTemplate$Type;" (.ref w6)) (hd2 : ¬ (a1 = w6)) (S_UINT64 : Sta Z h0 "com/example/zarnitsa/zarnitsa/FastTemplate$Type" "UINT64" "Lcom/example/zarnitsa/zarnitsa/FastTemplate$Type;" (.ref w8)) (hd3 : a1 = w8) :
    MetFree l (⟨"com/example/zarnitsa/zarnitsa/FastTemplate$Type", "isInteger", "()Z"⟩ : MethodName) (head1 (Jvm.Cond.code (⟨"com/example/zarnitsa/zarnitsa/FastTemplate$Type", "isInteger", "()Z"⟩ : MethodName) prog_42_method_4_code 1 (some .boolean) :: ws) ({ frames := 0, cells := 0, slots := 0, locals := 0 } : Room)) (fun a U => a = #[(.ref a1)] ∧ Z.Warmed39 U.vm ∧ U.heap = h0) (fun _ _ _ _ _ => True) (fun _ U o U' => ∃ v L, o = .returned v ∧ Qm2_ffft Z a1 w2 w4 w6 w8 h0 n0 v U'.heap L ∧ FrameEnd U o U' L ({ frames := 0, cells := 0, slots := 0, locals := 0 } : Room).cells ({ frames := 0, cells := 0, slots := 0, locals := 0 } : Room).slots) := by
  refine MetFree.of_bodySF (plainFor_of_name pn_2) hisR ?_
  intro p e s m args below meth c s₁ Bd hml0 hP hK
  obtain ⟨rfl, hZ, hh⟩ := hP
  have hx := Bd.exec
  have hby := Bd.bytes
  have hml : c.maxLocals = 1 := hml0
  have hown : s.vm.findClass "com/example/zarnitsa/zarnitsa/FastTemplate$Type" = some m.cls := findClass_of_methodNamed Bd.named
  have hnm := (name_of_methodNamed Bd.named Bd.method).1
  have X0 : Stand p l e ({ frames := 0, cells := 0, slots := 0, locals := 0 } : Room) s m #[(.ref a1)] below meth c s₁ [] 0 0 := Stand.of_body Bd
  have e0 : s₁.heap = h0 := by rw [← hh, Bd.state]; rfl
  have N0 := Fr.nil n0
  refine Go.en (ef_2 m a1) ?_
  show Go p e below _ (s₁.setTop (mkF m 0 #[.val (.ref a1)] []))
  refine Go.st (fun _ kk => XS.aloadN X0.here hx rfl (hb hby d2_0) rfl rfl  kk) ?_
  show Go p e below _ (s₁.setTop (mkF m 1 #[.val (.ref a1)] [(.ref a1)]))
  obtain ⟨T3, X3, e3, st3⟩ := getS2 X0 hx hZ hown (host := "") (Or.inl (hw _ (List.mem_of_getElem? (i := 12) rfl))) Via.refl e0 S_INT32 (g := (mkF m 1 #[.val (.ref a1)] [(.ref a1)])) rfl (hb hby d2_1)
  refine Go.st st3 ?_
  show Go p e below _ (T3.setTop (mkF m 4 #[.val (.ref a1)] [(.ref w2), (.ref a1)]))
  refine Go.st (fun _ kk => Jvm.RoadKit.acmp (g := (mkF m 4 #[.val (.ref a1)] [(.ref w2), (.ref a1)])) X3 hx rfl rfl rfl (pc0 := 4) (pc' := 7) (same := false) rfl (hb hby d2_4) rfl (decide_eq_false fun q => hd0 (Value.ref.inj q)) (by decide) (by decide) kk) ?_
  show Go p e below _ (T3.setTop (mkF m 7 #[.val (.ref a1)] []))
  refine Go.st (fun _ kk => XS.aloadN X3.here hx rfl (hb hby d2_7) rfl rfl  kk) ?_
  show Go p e below _ (T3.setTop (mkF m 8 #[.val (.ref a1)] [(.ref a1)]))
  obtain ⟨T5, X5, e5, st5⟩ := getS2 X3 hx hZ hown (host := "") (Or.inl (hw _ (List.mem_of_getElem? (i := 15) rfl))) Via.refl e3 S_UINT32 (g := (mkF m 8 #[.val (.ref a1)] [(.ref a1)])) rfl (hb hby d2_8)
  refine Go.st st5 ?_
  show Go p e below _ (T5.setTop (mkF m 11 #[.val (.ref a1)] [(.ref w4), (.ref a1)]))
  refine Go.st (fun _ kk => Jvm.RoadKit.acmp (g := (mkF m 11 #[.val (.ref a1)] [(.ref w4), (.ref a1)])) X5 hx rfl rfl rfl (pc0 := 11) (pc' := 14) (same := false) rfl (hb hby d2_11) rfl (decide_eq_false fun q => hd1 (Value.ref.inj q)) (by decide) (by decide) kk) ?_
  show Go p e below _ (T5.setTop (mkF m 14 #[.val (.ref a1)] []))
  refine Go.st (fun _ kk => XS.aloadN X5.here hx rfl (hb hby d2_14) rfl rfl  kk) ?_
  show Go p e below _ (T5.setTop (mkF m 15 #[.val (.ref a1)] [(.ref a1)]))
  obtain ⟨T7, X7, e7, st7⟩ := getS2 X5 hx hZ hown (host := "") (Or.inl (hw _ (List.mem_of_getElem? (i := 17) rfl))) Via.refl e5 S_INT64 (g := (mkF m 15 #[.val (.ref a1)] [(.ref a1)])) rfl (hb hby d2_15)
  refine Go.st st7 ?_
  show Go p e below _ (T7.setTop (mkF m 18 #[.val (.ref a1)] [(.ref w6), (.ref a1)]))
  refine Go.st (fun _ kk => Jvm.RoadKit.acmp (g := (mkF m 18 #[.val (.ref a1)] [(.ref w6), (.ref a1)])) X7 hx rfl rfl rfl (pc0 := 18) (pc' := 21) (same := false) rfl (hb hby d2_18) rfl (decide_eq_false fun q => hd2 (Value.ref.inj q)) (by decide) (by decide) kk) ?_
  show Go p e below _ (T7.setTop (mkF m 21 #[.val (.ref a1)] []))
  refine Go.st (fun _ kk => XS.aloadN X7.here hx rfl (hb hby d2_21) rfl rfl  kk) ?_
  show Go p e below _ (T7.setTop (mkF m 22 #[.val (.ref a1)] [(.ref a1)]))
  obtain ⟨T9, X9, e9, st9⟩ := getS2 X7 hx hZ hown (host := "") (Or.inl (hw _ (List.mem_of_getElem? (i := 19) rfl))) Via.refl e7 S_UINT64 (g := (mkF m 22 #[.val (.ref a1)] [(.ref a1)])) rfl (hb hby d2_22)
  refine Go.st st9 ?_
  show Go p e below _ (T9.setTop (mkF m 25 #[.val (.ref a1)] [(.ref w8), (.ref a1)]))
  refine Go.st (fun _ kk => Jvm.RoadKit.acmp (g := (mkF m 25 #[.val (.ref a1)] [(.ref w8), (.ref a1)])) X9 hx rfl rfl rfl (pc0 := 25) (pc' := 28) (same := true) rfl (hb hby d2_25) rfl (decide_eq_true (congrArg Value.ref hd3)) (by decide) (by decide) kk) ?_
  show Go p e below _ (T9.setTop (mkF m 28 #[.val (.ref a1)] []))
  refine Go.st (fun _ kk => XS.iconst X9.here hx rfl (hb hby d2_28) kk) ?_
  show Go p e below _ (T9.setTop (mkF m 29 #[.val (.ref a1)] [(.int (1 : Int32))]))
  refine Go.st (fun _ kk => XS.goto X9.here hx rfl (pc0 := 29) (pc' := 33) rfl (hb hby d2_29) (by decide) (by decide) kk) ?_
  show Go p e below _ (T9.setTop (mkF m 33 #[.val (.ref a1)] [(.int (1 : Int32))]))
  exact Go.ret (Q := Qm2_ffft Z a1 w2 w4 w6 w8 h0 n0) X9 (v := some (.int (1 : Int32))) (fun h => by rw [Bd.returns] at h; cases h) Bd.notSynchronized (fun fs hr => retN X9 hx (t := .boolean) Bd.returns (by simp) (hb hby d2_33) hr) e9 ⟨rfl, N0, rfl⟩ (by decide) (by decide)
def Qm2_ffff (Z : State) (a1 : Addr) (w2 : Addr) (w4 : Addr) (w6 : Addr) (w8 : Addr) (h0 : Heap) (n0 : Nat) (v : Option Value) (h : Heap) (L : List Loc) : Prop := v = some (.int (0 : Int32)) ∧ Fr n0 L ∧ h = h0
set_option maxRecDepth 65536 in
set_option maxHeartbeats 40000000 in
theorem rm2_ffff (l : Launch) (Z : State) (a0 : Array Value) (hw : ∀ d ∈ tables_1, d.before a0 Z = true) (ws : List Jvm.Cond) (a1 : Addr) (w2 : Addr) (w4 : Addr) (w6 : Addr) (w8 : Addr) (h0 : Heap) (n0 : Nat) (Z0 : n0 ≤ h0.size) (S_INT32 : Sta Z h0 "com/example/zarnitsa/zarnitsa/FastTemplate$Type" "INT32" "Lcom/example/zarnitsa/zarnitsa/FastTemplate$Type;" (.ref w2)) (hd0 : ¬ (a1 = w2)) (S_UINT32 : Sta Z h0 "com/example/zarnitsa/zarnitsa/FastTemplate$Type" "UINT32" "Lcom/example/zarnitsa/zarnitsa/FastTemplate$Type;" (.ref w4)) (hd1 : ¬ (a1 = w4)) (S_INT64 : Sta Z h0 "com/example/zarnitsa/zarnitsa/FastTemplate$Type" "INT64" "Lcom/example/zarnitsa/zarnitsa/FastTemplate$Type;" (.ref w6)) (hd2 : ¬ (a1 = w6)) (S_UINT64 : Sta Z h0 "com/example/zarnitsa/zarnitsa/FastTemplate$Type" "UINT64" "Lcom/example/zarnitsa/zarnitsa/FastTemplate$Type;" (.ref w8)) (hd3 : ¬ (a1 = w8)) :
    MetFree l (⟨"com/example/zarnitsa/zarnitsa/FastTemplate$Type", "isInteger", "()Z"⟩ : MethodName) (head1 (Jvm.Cond.code (⟨"com/example/zarnitsa/zarnitsa/FastTemplate$Type", "isInteger", "()Z"⟩ : MethodName) prog_42_method_4_code 1 (some .boolean) :: ws) ({ frames := 0, cells := 0, slots := 0, locals := 0 } : Room)) (fun a U => a = #[(.ref a1)] ∧ Z.Warmed39 U.vm ∧ U.heap = h0) (fun _ _ _ _ _ => True) (fun _ U o U' => ∃ v L, o = .returned v ∧ Qm2_ffff Z a1 w2 w4 w6 w8 h0 n0 v U'.heap L ∧ FrameEnd U o U' L ({ frames := 0, cells := 0, slots := 0, locals := 0 } : Room).cells ({ frames := 0, cells := 0, slots := 0, locals := 0 } : Room).slots) := by
  refine MetFree.of_bodySF (plainFor_of_name pn_2) hisR ?_
  intro p e s m args below meth c s₁ Bd hml0 hP hK
  obtain ⟨rfl, hZ, hh⟩ := hP
  have hx := Bd.exec
  have hby := Bd.bytes
  have hml : c.maxLocals = 1 := hml0
  have hown : s.vm.findClass "com/example/zarnitsa/zarnitsa/FastTemplate$Type" = some m.cls := findClass_of_methodNamed Bd.named
  have hnm := (name_of_methodNamed Bd.named Bd.method).1
  have X0 : Stand p l e ({ frames := 0, cells := 0, slots := 0, locals := 0 } : Room) s m #[(.ref a1)] below meth c s₁ [] 0 0 := Stand.of_body Bd
  have e0 : s₁.heap = h0 := by rw [← hh, Bd.state]; rfl
  have N0 := Fr.nil n0
  refine Go.en (ef_2 m a1) ?_
  show Go p e below _ (s₁.setTop (mkF m 0 #[.val (.ref a1)] []))
  refine Go.st (fun _ kk => XS.aloadN X0.here hx rfl (hb hby d2_0) rfl rfl  kk) ?_
  show Go p e below _ (s₁.setTop (mkF m 1 #[.val (.ref a1)] [(.ref a1)]))
  obtain ⟨T3, X3, e3, st3⟩ := getS2 X0 hx hZ hown (host := "") (Or.inl (hw _ (List.mem_of_getElem? (i := 12) rfl))) Via.refl e0 S_INT32 (g := (mkF m 1 #[.val (.ref a1)] [(.ref a1)])) rfl (hb hby d2_1)
  refine Go.st st3 ?_
  show Go p e below _ (T3.setTop (mkF m 4 #[.val (.ref a1)] [(.ref w2), (.ref a1)]))
  refine Go.st (fun _ kk => Jvm.RoadKit.acmp (g := (mkF m 4 #[.val (.ref a1)] [(.ref w2), (.ref a1)])) X3 hx rfl rfl rfl (pc0 := 4) (pc' := 7) (same := false) rfl (hb hby d2_4) rfl (decide_eq_false fun q => hd0 (Value.ref.inj q)) (by decide) (by decide) kk) ?_
  show Go p e below _ (T3.setTop (mkF m 7 #[.val (.ref a1)] []))
  refine Go.st (fun _ kk => XS.aloadN X3.here hx rfl (hb hby d2_7) rfl rfl  kk) ?_
  show Go p e below _ (T3.setTop (mkF m 8 #[.val (.ref a1)] [(.ref a1)]))
  obtain ⟨T5, X5, e5, st5⟩ := getS2 X3 hx hZ hown (host := "") (Or.inl (hw _ (List.mem_of_getElem? (i := 15) rfl))) Via.refl e3 S_UINT32 (g := (mkF m 8 #[.val (.ref a1)] [(.ref a1)])) rfl (hb hby d2_8)
  refine Go.st st5 ?_
  show Go p e below _ (T5.setTop (mkF m 11 #[.val (.ref a1)] [(.ref w4), (.ref a1)]))
  refine Go.st (fun _ kk => Jvm.RoadKit.acmp (g := (mkF m 11 #[.val (.ref a1)] [(.ref w4), (.ref a1)])) X5 hx rfl rfl rfl (pc0 := 11) (pc' := 14) (same := false) rfl (hb hby d2_11) rfl (decide_eq_false fun q => hd1 (Value.ref.inj q)) (by decide) (by decide) kk) ?_
  show Go p e below _ (T5.setTop (mkF m 14 #[.val (.ref a1)] []))
  refine Go.st (fun _ kk => XS.aloadN X5.here hx rfl (hb hby d2_14) rfl rfl  kk) ?_
  show Go p e below _ (T5.setTop (mkF m 15 #[.val (.ref a1)] [(.ref a1)]))
  obtain ⟨T7, X7, e7, st7⟩ := getS2 X5 hx hZ hown (host := "") (Or.inl (hw _ (List.mem_of_getElem? (i := 17) rfl))) Via.refl e5 S_INT64 (g := (mkF m 15 #[.val (.ref a1)] [(.ref a1)])) rfl (hb hby d2_15)
  refine Go.st st7 ?_
  show Go p e below _ (T7.setTop (mkF m 18 #[.val (.ref a1)] [(.ref w6), (.ref a1)]))
  refine Go.st (fun _ kk => Jvm.RoadKit.acmp (g := (mkF m 18 #[.val (.ref a1)] [(.ref w6), (.ref a1)])) X7 hx rfl rfl rfl (pc0 := 18) (pc' := 21) (same := false) rfl (hb hby d2_18) rfl (decide_eq_false fun q => hd2 (Value.ref.inj q)) (by decide) (by decide) kk) ?_
  show Go p e below _ (T7.setTop (mkF m 21 #[.val (.ref a1)] []))
  refine Go.st (fun _ kk => XS.aloadN X7.here hx rfl (hb hby d2_21) rfl rfl  kk) ?_
  show Go p e below _ (T7.setTop (mkF m 22 #[.val (.ref a1)] [(.ref a1)]))
  obtain ⟨T9, X9, e9, st9⟩ := getS2 X7 hx hZ hown (host := "") (Or.inl (hw _ (List.mem_of_getElem? (i := 19) rfl))) Via.refl e7 S_UINT64 (g := (mkF m 22 #[.val (.ref a1)] [(.ref a1)])) rfl (hb hby d2_22)
  refine Go.st st9 ?_
  show Go p e below _ (T9.setTop (mkF m 25 #[.val (.ref a1)] [(.ref w8), (.ref a1)]))
  refine Go.st (fun _ kk => Jvm.RoadKit.acmp (g := (mkF m 25 #[.val (.ref a1)] [(.ref w8), (.ref a1)])) X9 hx rfl rfl rfl (pc0 := 25) (pc' := 32) (same := false) rfl (hb hby d2_25) rfl (decide_eq_false fun q => hd3 (Value.ref.inj q)) (by decide) (by decide) kk) ?_
  show Go p e below _ (T9.setTop (mkF m 32 #[.val (.ref a1)] []))
  refine Go.st (fun _ kk => XS.iconst X9.here hx rfl (hb hby d2_32) kk) ?_
  show Go p e below _ (T9.setTop (mkF m 33 #[.val (.ref a1)] [(.int (0 : Int32))]))
  exact Go.ret (Q := Qm2_ffff Z a1 w2 w4 w6 w8 h0 n0) X9 (v := some (.int (0 : Int32))) (fun h => by rw [Bd.returns] at h; cases h) Bd.notSynchronized (fun fs hr => retN X9 hx (t := .boolean) Bd.returns (by simp) (hb hby d2_33) hr) e9 ⟨rfl, N0, rfl⟩ (by decide) (by decide)
def Q0 (n0 : Nat) (v : Option Value) (h : Heap) (L : List Loc) : Prop := v = some (.int (1 : Int32)) ∧ Fr n0 L
set_option maxRecDepth 65536 in
set_option maxHeartbeats 40000000 in
theorem rm0 (l : Launch) (Z : State) (a0 : Array Value) (hw : ∀ d ∈ tables_1, d.before a0 Z = true) (ws : List Jvm.Cond) (p1 : Int32) (w_INT32 : Addr) (w_UINT64 : Addr) (w_UINT32 : Addr) (w_INT64 : Addr) (w_UNICODE : Addr) (w_BYTE_VECTOR : Addr) (w_DECIMAL : Addr) (w_ASCII : Addr) (h0 : Heap) (n0 : Nat) (Z0 : n0 ≤ h0.size) (S_INT32 : Sta Z h0 "com/example/zarnitsa/zarnitsa/FastTemplate$Type" "INT32" "Lcom/example/zarnitsa/zarnitsa/FastTemplate$Type;" (.ref w_INT32)) (E_w_INT32 : Exa Z h0 w_INT32 "com/example/zarnitsa/zarnitsa/FastTemplate$Type") (S_UINT64 : Sta Z h0 "com/example/zarnitsa/zarnitsa/FastTemplate$Type" "UINT64" "Lcom/example/zarnitsa/zarnitsa/FastTemplate$Type;" (.ref w_UINT64)) (E_w_UINT64 : Exa Z h0 w_UINT64 "com/example/zarnitsa/zarnitsa/FastTemplate$Type") (S_UINT32 : Sta Z h0 "com/example/zarnitsa/zarnitsa/FastTemplate$Type" "UINT32" "Lcom/example/zarnitsa/zarnitsa/FastTemplate$Type;" (.ref w_UINT32)) (E_w_UINT32 : Exa Z h0 w_UINT32 "com/example/zarnitsa/zarnitsa/FastTemplate$Type") (S_INT64 : Sta Z h0 "com/example/zarnitsa/zarnitsa/FastTemplate$Type" "INT64" "Lcom/example/zarnitsa/zarnitsa/FastTemplate$Type;" (.ref w_INT64)) (E_w_INT64 : Exa Z h0 w_INT64 "com/example/zarnitsa/zarnitsa/FastTemplate$Type") (S_UNICODE : Sta Z h0 "com/example/zarnitsa/zarnitsa/FastTemplate$Type" "UNICODE" "Lcom/example/zarnitsa/zarnitsa/FastTemplate$Type;" (.ref w_UNICODE)) (E_w_UNICODE : Exa Z h0 w_UNICODE "com/example/zarnitsa/zarnitsa/FastTemplate$Type") (S_BYTE_VECTOR : Sta Z h0 "com/example/zarnitsa/zarnitsa/FastTemplate$Type" "BYTE_VECTOR" "Lcom/example/zarnitsa/zarnitsa/FastTemplate$Type;" (.ref w_BYTE_VECTOR)) (E_w_BYTE_VECTOR : Exa Z h0 w_BYTE_VECTOR "com/example/zarnitsa/zarnitsa/FastTemplate$Type") (S_DECIMAL : Sta Z h0 "com/example/zarnitsa/zarnitsa/FastTemplate$Type" "DECIMAL" "Lcom/example/zarnitsa/zarnitsa/FastTemplate$Type;" (.ref w_DECIMAL)) (E_w_DECIMAL : Exa Z h0 w_DECIMAL "com/example/zarnitsa/zarnitsa/FastTemplate$Type") (S_ASCII : Sta Z h0 "com/example/zarnitsa/zarnitsa/FastTemplate$Type" "ASCII" "Lcom/example/zarnitsa/zarnitsa/FastTemplate$Type;" (.ref w_ASCII)) (E_w_ASCII : Exa Z h0 w_ASCII "com/example/zarnitsa/zarnitsa/FastTemplate$Type") (F_ordinal_w_UINT64 : Fld Z h0 w_UINT64 "java/lang/Enum" "ordinal" "I" (.int (3 : Int32))) (F_ordinal_w_INT32 : Fld Z h0 w_INT32 "java/lang/Enum" "ordinal" "I" (.int (0 : Int32))) (F_ordinal_w_UINT32 : Fld Z h0 w_UINT32 "java/lang/Enum" "ordinal" "I" (.int (1 : Int32))) (F_ordinal_w_INT64 : Fld Z h0 w_INT64 "java/lang/Enum" "ordinal" "I" (.int (2 : Int32))) (F_ordinal_w_UNICODE : Fld Z h0 w_UNICODE "java/lang/Enum" "ordinal" "I" (.int (6 : Int32))) (F_ordinal_w_BYTE_VECTOR : Fld Z h0 w_BYTE_VECTOR "java/lang/Enum" "ordinal" "I" (.int (7 : Int32))) (F_ordinal_w_DECIMAL : Fld Z h0 w_DECIMAL "java/lang/Enum" "ordinal" "I" (.int (4 : Int32))) (F_ordinal_w_ASCII : Fld Z h0 w_ASCII "java/lang/Enum" "ordinal" "I" (.int (5 : Int32))) :
    MetFree l x (head1 (Jvm.Cond.code x code maxLocals ret :: ws) room_1) (fun a U => a = #[(.int p1)] ∧ Z.Warmed39 U.vm ∧ U.heap = h0) (fun _ _ _ _ _ => True) (fun _ U o U' => ∃ v L, o = .returned v ∧ Q0 n0 v U'.heap L ∧ FrameEnd U o U' L room_1.cells room_1.slots) := by
  refine MetFree.of_bodySF (plainFor_of_name pn_0) hisR ?_
  intro p e s m args below meth c s₁ Bd hml0 hP hK
  obtain ⟨rfl, hZ, hh⟩ := hP
  have hx := Bd.exec
  have hby := Bd.bytes
  have hml : c.maxLocals = 4 := hml0
  have hown : s.vm.findClass "com/example/zarnitsa/zarnitsa/TypeIsIntegerPinLaw" = some m.cls := findClass_of_methodNamed Bd.named
  have hnm := (name_of_methodNamed Bd.named Bd.method).1
  have X0 : Stand p l e room_1 s m #[(.int p1)] below meth c s₁ [] 0 0 := Stand.of_body Bd
  have e0 : s₁.heap = h0 := by rw [← hh, Bd.state]; rfl
  have N0 := Fr.nil n0
  refine Go.en (ef_0 m p1) ?_
  show Go p e below _ (s₁.setTop (mkF m 0 #[.val (.int p1), .unset, .unset, .unset] []))
  refine Go.st (fun _ kk => XS.iloadN X0.here hx rfl (hb hby at_0) rfl  kk) ?_
  show Go p e below _ (s₁.setTop (mkF m 1 #[.val (.int p1), .unset, .unset, .unset] [(.int p1)]))
  refine Go.st (fun _ kk => XS.bipush X0.here hx rfl (hb hby at_1) kk) ?_
  show Go p e below _ (s₁.setTop (mkF m 3 #[.val (.int p1), .unset, .unset, .unset] [(.int (7 : Int32)), (.int p1)]))
  refine Go.st (fun _ kk => XS.iand X0.here hx rfl (hb hby at_3) rfl kk) ?_
  show Go p e below _ (s₁.setTop (mkF m 4 #[.val (.int p1), .unset, .unset, .unset] [(.int (p1 &&& (7 : Int32)))]))
  rcases (own_k p1 : (p1 &&& (7 : Int32)) = (0 : Int32) ∨ (p1 &&& (7 : Int32)) = (1 : Int32) ∨ (p1 &&& (7 : Int32)) = (2 : Int32) ∨ (p1 &&& (7 : Int32)) = (3 : Int32) ∨ (p1 &&& (7 : Int32)) = (4 : Int32) ∨ (p1 &&& (7 : Int32)) = (5 : Int32) ∨ (p1 &&& (7 : Int32)) = (6 : Int32) ∨ (p1 &&& (7 : Int32)) = (7 : Int32)) with hk2 | hk3 | hk4 | hk5 | hk6 | hk7 | hk8 | hk9
  · skip
    rw [hk2]
    show Go p e below _ (s₁.setTop (mkF m 4 #[.val (.int p1), .unset, .unset, .unset] [(.int (0 : Int32))]))
    refine Go.st (fun _ kk => XS.istoreN X0.here hx rfl (hb hby at_4) rfl (l' := #[.val (.int p1), .val (.int (0 : Int32)), .unset, .unset]) rfl kk) ?_
    show Go p e below _ (s₁.setTop (mkF m 5 #[.val (.int p1), .val (.int (0 : Int32)), .unset, .unset] []))
    refine Go.st (fun _ kk => XS.iloadN X0.here hx rfl (hb hby at_5) rfl  kk) ?_
    show Go p e below _ (s₁.setTop (mkF m 6 #[.val (.int p1), .val (.int (0 : Int32)), .unset, .unset] [(.int (0 : Int32))]))
    obtain ⟨_, _, ⟨T10, L10, k10, n10⟩, -, X10, ⟨Lc10, hQ10, l10, y10, z10⟩, st10⟩ := Jvm.LawKit.callS X0 hx (y := (⟨"com/example/zarnitsa/zarnitsa/TypeIsIntegerPinLaw", "pick", "(I)Lcom/example/zarnitsa/zarnitsa/FastTemplate$Type;"⟩ : MethodName)) hown (mvT hZ (hw _ (List.mem_of_getElem? (i := 0) rfl))) (mvT hZ (hw _ (List.mem_of_getElem? (i := 1) rfl))) (mvT hZ (hw _ (List.mem_of_getElem? (i := 2) rfl))) (mvT hZ (hw _ (List.mem_of_getElem? (i := 3) rfl))) (by decide) (backOf (W := 0) (rm1_t l Z a0 hw [] (0 : Int32) w_INT32 h0 n0 Z0 (by decide : ((0 : Int32) = (0 : Int32))) S_INT32) hZ (hw _ (List.mem_of_getElem? (i := 3) rfl)) (hw _ (List.mem_of_getElem? (i := 2) rfl)) (by decide) (by decide)) (g := (mkF m 6 #[.val (.int p1), .val (.int (0 : Int32)), .unset, .unset] [(.int (0 : Int32))])) rfl (by rw [hml]; rfl) (argsL := [(.int (0 : Int32))]) (rest := []) (lenOf pd_0 rfl) rfl (by show 2 * 0 + _ ≤ _; exact Nat.le_of_eq rfl) (hb hby at_6) (fun _ _ => ⟨rfl, e0, (by decide : 0 + 0 ≤ _), (by decide : 0 + 0 ≤ _)⟩)
    dsimp only [Pt.U, Pt.locs, Pt.cells, Pt.slots] at X10 l10 y10 z10 st10 hQ10
    subst l10 y10 z10
    obtain ⟨rfl, N10q, eq10⟩ := hQ10
    have N10 := Fr.app N0 N10q
    refine Go.st st10 ?_
    show Go p e below _ (T10.setTop (mkF m 9 #[.val (.int p1), .val (.int (0 : Int32)), .unset, .unset] [(.ref w_INT32)]))
    refine Go.st (fun _ kk => XS.astoreN X10.here hx rfl (hb hby at_9) rfl rfl (l' := #[.val (.int p1), .val (.int (0 : Int32)), .val (.ref w_INT32), .unset]) rfl kk) ?_
    show Go p e below _ (T10.setTop (mkF m 10 #[.val (.int p1), .val (.int (0 : Int32)), .val (.ref w_INT32), .unset] []))
    refine Go.st (fun _ kk => XS.iloadN X10.here hx rfl (hb hby at_10) rfl  kk) ?_
    show Go p e below _ (T10.setTop (mkF m 11 #[.val (.int p1), .val (.int (0 : Int32)), .val (.ref w_INT32), .unset] [(.int (0 : Int32))]))
    refine Go.st (fun _ kk => XS.iconst X10.here hx rfl (hb hby at_11) kk) ?_
    show Go p e below _ (T10.setTop (mkF m 12 #[.val (.int p1), .val (.int (0 : Int32)), .val (.ref w_INT32), .unset] [(.int (4 : Int32)), (.int (0 : Int32))]))
    refine Go.st (fun _ kk => XS.icmpNo X10.here hx rfl (hb hby at_12) rfl (tlt (by decide : ((0 : Int32) < (4 : Int32)))).2.1 kk) ?_
    show Go p e below _ (T10.setTop (mkF m 15 #[.val (.int p1), .val (.int (0 : Int32)), .val (.ref w_INT32), .unset] []))
    refine Go.st (fun _ kk => XS.iconst X10.here hx rfl (hb hby at_15) kk) ?_
    show Go p e below _ (T10.setTop (mkF m 16 #[.val (.int p1), .val (.int (0 : Int32)), .val (.ref w_INT32), .unset] [(.int (1 : Int32))]))
    refine Go.st (fun _ kk => XS.goto X10.here hx rfl (pc0 := 16) (pc' := 20) rfl (hb hby at_16) (by decide) (by decide) kk) ?_
    show Go p e below _ (T10.setTop (mkF m 20 #[.val (.int p1), .val (.int (0 : Int32)), .val (.ref w_INT32), .unset] [(.int (1 : Int32))]))
    refine Go.st (fun _ kk => XS.istoreN X10.here hx rfl (hb hby at_20) rfl (l' := #[.val (.int p1), .val (.int (0 : Int32)), .val (.ref w_INT32), .val (.int (1 : Int32))]) rfl kk) ?_
    show Go p e below _ (T10.setTop (mkF m 21 #[.val (.int p1), .val (.int (0 : Int32)), .val (.ref w_INT32), .val (.int (1 : Int32))] []))
    refine Go.st (fun _ kk => XS.aloadN X10.here hx rfl (hb hby at_21) rfl rfl  kk) ?_
    show Go p e below _ (T10.setTop (mkF m 22 #[.val (.int p1), .val (.int (0 : Int32)), .val (.ref w_INT32), .val (.int (1 : Int32))] [(.ref w_INT32)]))
    obtain ⟨cq11, kq11, q11a, q11b, q11c⟩ := isOf hZ eq10 E_w_INT32
    obtain ⟨_, _, ⟨T11, L11, k11, n11⟩, -, X11, ⟨Lc11, hQ11, l11, y11, z11⟩, st11⟩ := X10.virtualBack hx (y := (⟨"com/example/zarnitsa/zarnitsa/FastTemplate$Type", "isInteger", "()Z"⟩ : MethodName)) (z := (⟨"com/example/zarnitsa/zarnitsa/FastTemplate$Type", "isInteger", "()Z"⟩ : MethodName)) hown (mvT hZ (hw _ (List.mem_of_getElem? (i := 7) rfl))) (mvT hZ (hw _ (List.mem_of_getElem? (i := 8) rfl))) (notFace_of_selects (args := #[]) (mvT hZ (hw _ (List.mem_of_getElem? (i := 10) rfl)))) (mvT hZ (hw _ (List.mem_of_getElem? (i := 10) rfl))) (mvT hZ (hw _ (List.mem_of_getElem? (i := 9) rfl))) (by decide) (backOf (W := 0) (rm2_t l Z a0 hw [] w_INT32 w_INT32 h0 n0 Z0 S_INT32 (rfl : w_INT32 = w_INT32)) hZ (hw _ (List.mem_of_getElem? (i := 11) rfl)) (hw _ (List.mem_of_getElem? (i := 5) rfl)) (by decide) (by decide)) q11a q11c (g := (mkF m 22 #[.val (.int p1), .val (.int (0 : Int32)), .val (.ref w_INT32), .val (.int (1 : Int32))] [(.ref w_INT32)])) rfl (by rw [hml]; rfl) (Steps.refl _) (argsL := []) (rest := []) (lenOf pd_1 rfl) rfl (by show 2 * 0 + _ ≤ _; exact Nat.le_of_eq rfl) (hb hby at_22) (fun _ _ => ⟨rfl, eq10, (by decide : 0 + 0 ≤ _), (by decide : 0 + 0 ≤ _)⟩)
    dsimp only [Pt.U, Pt.locs, Pt.cells, Pt.slots] at X11 l11 y11 z11 st11 hQ11
    subst l11 y11 z11
    obtain ⟨rfl, N11q, eq11⟩ := hQ11
    have N11 := Fr.app N10 N11q
    refine Go.tr st11 ?_
    show Go p e below _ (T11.setTop (mkF m 25 #[.val (.int p1), .val (.int (0 : Int32)), .val (.ref w_INT32), .val (.int (1 : Int32))] [(.int (1 : Int32))]))
    refine Go.st (fun _ kk => XS.iloadN X11.here hx rfl (hb hby at_25) rfl  kk) ?_
    show Go p e below _ (T11.setTop (mkF m 26 #[.val (.int p1), .val (.int (0 : Int32)), .val (.ref w_INT32), .val (.int (1 : Int32))] [(.int (1 : Int32)), (.int (1 : Int32))]))
    refine Go.st (fun _ kk => XS.icmpNo X11.here hx rfl (hb hby at_26) rfl (teq (by decide : ((1 : Int32) = (1 : Int32)))).2 kk) ?_
    show Go p e below _ (T11.setTop (mkF m 29 #[.val (.int p1), .val (.int (0 : Int32)), .val (.ref w_INT32), .val (.int (1 : Int32))] []))
    refine Go.st (fun _ kk => XS.iconst X11.here hx rfl (hb hby at_29) kk) ?_
    show Go p e below _ (T11.setTop (mkF m 30 #[.val (.int p1), .val (.int (0 : Int32)), .val (.ref w_INT32), .val (.int (1 : Int32))] [(.int (1 : Int32))]))
    refine Go.st (fun _ kk => XS.goto X11.here hx rfl (pc0 := 30) (pc' := 34) rfl (hb hby at_30) (by decide) (by decide) kk) ?_
    show Go p e below _ (T11.setTop (mkF m 34 #[.val (.int p1), .val (.int (0 : Int32)), .val (.ref w_INT32), .val (.int (1 : Int32))] [(.int (1 : Int32))]))
    exact Go.ret (Q := Q0 n0) X11 (v := some (.int (1 : Int32))) (fun h => by rw [Bd.returns] at h; cases h) Bd.notSynchronized (fun fs hr => retN X11 hx (t := .boolean) Bd.returns (by simp) (hb hby at_34) hr) eq11 ⟨rfl, N11⟩ (by decide) (by decide)
  · skip
    rw [hk3]
    show Go p e below _ (s₁.setTop (mkF m 4 #[.val (.int p1), .unset, .unset, .unset] [(.int (1 : Int32))]))
    refine Go.st (fun _ kk => XS.istoreN X0.here hx rfl (hb hby at_4) rfl (l' := #[.val (.int p1), .val (.int (1 : Int32)), .unset, .unset]) rfl kk) ?_
    show Go p e below _ (s₁.setTop (mkF m 5 #[.val (.int p1), .val (.int (1 : Int32)), .unset, .unset] []))
    refine Go.st (fun _ kk => XS.iloadN X0.here hx rfl (hb hby at_5) rfl  kk) ?_
    show Go p e below _ (s₁.setTop (mkF m 6 #[.val (.int p1), .val (.int (1 : Int32)), .unset, .unset] [(.int (1 : Int32))]))
    obtain ⟨_, _, ⟨T12, L12, k12, n12⟩, -, X12, ⟨Lc12, hQ12, l12, y12, z12⟩, st12⟩ := Jvm.LawKit.callS X0 hx (y := (⟨"com/example/zarnitsa/zarnitsa/TypeIsIntegerPinLaw", "pick", "(I)Lcom/example/zarnitsa/zarnitsa/FastTemplate$Type;"⟩ : MethodName)) hown (mvT hZ (hw _ (List.mem_of_getElem? (i := 0) rfl))) (mvT hZ (hw _ (List.mem_of_getElem? (i := 1) rfl))) (mvT hZ (hw _ (List.mem_of_getElem? (i := 2) rfl))) (mvT hZ (hw _ (List.mem_of_getElem? (i := 3) rfl))) (by decide) (backOf (W := 0) (rm1_ft l Z a0 hw [] (1 : Int32) w_UINT32 h0 n0 Z0 (by decide : ¬ ((1 : Int32) = (0 : Int32))) (by decide : ((1 : Int32) = (1 : Int32))) S_UINT32) hZ (hw _ (List.mem_of_getElem? (i := 3) rfl)) (hw _ (List.mem_of_getElem? (i := 2) rfl)) (by decide) (by decide)) (g := (mkF m 6 #[.val (.int p1), .val (.int (1 : Int32)), .unset, .unset] [(.int (1 : Int32))])) rfl (by rw [hml]; rfl) (argsL := [(.int (1 : Int32))]) (rest := []) (lenOf pd_0 rfl) rfl (by show 2 * 0 + _ ≤ _; exact Nat.le_of_eq rfl) (hb hby at_6) (fun _ _ => ⟨rfl, e0, (by decide : 0 + 0 ≤ _), (by decide : 0 + 0 ≤ _)⟩)
    dsimp only [Pt.U, Pt.locs, Pt.cells, Pt.slots] at X12 l12 y12 z12 st12 hQ12
    subst l12 y12 z12
    obtain ⟨rfl, N12q, eq12⟩ := hQ12
    have N12 := Fr.app N0 N12q
    refine Go.st st12 ?_
    show Go p e below _ (T12.setTop (mkF m 9 #[.val (.int p1), .val (.int (1 : Int32)), .unset, .unset] [(.ref w_UINT32)]))
    refine Go.st (fun _ kk => XS.astoreN X12.here hx rfl (hb hby at_9) rfl rfl (l' := #[.val (.int p1), .val (.int (1 : Int32)), .val (.ref w_UINT32), .unset]) rfl kk) ?_
    show Go p e below _ (T12.setTop (mkF m 10 #[.val (.int p1), .val (.int (1 : Int32)), .val (.ref w_UINT32), .unset] []))
    refine Go.st (fun _ kk => XS.iloadN X12.here hx rfl (hb hby at_10) rfl  kk) ?_
    show Go p e below _ (T12.setTop (mkF m 11 #[.val (.int p1), .val (.int (1 : Int32)), .val (.ref w_UINT32), .unset] [(.int (1 : Int32))]))
    refine Go.st (fun _ kk => XS.iconst X12.here hx rfl (hb hby at_11) kk) ?_
    show Go p e below _ (T12.setTop (mkF m 12 #[.val (.int p1), .val (.int (1 : Int32)), .val (.ref w_UINT32), .unset] [(.int (4 : Int32)), (.int (1 : Int32))]))
    refine Go.st (fun _ kk => XS.icmpNo X12.here hx rfl (hb hby at_12) rfl (tlt (by decide : ((1 : Int32) < (4 : Int32)))).2.1 kk) ?_
    show Go p e below _ (T12.setTop (mkF m 15 #[.val (.int p1), .val (.int (1 : Int32)), .val (.ref w_UINT32), .unset] []))
    refine Go.st (fun _ kk => XS.iconst X12.here hx rfl (hb hby at_15) kk) ?_
    show Go p e below _ (T12.setTop (mkF m 16 #[.val (.int p1), .val (.int (1 : Int32)), .val (.ref w_UINT32), .unset] [(.int (1 : Int32))]))
    refine Go.st (fun _ kk => XS.goto X12.here hx rfl (pc0 := 16) (pc' := 20) rfl (hb hby at_16) (by decide) (by decide) kk) ?_
    show Go p e below _ (T12.setTop (mkF m 20 #[.val (.int p1), .val (.int (1 : Int32)), .val (.ref w_UINT32), .unset] [(.int (1 : Int32))]))
    refine Go.st (fun _ kk => XS.istoreN X12.here hx rfl (hb hby at_20) rfl (l' := #[.val (.int p1), .val (.int (1 : Int32)), .val (.ref w_UINT32), .val (.int (1 : Int32))]) rfl kk) ?_
    show Go p e below _ (T12.setTop (mkF m 21 #[.val (.int p1), .val (.int (1 : Int32)), .val (.ref w_UINT32), .val (.int (1 : Int32))] []))
    refine Go.st (fun _ kk => XS.aloadN X12.here hx rfl (hb hby at_21) rfl rfl  kk) ?_
    show Go p e below _ (T12.setTop (mkF m 22 #[.val (.int p1), .val (.int (1 : Int32)), .val (.ref w_UINT32), .val (.int (1 : Int32))] [(.ref w_UINT32)]))
    obtain ⟨cq13, kq13, q13a, q13b, q13c⟩ := isOf hZ eq12 E_w_UINT32
    obtain ⟨_, _, ⟨T13, L13, k13, n13⟩, -, X13, ⟨Lc13, hQ13, l13, y13, z13⟩, st13⟩ := X12.virtualBack hx (y := (⟨"com/example/zarnitsa/zarnitsa/FastTemplate$Type", "isInteger", "()Z"⟩ : MethodName)) (z := (⟨"com/example/zarnitsa/zarnitsa/FastTemplate$Type", "isInteger", "()Z"⟩ : MethodName)) hown (mvT hZ (hw _ (List.mem_of_getElem? (i := 7) rfl))) (mvT hZ (hw _ (List.mem_of_getElem? (i := 8) rfl))) (notFace_of_selects (args := #[]) (mvT hZ (hw _ (List.mem_of_getElem? (i := 10) rfl)))) (mvT hZ (hw _ (List.mem_of_getElem? (i := 10) rfl))) (mvT hZ (hw _ (List.mem_of_getElem? (i := 9) rfl))) (by decide) (backOf (W := 0) (rm2_ft l Z a0 hw [] w_UINT32 w_INT32 w_UINT32 h0 n0 Z0 S_INT32 (Fld.ne F_ordinal_w_UINT32 F_ordinal_w_INT32 (by decide)) S_UINT32 (rfl : w_UINT32 = w_UINT32)) hZ (hw _ (List.mem_of_getElem? (i := 11) rfl)) (hw _ (List.mem_of_getElem? (i := 5) rfl)) (by decide) (by decide)) q13a q13c (g := (mkF m 22 #[.val (.int p1), .val (.int (1 : Int32)), .val (.ref w_UINT32), .val (.int (1 : Int32))] [(.ref w_UINT32)])) rfl (by rw [hml]; rfl) (Steps.refl _) (argsL := []) (rest := []) (lenOf pd_1 rfl) rfl (by show 2 * 0 + _ ≤ _; exact Nat.le_of_eq rfl) (hb hby at_22) (fun _ _ => ⟨rfl, eq12, (by decide : 0 + 0 ≤ _), (by decide : 0 + 0 ≤ _)⟩)
    dsimp only [Pt.U, Pt.locs, Pt.cells, Pt.slots] at X13 l13 y13 z13 st13 hQ13
    subst l13 y13 z13
    obtain ⟨rfl, N13q, eq13⟩ := hQ13
    have N13 := Fr.app N12 N13q
    refine Go.tr st13 ?_
    show Go p e below _ (T13.setTop (mkF m 25 #[.val (.int p1), .val (.int (1 : Int32)), .val (.ref w_UINT32), .val (.int (1 : Int32))] [(.int (1 : Int32))]))
    refine Go.st (fun _ kk => XS.iloadN X13.here hx rfl (hb hby at_25) rfl  kk) ?_
    show Go p e below _ (T13.setTop (mkF m 26 #[.val (.int p1), .val (.int (1 : Int32)), .val (.ref w_UINT32), .val (.int (1 : Int32))] [(.int (1 : Int32)), (.int (1 : Int32))]))
    refine Go.st (fun _ kk => XS.icmpNo X13.here hx rfl (hb hby at_26) rfl (teq (by decide : ((1 : Int32) = (1 : Int32)))).2 kk) ?_
    show Go p e below _ (T13.setTop (mkF m 29 #[.val (.int p1), .val (.int (1 : Int32)), .val (.ref w_UINT32), .val (.int (1 : Int32))] []))
    refine Go.st (fun _ kk => XS.iconst X13.here hx rfl (hb hby at_29) kk) ?_
    show Go p e below _ (T13.setTop (mkF m 30 #[.val (.int p1), .val (.int (1 : Int32)), .val (.ref w_UINT32), .val (.int (1 : Int32))] [(.int (1 : Int32))]))
    refine Go.st (fun _ kk => XS.goto X13.here hx rfl (pc0 := 30) (pc' := 34) rfl (hb hby at_30) (by decide) (by decide) kk) ?_
    show Go p e below _ (T13.setTop (mkF m 34 #[.val (.int p1), .val (.int (1 : Int32)), .val (.ref w_UINT32), .val (.int (1 : Int32))] [(.int (1 : Int32))]))
    exact Go.ret (Q := Q0 n0) X13 (v := some (.int (1 : Int32))) (fun h => by rw [Bd.returns] at h; cases h) Bd.notSynchronized (fun fs hr => retN X13 hx (t := .boolean) Bd.returns (by simp) (hb hby at_34) hr) eq13 ⟨rfl, N13⟩ (by decide) (by decide)
  · skip
    rw [hk4]
    show Go p e below _ (s₁.setTop (mkF m 4 #[.val (.int p1), .unset, .unset, .unset] [(.int (2 : Int32))]))
    refine Go.st (fun _ kk => XS.istoreN X0.here hx rfl (hb hby at_4) rfl (l' := #[.val (.int p1), .val (.int (2 : Int32)), .unset, .unset]) rfl kk) ?_
    show Go p e below _ (s₁.setTop (mkF m 5 #[.val (.int p1), .val (.int (2 : Int32)), .unset, .unset] []))
    refine Go.st (fun _ kk => XS.iloadN X0.here hx rfl (hb hby at_5) rfl  kk) ?_
    show Go p e below _ (s₁.setTop (mkF m 6 #[.val (.int p1), .val (.int (2 : Int32)), .unset, .unset] [(.int (2 : Int32))]))
    obtain ⟨_, _, ⟨T14, L14, k14, n14⟩, -, X14, ⟨Lc14, hQ14, l14, y14, z14⟩, st14⟩ := Jvm.LawKit.callS X0 hx (y := (⟨"com/example/zarnitsa/zarnitsa/TypeIsIntegerPinLaw", "pick", "(I)Lcom/example/zarnitsa/zarnitsa/FastTemplate$Type;"⟩ : MethodName)) hown (mvT hZ (hw _ (List.mem_of_getElem? (i := 0) rfl))) (mvT hZ (hw _ (List.mem_of_getElem? (i := 1) rfl))) (mvT hZ (hw _ (List.mem_of_getElem? (i := 2) rfl))) (mvT hZ (hw _ (List.mem_of_getElem? (i := 3) rfl))) (by decide) (backOf (W := 0) (rm1_fft l Z a0 hw [] (2 : Int32) w_INT64 h0 n0 Z0 (by decide : ¬ ((2 : Int32) = (0 : Int32))) (by decide : ¬ ((2 : Int32) = (1 : Int32))) (by decide : ((2 : Int32) = (2 : Int32))) S_INT64) hZ (hw _ (List.mem_of_getElem? (i := 3) rfl)) (hw _ (List.mem_of_getElem? (i := 2) rfl)) (by decide) (by decide)) (g := (mkF m 6 #[.val (.int p1), .val (.int (2 : Int32)), .unset, .unset] [(.int (2 : Int32))])) rfl (by rw [hml]; rfl) (argsL := [(.int (2 : Int32))]) (rest := []) (lenOf pd_0 rfl) rfl (by show 2 * 0 + _ ≤ _; exact Nat.le_of_eq rfl) (hb hby at_6) (fun _ _ => ⟨rfl, e0, (by decide : 0 + 0 ≤ _), (by decide : 0 + 0 ≤ _)⟩)
    dsimp only [Pt.U, Pt.locs, Pt.cells, Pt.slots] at X14 l14 y14 z14 st14 hQ14
    subst l14 y14 z14
    obtain ⟨rfl, N14q, eq14⟩ := hQ14
    have N14 := Fr.app N0 N14q
    refine Go.st st14 ?_
    show Go p e below _ (T14.setTop (mkF m 9 #[.val (.int p1), .val (.int (2 : Int32)), .unset, .unset] [(.ref w_INT64)]))
    refine Go.st (fun _ kk => XS.astoreN X14.here hx rfl (hb hby at_9) rfl rfl (l' := #[.val (.int p1), .val (.int (2 : Int32)), .val (.ref w_INT64), .unset]) rfl kk) ?_
    show Go p e below _ (T14.setTop (mkF m 10 #[.val (.int p1), .val (.int (2 : Int32)), .val (.ref w_INT64), .unset] []))
    refine Go.st (fun _ kk => XS.iloadN X14.here hx rfl (hb hby at_10) rfl  kk) ?_
    show Go p e below _ (T14.setTop (mkF m 11 #[.val (.int p1), .val (.int (2 : Int32)), .val (.ref w_INT64), .unset] [(.int (2 : Int32))]))
    refine Go.st (fun _ kk => XS.iconst X14.here hx rfl (hb hby at_11) kk) ?_
    show Go p e below _ (T14.setTop (mkF m 12 #[.val (.int p1), .val (.int (2 : Int32)), .val (.ref w_INT64), .unset] [(.int (4 : Int32)), (.int (2 : Int32))]))
    refine Go.st (fun _ kk => XS.icmpNo X14.here hx rfl (hb hby at_12) rfl (tlt (by decide : ((2 : Int32) < (4 : Int32)))).2.1 kk) ?_
    show Go p e below _ (T14.setTop (mkF m 15 #[.val (.int p1), .val (.int (2 : Int32)), .val (.ref w_INT64), .unset] []))
    refine Go.st (fun _ kk => XS.iconst X14.here hx rfl (hb hby at_15) kk) ?_
    show Go p e below _ (T14.setTop (mkF m 16 #[.val (.int p1), .val (.int (2 : Int32)), .val (.ref w_INT64), .unset] [(.int (1 : Int32))]))
    refine Go.st (fun _ kk => XS.goto X14.here hx rfl (pc0 := 16) (pc' := 20) rfl (hb hby at_16) (by decide) (by decide) kk) ?_
    show Go p e below _ (T14.setTop (mkF m 20 #[.val (.int p1), .val (.int (2 : Int32)), .val (.ref w_INT64), .unset] [(.int (1 : Int32))]))
    refine Go.st (fun _ kk => XS.istoreN X14.here hx rfl (hb hby at_20) rfl (l' := #[.val (.int p1), .val (.int (2 : Int32)), .val (.ref w_INT64), .val (.int (1 : Int32))]) rfl kk) ?_
    show Go p e below _ (T14.setTop (mkF m 21 #[.val (.int p1), .val (.int (2 : Int32)), .val (.ref w_INT64), .val (.int (1 : Int32))] []))
    refine Go.st (fun _ kk => XS.aloadN X14.here hx rfl (hb hby at_21) rfl rfl  kk) ?_
    show Go p e below _ (T14.setTop (mkF m 22 #[.val (.int p1), .val (.int (2 : Int32)), .val (.ref w_INT64), .val (.int (1 : Int32))] [(.ref w_INT64)]))
    obtain ⟨cq15, kq15, q15a, q15b, q15c⟩ := isOf hZ eq14 E_w_INT64
    obtain ⟨_, _, ⟨T15, L15, k15, n15⟩, -, X15, ⟨Lc15, hQ15, l15, y15, z15⟩, st15⟩ := X14.virtualBack hx (y := (⟨"com/example/zarnitsa/zarnitsa/FastTemplate$Type", "isInteger", "()Z"⟩ : MethodName)) (z := (⟨"com/example/zarnitsa/zarnitsa/FastTemplate$Type", "isInteger", "()Z"⟩ : MethodName)) hown (mvT hZ (hw _ (List.mem_of_getElem? (i := 7) rfl))) (mvT hZ (hw _ (List.mem_of_getElem? (i := 8) rfl))) (notFace_of_selects (args := #[]) (mvT hZ (hw _ (List.mem_of_getElem? (i := 10) rfl)))) (mvT hZ (hw _ (List.mem_of_getElem? (i := 10) rfl))) (mvT hZ (hw _ (List.mem_of_getElem? (i := 9) rfl))) (by decide) (backOf (W := 0) (rm2_fft l Z a0 hw [] w_INT64 w_INT32 w_UINT32 w_INT64 h0 n0 Z0 S_INT32 (Fld.ne F_ordinal_w_INT64 F_ordinal_w_INT32 (by decide)) S_UINT32 (Fld.ne F_ordinal_w_INT64 F_ordinal_w_UINT32 (by decide)) S_INT64 (rfl : w_INT64 = w_INT64)) hZ (hw _ (List.mem_of_getElem? (i := 11) rfl)) (hw _ (List.mem_of_getElem? (i := 5) rfl)) (by decide) (by decide)) q15a q15c (g := (mkF m 22 #[.val (.int p1), .val (.int (2 : Int32)), .val (.ref w_INT64), .val (.int (1 : Int32))] [(.ref w_INT64)])) rfl (by rw [hml]; rfl) (Steps.refl _) (argsL := []) (rest := []) (lenOf pd_1 rfl) rfl (by show 2 * 0 + _ ≤ _; exact Nat.le_of_eq rfl) (hb hby at_22) (fun _ _ => ⟨rfl, eq14, (by decide : 0 + 0 ≤ _), (by decide : 0 + 0 ≤ _)⟩)
    dsimp only [Pt.U, Pt.locs, Pt.cells, Pt.slots] at X15 l15 y15 z15 st15 hQ15
    subst l15 y15 z15
    obtain ⟨rfl, N15q, eq15⟩ := hQ15
    have N15 := Fr.app N14 N15q
    refine Go.tr st15 ?_
    show Go p e below _ (T15.setTop (mkF m 25 #[.val (.int p1), .val (.int (2 : Int32)), .val (.ref w_INT64), .val (.int (1 : Int32))] [(.int (1 : Int32))]))
    refine Go.st (fun _ kk => XS.iloadN X15.here hx rfl (hb hby at_25) rfl  kk) ?_
    show Go p e below _ (T15.setTop (mkF m 26 #[.val (.int p1), .val (.int (2 : Int32)), .val (.ref w_INT64), .val (.int (1 : Int32))] [(.int (1 : Int32)), (.int (1 : Int32))]))
    refine Go.st (fun _ kk => XS.icmpNo X15.here hx rfl (hb hby at_26) rfl (teq (by decide : ((1 : Int32) = (1 : Int32)))).2 kk) ?_
    show Go p e below _ (T15.setTop (mkF m 29 #[.val (.int p1), .val (.int (2 : Int32)), .val (.ref w_INT64), .val (.int (1 : Int32))] []))
    refine Go.st (fun _ kk => XS.iconst X15.here hx rfl (hb hby at_29) kk) ?_
    show Go p e below _ (T15.setTop (mkF m 30 #[.val (.int p1), .val (.int (2 : Int32)), .val (.ref w_INT64), .val (.int (1 : Int32))] [(.int (1 : Int32))]))
    refine Go.st (fun _ kk => XS.goto X15.here hx rfl (pc0 := 30) (pc' := 34) rfl (hb hby at_30) (by decide) (by decide) kk) ?_
    show Go p e below _ (T15.setTop (mkF m 34 #[.val (.int p1), .val (.int (2 : Int32)), .val (.ref w_INT64), .val (.int (1 : Int32))] [(.int (1 : Int32))]))
    exact Go.ret (Q := Q0 n0) X15 (v := some (.int (1 : Int32))) (fun h => by rw [Bd.returns] at h; cases h) Bd.notSynchronized (fun fs hr => retN X15 hx (t := .boolean) Bd.returns (by simp) (hb hby at_34) hr) eq15 ⟨rfl, N15⟩ (by decide) (by decide)
  · skip
    rw [hk5]
    show Go p e below _ (s₁.setTop (mkF m 4 #[.val (.int p1), .unset, .unset, .unset] [(.int (3 : Int32))]))
    refine Go.st (fun _ kk => XS.istoreN X0.here hx rfl (hb hby at_4) rfl (l' := #[.val (.int p1), .val (.int (3 : Int32)), .unset, .unset]) rfl kk) ?_
    show Go p e below _ (s₁.setTop (mkF m 5 #[.val (.int p1), .val (.int (3 : Int32)), .unset, .unset] []))
    refine Go.st (fun _ kk => XS.iloadN X0.here hx rfl (hb hby at_5) rfl  kk) ?_
    show Go p e below _ (s₁.setTop (mkF m 6 #[.val (.int p1), .val (.int (3 : Int32)), .unset, .unset] [(.int (3 : Int32))]))
    obtain ⟨_, _, ⟨T16, L16, k16, n16⟩, -, X16, ⟨Lc16, hQ16, l16, y16, z16⟩, st16⟩ := Jvm.LawKit.callS X0 hx (y := (⟨"com/example/zarnitsa/zarnitsa/TypeIsIntegerPinLaw", "pick", "(I)Lcom/example/zarnitsa/zarnitsa/FastTemplate$Type;"⟩ : MethodName)) hown (mvT hZ (hw _ (List.mem_of_getElem? (i := 0) rfl))) (mvT hZ (hw _ (List.mem_of_getElem? (i := 1) rfl))) (mvT hZ (hw _ (List.mem_of_getElem? (i := 2) rfl))) (mvT hZ (hw _ (List.mem_of_getElem? (i := 3) rfl))) (by decide) (backOf (W := 0) (rm1_ffft l Z a0 hw [] (3 : Int32) w_UINT64 h0 n0 Z0 (by decide : ¬ ((3 : Int32) = (0 : Int32))) (by decide : ¬ ((3 : Int32) = (1 : Int32))) (by decide : ¬ ((3 : Int32) = (2 : Int32))) (by decide : ((3 : Int32) = (3 : Int32))) S_UINT64) hZ (hw _ (List.mem_of_getElem? (i := 3) rfl)) (hw _ (List.mem_of_getElem? (i := 2) rfl)) (by decide) (by decide)) (g := (mkF m 6 #[.val (.int p1), .val (.int (3 : Int32)), .unset, .unset] [(.int (3 : Int32))])) rfl (by rw [hml]; rfl) (argsL := [(.int (3 : Int32))]) (rest := []) (lenOf pd_0 rfl) rfl (by show 2 * 0 + _ ≤ _; exact Nat.le_of_eq rfl) (hb hby at_6) (fun _ _ => ⟨rfl, e0, (by decide : 0 + 0 ≤ _), (by decide : 0 + 0 ≤ _)⟩)
    dsimp only [Pt.U, Pt.locs, Pt.cells, Pt.slots] at X16 l16 y16 z16 st16 hQ16
    subst l16 y16 z16
    obtain ⟨rfl, N16q, eq16⟩ := hQ16
    have N16 := Fr.app N0 N16q
    refine Go.st st16 ?_
    show Go p e below _ (T16.setTop (mkF m 9 #[.val (.int p1), .val (.int (3 : Int32)), .unset, .unset] [(.ref w_UINT64)]))
    refine Go.st (fun _ kk => XS.astoreN X16.here hx rfl (hb hby at_9) rfl rfl (l' := #[.val (.int p1), .val (.int (3 : Int32)), .val (.ref w_UINT64), .unset]) rfl kk) ?_
    show Go p e below _ (T16.setTop (mkF m 10 #[.val (.int p1), .val (.int (3 : Int32)), .val (.ref w_UINT64), .unset] []))
    refine Go.st (fun _ kk => XS.iloadN X16.here hx rfl (hb hby at_10) rfl  kk) ?_
    show Go p e below _ (T16.setTop (mkF m 11 #[.val (.int p1), .val (.int (3 : Int32)), .val (.ref w_UINT64), .unset] [(.int (3 : Int32))]))
    refine Go.st (fun _ kk => XS.iconst X16.here hx rfl (hb hby at_11) kk) ?_
    show Go p e below _ (T16.setTop (mkF m 12 #[.val (.int p1), .val (.int (3 : Int32)), .val (.ref w_UINT64), .unset] [(.int (4 : Int32)), (.int (3 : Int32))]))
    refine Go.st (fun _ kk => XS.icmpNo X16.here hx rfl (hb hby at_12) rfl (tlt (by decide : ((3 : Int32) < (4 : Int32)))).2.1 kk) ?_
    show Go p e below _ (T16.setTop (mkF m 15 #[.val (.int p1), .val (.int (3 : Int32)), .val (.ref w_UINT64), .unset] []))
    refine Go.st (fun _ kk => XS.iconst X16.here hx rfl (hb hby at_15) kk) ?_
    show Go p e below _ (T16.setTop (mkF m 16 #[.val (.int p1), .val (.int (3 : Int32)), .val (.ref w_UINT64), .unset] [(.int (1 : Int32))]))
    refine Go.st (fun _ kk => XS.goto X16.here hx rfl (pc0 := 16) (pc' := 20) rfl (hb hby at_16) (by decide) (by decide) kk) ?_
    show Go p e below _ (T16.setTop (mkF m 20 #[.val (.int p1), .val (.int (3 : Int32)), .val (.ref w_UINT64), .unset] [(.int (1 : Int32))]))
    refine Go.st (fun _ kk => XS.istoreN X16.here hx rfl (hb hby at_20) rfl (l' := #[.val (.int p1), .val (.int (3 : Int32)), .val (.ref w_UINT64), .val (.int (1 : Int32))]) rfl kk) ?_
    show Go p e below _ (T16.setTop (mkF m 21 #[.val (.int p1), .val (.int (3 : Int32)), .val (.ref w_UINT64), .val (.int (1 : Int32))] []))
    refine Go.st (fun _ kk => XS.aloadN X16.here hx rfl (hb hby at_21) rfl rfl  kk) ?_
    show Go p e below _ (T16.setTop (mkF m 22 #[.val (.int p1), .val (.int (3 : Int32)), .val (.ref w_UINT64), .val (.int (1 : Int32))] [(.ref w_UINT64)]))
    obtain ⟨cq17, kq17, q17a, q17b, q17c⟩ := isOf hZ eq16 E_w_UINT64
    obtain ⟨_, _, ⟨T17, L17, k17, n17⟩, -, X17, ⟨Lc17, hQ17, l17, y17, z17⟩, st17⟩ := X16.virtualBack hx (y := (⟨"com/example/zarnitsa/zarnitsa/FastTemplate$Type", "isInteger", "()Z"⟩ : MethodName)) (z := (⟨"com/example/zarnitsa/zarnitsa/FastTemplate$Type", "isInteger", "()Z"⟩ : MethodName)) hown (mvT hZ (hw _ (List.mem_of_getElem? (i := 7) rfl))) (mvT hZ (hw _ (List.mem_of_getElem? (i := 8) rfl))) (notFace_of_selects (args := #[]) (mvT hZ (hw _ (List.mem_of_getElem? (i := 10) rfl)))) (mvT hZ (hw _ (List.mem_of_getElem? (i := 10) rfl))) (mvT hZ (hw _ (List.mem_of_getElem? (i := 9) rfl))) (by decide) (backOf (W := 0) (rm2_ffft l Z a0 hw [] w_UINT64 w_INT32 w_UINT32 w_INT64 w_UINT64 h0 n0 Z0 S_INT32 (Fld.ne F_ordinal_w_UINT64 F_ordinal_w_INT32 (by decide)) S_UINT32 (Fld.ne F_ordinal_w_UINT64 F_ordinal_w_UINT32 (by decide)) S_INT64 (Fld.ne F_ordinal_w_UINT64 F_ordinal_w_INT64 (by decide)) S_UINT64 (rfl : w_UINT64 = w_UINT64)) hZ (hw _ (List.mem_of_getElem? (i := 11) rfl)) (hw _ (List.mem_of_getElem? (i := 5) rfl)) (by decide) (by decide)) q17a q17c (g := (mkF m 22 #[.val (.int p1), .val (.int (3 : Int32)), .val (.ref w_UINT64), .val (.int (1 : Int32))] [(.ref w_UINT64)])) rfl (by rw [hml]; rfl) (Steps.refl _) (argsL := []) (rest := []) (lenOf pd_1 rfl) rfl (by show 2 * 0 + _ ≤ _; exact Nat.le_of_eq rfl) (hb hby at_22) (fun _ _ => ⟨rfl, eq16, (by decide : 0 + 0 ≤ _), (by decide : 0 + 0 ≤ _)⟩)
    dsimp only [Pt.U, Pt.locs, Pt.cells, Pt.slots] at X17 l17 y17 z17 st17 hQ17
    subst l17 y17 z17
    obtain ⟨rfl, N17q, eq17⟩ := hQ17
    have N17 := Fr.app N16 N17q
    refine Go.tr st17 ?_
    show Go p e below _ (T17.setTop (mkF m 25 #[.val (.int p1), .val (.int (3 : Int32)), .val (.ref w_UINT64), .val (.int (1 : Int32))] [(.int (1 : Int32))]))
    refine Go.st (fun _ kk => XS.iloadN X17.here hx rfl (hb hby at_25) rfl  kk) ?_
    show Go p e below _ (T17.setTop (mkF m 26 #[.val (.int p1), .val (.int (3 : Int32)), .val (.ref w_UINT64), .val (.int (1 : Int32))] [(.int (1 : Int32)), (.int (1 : Int32))]))
    refine Go.st (fun _ kk => XS.icmpNo X17.here hx rfl (hb hby at_26) rfl (teq (by decide : ((1 : Int32) = (1 : Int32)))).2 kk) ?_
    show Go p e below _ (T17.setTop (mkF m 29 #[.val (.int p1), .val (.int (3 : Int32)), .val (.ref w_UINT64), .val (.int (1 : Int32))] []))
    refine Go.st (fun _ kk => XS.iconst X17.here hx rfl (hb hby at_29) kk) ?_
    show Go p e below _ (T17.setTop (mkF m 30 #[.val (.int p1), .val (.int (3 : Int32)), .val (.ref w_UINT64), .val (.int (1 : Int32))] [(.int (1 : Int32))]))
    refine Go.st (fun _ kk => XS.goto X17.here hx rfl (pc0 := 30) (pc' := 34) rfl (hb hby at_30) (by decide) (by decide) kk) ?_
    show Go p e below _ (T17.setTop (mkF m 34 #[.val (.int p1), .val (.int (3 : Int32)), .val (.ref w_UINT64), .val (.int (1 : Int32))] [(.int (1 : Int32))]))
    exact Go.ret (Q := Q0 n0) X17 (v := some (.int (1 : Int32))) (fun h => by rw [Bd.returns] at h; cases h) Bd.notSynchronized (fun fs hr => retN X17 hx (t := .boolean) Bd.returns (by simp) (hb hby at_34) hr) eq17 ⟨rfl, N17⟩ (by decide) (by decide)
  · skip
    rw [hk6]
    show Go p e below _ (s₁.setTop (mkF m 4 #[.val (.int p1), .unset, .unset, .unset] [(.int (4 : Int32))]))
    refine Go.st (fun _ kk => XS.istoreN X0.here hx rfl (hb hby at_4) rfl (l' := #[.val (.int p1), .val (.int (4 : Int32)), .unset, .unset]) rfl kk) ?_
    show Go p e below _ (s₁.setTop (mkF m 5 #[.val (.int p1), .val (.int (4 : Int32)), .unset, .unset] []))
    refine Go.st (fun _ kk => XS.iloadN X0.here hx rfl (hb hby at_5) rfl  kk) ?_
    show Go p e below _ (s₁.setTop (mkF m 6 #[.val (.int p1), .val (.int (4 : Int32)), .unset, .unset] [(.int (4 : Int32))]))
    obtain ⟨_, _, ⟨T18, L18, k18, n18⟩, -, X18, ⟨Lc18, hQ18, l18, y18, z18⟩, st18⟩ := Jvm.LawKit.callS X0 hx (y := (⟨"com/example/zarnitsa/zarnitsa/TypeIsIntegerPinLaw", "pick", "(I)Lcom/example/zarnitsa/zarnitsa/FastTemplate$Type;"⟩ : MethodName)) hown (mvT hZ (hw _ (List.mem_of_getElem? (i := 0) rfl))) (mvT hZ (hw _ (List.mem_of_getElem? (i := 1) rfl))) (mvT hZ (hw _ (List.mem_of_getElem? (i := 2) rfl))) (mvT hZ (hw _ (List.mem_of_getElem? (i := 3) rfl))) (by decide) (backOf (W := 0) (rm1_fffft l Z a0 hw [] (4 : Int32) w_DECIMAL h0 n0 Z0 (by decide : ¬ ((4 : Int32) = (0 : Int32))) (by decide : ¬ ((4 : Int32) = (1 : Int32))) (by decide : ¬ ((4 : Int32) = (2 : Int32))) (by decide : ¬ ((4 : Int32) = (3 : Int32))) (by decide : ((4 : Int32) = (4 : Int32))) S_DECIMAL) hZ (hw _ (List.mem_of_getElem? (i := 3) rfl)) (hw _ (List.mem_of_getElem? (i := 2) rfl)) (by decide) (by decide)) (g := (mkF m 6 #[.val (.int p1), .val (.int (4 : Int32)), .unset, .unset] [(.int (4 : Int32))])) rfl (by rw [hml]; rfl) (argsL := [(.int (4 : Int32))]) (rest := []) (lenOf pd_0 rfl) rfl (by show 2 * 0 + _ ≤ _; exact Nat.le_of_eq rfl) (hb hby at_6) (fun _ _ => ⟨rfl, e0, (by decide : 0 + 0 ≤ _), (by decide : 0 + 0 ≤ _)⟩)
    dsimp only [Pt.U, Pt.locs, Pt.cells, Pt.slots] at X18 l18 y18 z18 st18 hQ18
    subst l18 y18 z18
    obtain ⟨rfl, N18q, eq18⟩ := hQ18
    have N18 := Fr.app N0 N18q
    refine Go.st st18 ?_
    show Go p e below _ (T18.setTop (mkF m 9 #[.val (.int p1), .val (.int (4 : Int32)), .unset, .unset] [(.ref w_DECIMAL)]))
    refine Go.st (fun _ kk => XS.astoreN X18.here hx rfl (hb hby at_9) rfl rfl (l' := #[.val (.int p1), .val (.int (4 : Int32)), .val (.ref w_DECIMAL), .unset]) rfl kk) ?_
    show Go p e below _ (T18.setTop (mkF m 10 #[.val (.int p1), .val (.int (4 : Int32)), .val (.ref w_DECIMAL), .unset] []))
    refine Go.st (fun _ kk => XS.iloadN X18.here hx rfl (hb hby at_10) rfl  kk) ?_
    show Go p e below _ (T18.setTop (mkF m 11 #[.val (.int p1), .val (.int (4 : Int32)), .val (.ref w_DECIMAL), .unset] [(.int (4 : Int32))]))
    refine Go.st (fun _ kk => XS.iconst X18.here hx rfl (hb hby at_11) kk) ?_
    show Go p e below _ (T18.setTop (mkF m 12 #[.val (.int p1), .val (.int (4 : Int32)), .val (.ref w_DECIMAL), .unset] [(.int (4 : Int32)), (.int (4 : Int32))]))
    refine Go.st (fun _ kk => XS.icmpYes X18.here hx rfl (pc0 := 12) (pc' := 19) rfl (hb hby at_12) rfl (flt (by decide : ¬ ((4 : Int32) < (4 : Int32)))).2.1 (by decide) (by decide) kk) ?_
    show Go p e below _ (T18.setTop (mkF m 19 #[.val (.int p1), .val (.int (4 : Int32)), .val (.ref w_DECIMAL), .unset] []))
    refine Go.st (fun _ kk => XS.iconst X18.here hx rfl (hb hby at_19) kk) ?_
    show Go p e below _ (T18.setTop (mkF m 20 #[.val (.int p1), .val (.int (4 : Int32)), .val (.ref w_DECIMAL), .unset] [(.int (0 : Int32))]))
    refine Go.st (fun _ kk => XS.istoreN X18.here hx rfl (hb hby at_20) rfl (l' := #[.val (.int p1), .val (.int (4 : Int32)), .val (.ref w_DECIMAL), .val (.int (0 : Int32))]) rfl kk) ?_
    show Go p e below _ (T18.setTop (mkF m 21 #[.val (.int p1), .val (.int (4 : Int32)), .val (.ref w_DECIMAL), .val (.int (0 : Int32))] []))
    refine Go.st (fun _ kk => XS.aloadN X18.here hx rfl (hb hby at_21) rfl rfl  kk) ?_
    show Go p e below _ (T18.setTop (mkF m 22 #[.val (.int p1), .val (.int (4 : Int32)), .val (.ref w_DECIMAL), .val (.int (0 : Int32))] [(.ref w_DECIMAL)]))
    obtain ⟨cq19, kq19, q19a, q19b, q19c⟩ := isOf hZ eq18 E_w_DECIMAL
    obtain ⟨_, _, ⟨T19, L19, k19, n19⟩, -, X19, ⟨Lc19, hQ19, l19, y19, z19⟩, st19⟩ := X18.virtualBack hx (y := (⟨"com/example/zarnitsa/zarnitsa/FastTemplate$Type", "isInteger", "()Z"⟩ : MethodName)) (z := (⟨"com/example/zarnitsa/zarnitsa/FastTemplate$Type", "isInteger", "()Z"⟩ : MethodName)) hown (mvT hZ (hw _ (List.mem_of_getElem? (i := 7) rfl))) (mvT hZ (hw _ (List.mem_of_getElem? (i := 8) rfl))) (notFace_of_selects (args := #[]) (mvT hZ (hw _ (List.mem_of_getElem? (i := 10) rfl)))) (mvT hZ (hw _ (List.mem_of_getElem? (i := 10) rfl))) (mvT hZ (hw _ (List.mem_of_getElem? (i := 9) rfl))) (by decide) (backOf (W := 0) (rm2_ffff l Z a0 hw [] w_DECIMAL w_INT32 w_UINT32 w_INT64 w_UINT64 h0 n0 Z0 S_INT32 (Fld.ne F_ordinal_w_DECIMAL F_ordinal_w_INT32 (by decide)) S_UINT32 (Fld.ne F_ordinal_w_DECIMAL F_ordinal_w_UINT32 (by decide)) S_INT64 (Fld.ne F_ordinal_w_DECIMAL F_ordinal_w_INT64 (by decide)) S_UINT64 (Fld.ne F_ordinal_w_DECIMAL F_ordinal_w_UINT64 (by decide))) hZ (hw _ (List.mem_of_getElem? (i := 11) rfl)) (hw _ (List.mem_of_getElem? (i := 5) rfl)) (by decide) (by decide)) q19a q19c (g := (mkF m 22 #[.val (.int p1), .val (.int (4 : Int32)), .val (.ref w_DECIMAL), .val (.int (0 : Int32))] [(.ref w_DECIMAL)])) rfl (by rw [hml]; rfl) (Steps.refl _) (argsL := []) (rest := []) (lenOf pd_1 rfl) rfl (by show 2 * 0 + _ ≤ _; exact Nat.le_of_eq rfl) (hb hby at_22) (fun _ _ => ⟨rfl, eq18, (by decide : 0 + 0 ≤ _), (by decide : 0 + 0 ≤ _)⟩)
    dsimp only [Pt.U, Pt.locs, Pt.cells, Pt.slots] at X19 l19 y19 z19 st19 hQ19
    subst l19 y19 z19
    obtain ⟨rfl, N19q, eq19⟩ := hQ19
    have N19 := Fr.app N18 N19q
    refine Go.tr st19 ?_
    show Go p e below _ (T19.setTop (mkF m 25 #[.val (.int p1), .val (.int (4 : Int32)), .val (.ref w_DECIMAL), .val (.int (0 : Int32))] [(.int (0 : Int32))]))
    refine Go.st (fun _ kk => XS.iloadN X19.here hx rfl (hb hby at_25) rfl  kk) ?_
    show Go p e below _ (T19.setTop (mkF m 26 #[.val (.int p1), .val (.int (4 : Int32)), .val (.ref w_DECIMAL), .val (.int (0 : Int32))] [(.int (0 : Int32)), (.int (0 : Int32))]))
    refine Go.st (fun _ kk => XS.icmpNo X19.here hx rfl (hb hby at_26) rfl (teq (by decide : ((0 : Int32) = (0 : Int32)))).2 kk) ?_
    show Go p e below _ (T19.setTop (mkF m 29 #[.val (.int p1), .val (.int (4 : Int32)), .val (.ref w_DECIMAL), .val (.int (0 : Int32))] []))
    refine Go.st (fun _ kk => XS.iconst X19.here hx rfl (hb hby at_29) kk) ?_
    show Go p e below _ (T19.setTop (mkF m 30 #[.val (.int p1), .val (.int (4 : Int32)), .val (.ref w_DECIMAL), .val (.int (0 : Int32))] [(.int (1 : Int32))]))
    refine Go.st (fun _ kk => XS.goto X19.here hx rfl (pc0 := 30) (pc' := 34) rfl (hb hby at_30) (by decide) (by decide) kk) ?_
    show Go p e below _ (T19.setTop (mkF m 34 #[.val (.int p1), .val (.int (4 : Int32)), .val (.ref w_DECIMAL), .val (.int (0 : Int32))] [(.int (1 : Int32))]))
    exact Go.ret (Q := Q0 n0) X19 (v := some (.int (1 : Int32))) (fun h => by rw [Bd.returns] at h; cases h) Bd.notSynchronized (fun fs hr => retN X19 hx (t := .boolean) Bd.returns (by simp) (hb hby at_34) hr) eq19 ⟨rfl, N19⟩ (by decide) (by decide)
  · skip
    rw [hk7]
    show Go p e below _ (s₁.setTop (mkF m 4 #[.val (.int p1), .unset, .unset, .unset] [(.int (5 : Int32))]))
    refine Go.st (fun _ kk => XS.istoreN X0.here hx rfl (hb hby at_4) rfl (l' := #[.val (.int p1), .val (.int (5 : Int32)), .unset, .unset]) rfl kk) ?_
    show Go p e below _ (s₁.setTop (mkF m 5 #[.val (.int p1), .val (.int (5 : Int32)), .unset, .unset] []))
    refine Go.st (fun _ kk => XS.iloadN X0.here hx rfl (hb hby at_5) rfl  kk) ?_
    show Go p e below _ (s₁.setTop (mkF m 6 #[.val (.int p1), .val (.int (5 : Int32)), .unset, .unset] [(.int (5 : Int32))]))
    obtain ⟨_, _, ⟨T20, L20, k20, n20⟩, -, X20, ⟨Lc20, hQ20, l20, y20, z20⟩, st20⟩ := Jvm.LawKit.callS X0 hx (y := (⟨"com/example/zarnitsa/zarnitsa/TypeIsIntegerPinLaw", "pick", "(I)Lcom/example/zarnitsa/zarnitsa/FastTemplate$Type;"⟩ : MethodName)) hown (mvT hZ (hw _ (List.mem_of_getElem? (i := 0) rfl))) (mvT hZ (hw _ (List.mem_of_getElem? (i := 1) rfl))) (mvT hZ (hw _ (List.mem_of_getElem? (i := 2) rfl))) (mvT hZ (hw _ (List.mem_of_getElem? (i := 3) rfl))) (by decide) (backOf (W := 0) (rm1_ffffft l Z a0 hw [] (5 : Int32) w_ASCII h0 n0 Z0 (by decide : ¬ ((5 : Int32) = (0 : Int32))) (by decide : ¬ ((5 : Int32) = (1 : Int32))) (by decide : ¬ ((5 : Int32) = (2 : Int32))) (by decide : ¬ ((5 : Int32) = (3 : Int32))) (by decide : ¬ ((5 : Int32) = (4 : Int32))) (by decide : ((5 : Int32) = (5 : Int32))) S_ASCII) hZ (hw _ (List.mem_of_getElem? (i := 3) rfl)) (hw _ (List.mem_of_getElem? (i := 2) rfl)) (by decide) (by decide)) (g := (mkF m 6 #[.val (.int p1), .val (.int (5 : Int32)), .unset, .unset] [(.int (5 : Int32))])) rfl (by rw [hml]; rfl) (argsL := [(.int (5 : Int32))]) (rest := []) (lenOf pd_0 rfl) rfl (by show 2 * 0 + _ ≤ _; exact Nat.le_of_eq rfl) (hb hby at_6) (fun _ _ => ⟨rfl, e0, (by decide : 0 + 0 ≤ _), (by decide : 0 + 0 ≤ _)⟩)
    dsimp only [Pt.U, Pt.locs, Pt.cells, Pt.slots] at X20 l20 y20 z20 st20 hQ20
    subst l20 y20 z20
    obtain ⟨rfl, N20q, eq20⟩ := hQ20
    have N20 := Fr.app N0 N20q
    refine Go.st st20 ?_
    show Go p e below _ (T20.setTop (mkF m 9 #[.val (.int p1), .val (.int (5 : Int32)), .unset, .unset] [(.ref w_ASCII)]))
    refine Go.st (fun _ kk => XS.astoreN X20.here hx rfl (hb hby at_9) rfl rfl (l' := #[.val (.int p1), .val (.int (5 : Int32)), .val (.ref w_ASCII), .unset]) rfl kk) ?_
    show Go p e below _ (T20.setTop (mkF m 10 #[.val (.int p1), .val (.int (5 : Int32)), .val (.ref w_ASCII), .unset] []))
    refine Go.st (fun _ kk => XS.iloadN X20.here hx rfl (hb hby at_10) rfl  kk) ?_
    show Go p e below _ (T20.setTop (mkF m 11 #[.val (.int p1), .val (.int (5 : Int32)), .val (.ref w_ASCII), .unset] [(.int (5 : Int32))]))
    refine Go.st (fun _ kk => XS.iconst X20.here hx rfl (hb hby at_11) kk) ?_
    show Go p e below _ (T20.setTop (mkF m 12 #[.val (.int p1), .val (.int (5 : Int32)), .val (.ref w_ASCII), .unset] [(.int (4 : Int32)), (.int (5 : Int32))]))
    refine Go.st (fun _ kk => XS.icmpYes X20.here hx rfl (pc0 := 12) (pc' := 19) rfl (hb hby at_12) rfl (flt (by decide : ¬ ((5 : Int32) < (4 : Int32)))).2.1 (by decide) (by decide) kk) ?_
    show Go p e below _ (T20.setTop (mkF m 19 #[.val (.int p1), .val (.int (5 : Int32)), .val (.ref w_ASCII), .unset] []))
    refine Go.st (fun _ kk => XS.iconst X20.here hx rfl (hb hby at_19) kk) ?_
    show Go p e below _ (T20.setTop (mkF m 20 #[.val (.int p1), .val (.int (5 : Int32)), .val (.ref w_ASCII), .unset] [(.int (0 : Int32))]))
    refine Go.st (fun _ kk => XS.istoreN X20.here hx rfl (hb hby at_20) rfl (l' := #[.val (.int p1), .val (.int (5 : Int32)), .val (.ref w_ASCII), .val (.int (0 : Int32))]) rfl kk) ?_
    show Go p e below _ (T20.setTop (mkF m 21 #[.val (.int p1), .val (.int (5 : Int32)), .val (.ref w_ASCII), .val (.int (0 : Int32))] []))
    refine Go.st (fun _ kk => XS.aloadN X20.here hx rfl (hb hby at_21) rfl rfl  kk) ?_
    show Go p e below _ (T20.setTop (mkF m 22 #[.val (.int p1), .val (.int (5 : Int32)), .val (.ref w_ASCII), .val (.int (0 : Int32))] [(.ref w_ASCII)]))
    obtain ⟨cq21, kq21, q21a, q21b, q21c⟩ := isOf hZ eq20 E_w_ASCII
    obtain ⟨_, _, ⟨T21, L21, k21, n21⟩, -, X21, ⟨Lc21, hQ21, l21, y21, z21⟩, st21⟩ := X20.virtualBack hx (y := (⟨"com/example/zarnitsa/zarnitsa/FastTemplate$Type", "isInteger", "()Z"⟩ : MethodName)) (z := (⟨"com/example/zarnitsa/zarnitsa/FastTemplate$Type", "isInteger", "()Z"⟩ : MethodName)) hown (mvT hZ (hw _ (List.mem_of_getElem? (i := 7) rfl))) (mvT hZ (hw _ (List.mem_of_getElem? (i := 8) rfl))) (notFace_of_selects (args := #[]) (mvT hZ (hw _ (List.mem_of_getElem? (i := 10) rfl)))) (mvT hZ (hw _ (List.mem_of_getElem? (i := 10) rfl))) (mvT hZ (hw _ (List.mem_of_getElem? (i := 9) rfl))) (by decide) (backOf (W := 0) (rm2_ffff l Z a0 hw [] w_ASCII w_INT32 w_UINT32 w_INT64 w_UINT64 h0 n0 Z0 S_INT32 (Fld.ne F_ordinal_w_ASCII F_ordinal_w_INT32 (by decide)) S_UINT32 (Fld.ne F_ordinal_w_ASCII F_ordinal_w_UINT32 (by decide)) S_INT64 (Fld.ne F_ordinal_w_ASCII F_ordinal_w_INT64 (by decide)) S_UINT64 (Fld.ne F_ordinal_w_ASCII F_ordinal_w_UINT64 (by decide))) hZ (hw _ (List.mem_of_getElem? (i := 11) rfl)) (hw _ (List.mem_of_getElem? (i := 5) rfl)) (by decide) (by decide)) q21a q21c (g := (mkF m 22 #[.val (.int p1), .val (.int (5 : Int32)), .val (.ref w_ASCII), .val (.int (0 : Int32))] [(.ref w_ASCII)])) rfl (by rw [hml]; rfl) (Steps.refl _) (argsL := []) (rest := []) (lenOf pd_1 rfl) rfl (by show 2 * 0 + _ ≤ _; exact Nat.le_of_eq rfl) (hb hby at_22) (fun _ _ => ⟨rfl, eq20, (by decide : 0 + 0 ≤ _), (by decide : 0 + 0 ≤ _)⟩)
    dsimp only [Pt.U, Pt.locs, Pt.cells, Pt.slots] at X21 l21 y21 z21 st21 hQ21
    subst l21 y21 z21
    obtain ⟨rfl, N21q, eq21⟩ := hQ21
    have N21 := Fr.app N20 N21q
    refine Go.tr st21 ?_
    show Go p e below _ (T21.setTop (mkF m 25 #[.val (.int p1), .val (.int (5 : Int32)), .val (.ref w_ASCII), .val (.int (0 : Int32))] [(.int (0 : Int32))]))
    refine Go.st (fun _ kk => XS.iloadN X21.here hx rfl (hb hby at_25) rfl  kk) ?_
    show Go p e below _ (T21.setTop (mkF m 26 #[.val (.int p1), .val (.int (5 : Int32)), .val (.ref w_ASCII), .val (.int (0 : Int32))] [(.int (0 : Int32)), (.int (0 : Int32))]))
    refine Go.st (fun _ kk => XS.icmpNo X21.here hx rfl (hb hby at_26) rfl (teq (by decide : ((0 : Int32) = (0 : Int32)))).2 kk) ?_
    show Go p e below _ (T21.setTop (mkF m 29 #[.val (.int p1), .val (.int (5 : Int32)), .val (.ref w_ASCII), .val (.int (0 : Int32))] []))
    refine Go.st (fun _ kk => XS.iconst X21.here hx rfl (hb hby at_29) kk) ?_
    show Go p e below _ (T21.setTop (mkF m 30 #[.val (.int p1), .val (.int (5 : Int32)), .val (.ref w_ASCII), .val (.int (0 : Int32))] [(.int (1 : Int32))]))
    refine Go.st (fun _ kk => XS.goto X21.here hx rfl (pc0 := 30) (pc' := 34) rfl (hb hby at_30) (by decide) (by decide) kk) ?_
    show Go p e below _ (T21.setTop (mkF m 34 #[.val (.int p1), .val (.int (5 : Int32)), .val (.ref w_ASCII), .val (.int (0 : Int32))] [(.int (1 : Int32))]))
    exact Go.ret (Q := Q0 n0) X21 (v := some (.int (1 : Int32))) (fun h => by rw [Bd.returns] at h; cases h) Bd.notSynchronized (fun fs hr => retN X21 hx (t := .boolean) Bd.returns (by simp) (hb hby at_34) hr) eq21 ⟨rfl, N21⟩ (by decide) (by decide)
  · skip
    rw [hk8]
    show Go p e below _ (s₁.setTop (mkF m 4 #[.val (.int p1), .unset, .unset, .unset] [(.int (6 : Int32))]))
    refine Go.st (fun _ kk => XS.istoreN X0.here hx rfl (hb hby at_4) rfl (l' := #[.val (.int p1), .val (.int (6 : Int32)), .unset, .unset]) rfl kk) ?_
    show Go p e below _ (s₁.setTop (mkF m 5 #[.val (.int p1), .val (.int (6 : Int32)), .unset, .unset] []))
    refine Go.st (fun _ kk => XS.iloadN X0.here hx rfl (hb hby at_5) rfl  kk) ?_
    show Go p e below _ (s₁.setTop (mkF m 6 #[.val (.int p1), .val (.int (6 : Int32)), .unset, .unset] [(.int (6 : Int32))]))
    obtain ⟨_, _, ⟨T22, L22, k22, n22⟩, -, X22, ⟨Lc22, hQ22, l22, y22, z22⟩, st22⟩ := Jvm.LawKit.callS X0 hx (y := (⟨"com/example/zarnitsa/zarnitsa/TypeIsIntegerPinLaw", "pick", "(I)Lcom/example/zarnitsa/zarnitsa/FastTemplate$Type;"⟩ : MethodName)) hown (mvT hZ (hw _ (List.mem_of_getElem? (i := 0) rfl))) (mvT hZ (hw _ (List.mem_of_getElem? (i := 1) rfl))) (mvT hZ (hw _ (List.mem_of_getElem? (i := 2) rfl))) (mvT hZ (hw _ (List.mem_of_getElem? (i := 3) rfl))) (by decide) (backOf (W := 0) (rm1_fffffft l Z a0 hw [] (6 : Int32) w_UNICODE h0 n0 Z0 (by decide : ¬ ((6 : Int32) = (0 : Int32))) (by decide : ¬ ((6 : Int32) = (1 : Int32))) (by decide : ¬ ((6 : Int32) = (2 : Int32))) (by decide : ¬ ((6 : Int32) = (3 : Int32))) (by decide : ¬ ((6 : Int32) = (4 : Int32))) (by decide : ¬ ((6 : Int32) = (5 : Int32))) (by decide : ((6 : Int32) = (6 : Int32))) S_UNICODE) hZ (hw _ (List.mem_of_getElem? (i := 3) rfl)) (hw _ (List.mem_of_getElem? (i := 2) rfl)) (by decide) (by decide)) (g := (mkF m 6 #[.val (.int p1), .val (.int (6 : Int32)), .unset, .unset] [(.int (6 : Int32))])) rfl (by rw [hml]; rfl) (argsL := [(.int (6 : Int32))]) (rest := []) (lenOf pd_0 rfl) rfl (by show 2 * 0 + _ ≤ _; exact Nat.le_of_eq rfl) (hb hby at_6) (fun _ _ => ⟨rfl, e0, (by decide : 0 + 0 ≤ _), (by decide : 0 + 0 ≤ _)⟩)
    dsimp only [Pt.U, Pt.locs, Pt.cells, Pt.slots] at X22 l22 y22 z22 st22 hQ22
    subst l22 y22 z22
    obtain ⟨rfl, N22q, eq22⟩ := hQ22
    have N22 := Fr.app N0 N22q
    refine Go.st st22 ?_
    show Go p e below _ (T22.setTop (mkF m 9 #[.val (.int p1), .val (.int (6 : Int32)), .unset, .unset] [(.ref w_UNICODE)]))
    refine Go.st (fun _ kk => XS.astoreN X22.here hx rfl (hb hby at_9) rfl rfl (l' := #[.val (.int p1), .val (.int (6 : Int32)), .val (.ref w_UNICODE), .unset]) rfl kk) ?_
    show Go p e below _ (T22.setTop (mkF m 10 #[.val (.int p1), .val (.int (6 : Int32)), .val (.ref w_UNICODE), .unset] []))
    refine Go.st (fun _ kk => XS.iloadN X22.here hx rfl (hb hby at_10) rfl  kk) ?_
    show Go p e below _ (T22.setTop (mkF m 11 #[.val (.int p1), .val (.int (6 : Int32)), .val (.ref w_UNICODE), .unset] [(.int (6 : Int32))]))
    refine Go.st (fun _ kk => XS.iconst X22.here hx rfl (hb hby at_11) kk) ?_
    show Go p e below _ (T22.setTop (mkF m 12 #[.val (.int p1), .val (.int (6 : Int32)), .val (.ref w_UNICODE), .unset] [(.int (4 : Int32)), (.int (6 : Int32))]))
    refine Go.st (fun _ kk => XS.icmpYes X22.here hx rfl (pc0 := 12) (pc' := 19) rfl (hb hby at_12) rfl (flt (by decide : ¬ ((6 : Int32) < (4 : Int32)))).2.1 (by decide) (by decide) kk) ?_
    show Go p e below _ (T22.setTop (mkF m 19 #[.val (.int p1), .val (.int (6 : Int32)), .val (.ref w_UNICODE), .unset] []))
    refine Go.st (fun _ kk => XS.iconst X22.here hx rfl (hb hby at_19) kk) ?_
    show Go p e below _ (T22.setTop (mkF m 20 #[.val (.int p1), .val (.int (6 : Int32)), .val (.ref w_UNICODE), .unset] [(.int (0 : Int32))]))
    refine Go.st (fun _ kk => XS.istoreN X22.here hx rfl (hb hby at_20) rfl (l' := #[.val (.int p1), .val (.int (6 : Int32)), .val (.ref w_UNICODE), .val (.int (0 : Int32))]) rfl kk) ?_
    show Go p e below _ (T22.setTop (mkF m 21 #[.val (.int p1), .val (.int (6 : Int32)), .val (.ref w_UNICODE), .val (.int (0 : Int32))] []))
    refine Go.st (fun _ kk => XS.aloadN X22.here hx rfl (hb hby at_21) rfl rfl  kk) ?_
    show Go p e below _ (T22.setTop (mkF m 22 #[.val (.int p1), .val (.int (6 : Int32)), .val (.ref w_UNICODE), .val (.int (0 : Int32))] [(.ref w_UNICODE)]))
    obtain ⟨cq23, kq23, q23a, q23b, q23c⟩ := isOf hZ eq22 E_w_UNICODE
    obtain ⟨_, _, ⟨T23, L23, k23, n23⟩, -, X23, ⟨Lc23, hQ23, l23, y23, z23⟩, st23⟩ := X22.virtualBack hx (y := (⟨"com/example/zarnitsa/zarnitsa/FastTemplate$Type", "isInteger", "()Z"⟩ : MethodName)) (z := (⟨"com/example/zarnitsa/zarnitsa/FastTemplate$Type", "isInteger", "()Z"⟩ : MethodName)) hown (mvT hZ (hw _ (List.mem_of_getElem? (i := 7) rfl))) (mvT hZ (hw _ (List.mem_of_getElem? (i := 8) rfl))) (notFace_of_selects (args := #[]) (mvT hZ (hw _ (List.mem_of_getElem? (i := 10) rfl)))) (mvT hZ (hw _ (List.mem_of_getElem? (i := 10) rfl))) (mvT hZ (hw _ (List.mem_of_getElem? (i := 9) rfl))) (by decide) (backOf (W := 0) (rm2_ffff l Z a0 hw [] w_UNICODE w_INT32 w_UINT32 w_INT64 w_UINT64 h0 n0 Z0 S_INT32 (Fld.ne F_ordinal_w_UNICODE F_ordinal_w_INT32 (by decide)) S_UINT32 (Fld.ne F_ordinal_w_UNICODE F_ordinal_w_UINT32 (by decide)) S_INT64 (Fld.ne F_ordinal_w_UNICODE F_ordinal_w_INT64 (by decide)) S_UINT64 (Fld.ne F_ordinal_w_UNICODE F_ordinal_w_UINT64 (by decide))) hZ (hw _ (List.mem_of_getElem? (i := 11) rfl)) (hw _ (List.mem_of_getElem? (i := 5) rfl)) (by decide) (by decide)) q23a q23c (g := (mkF m 22 #[.val (.int p1), .val (.int (6 : Int32)), .val (.ref w_UNICODE), .val (.int (0 : Int32))] [(.ref w_UNICODE)])) rfl (by rw [hml]; rfl) (Steps.refl _) (argsL := []) (rest := []) (lenOf pd_1 rfl) rfl (by show 2 * 0 + _ ≤ _; exact Nat.le_of_eq rfl) (hb hby at_22) (fun _ _ => ⟨rfl, eq22, (by decide : 0 + 0 ≤ _), (by decide : 0 + 0 ≤ _)⟩)
    dsimp only [Pt.U, Pt.locs, Pt.cells, Pt.slots] at X23 l23 y23 z23 st23 hQ23
    subst l23 y23 z23
    obtain ⟨rfl, N23q, eq23⟩ := hQ23
    have N23 := Fr.app N22 N23q
    refine Go.tr st23 ?_
    show Go p e below _ (T23.setTop (mkF m 25 #[.val (.int p1), .val (.int (6 : Int32)), .val (.ref w_UNICODE), .val (.int (0 : Int32))] [(.int (0 : Int32))]))
    refine Go.st (fun _ kk => XS.iloadN X23.here hx rfl (hb hby at_25) rfl  kk) ?_
    show Go p e below _ (T23.setTop (mkF m 26 #[.val (.int p1), .val (.int (6 : Int32)), .val (.ref w_UNICODE), .val (.int (0 : Int32))] [(.int (0 : Int32)), (.int (0 : Int32))]))
    refine Go.st (fun _ kk => XS.icmpNo X23.here hx rfl (hb hby at_26) rfl (teq (by decide : ((0 : Int32) = (0 : Int32)))).2 kk) ?_
    show Go p e below _ (T23.setTop (mkF m 29 #[.val (.int p1), .val (.int (6 : Int32)), .val (.ref w_UNICODE), .val (.int (0 : Int32))] []))
    refine Go.st (fun _ kk => XS.iconst X23.here hx rfl (hb hby at_29) kk) ?_
    show Go p e below _ (T23.setTop (mkF m 30 #[.val (.int p1), .val (.int (6 : Int32)), .val (.ref w_UNICODE), .val (.int (0 : Int32))] [(.int (1 : Int32))]))
    refine Go.st (fun _ kk => XS.goto X23.here hx rfl (pc0 := 30) (pc' := 34) rfl (hb hby at_30) (by decide) (by decide) kk) ?_
    show Go p e below _ (T23.setTop (mkF m 34 #[.val (.int p1), .val (.int (6 : Int32)), .val (.ref w_UNICODE), .val (.int (0 : Int32))] [(.int (1 : Int32))]))
    exact Go.ret (Q := Q0 n0) X23 (v := some (.int (1 : Int32))) (fun h => by rw [Bd.returns] at h; cases h) Bd.notSynchronized (fun fs hr => retN X23 hx (t := .boolean) Bd.returns (by simp) (hb hby at_34) hr) eq23 ⟨rfl, N23⟩ (by decide) (by decide)
  · skip
    rw [hk9]
    show Go p e below _ (s₁.setTop (mkF m 4 #[.val (.int p1), .unset, .unset, .unset] [(.int (7 : Int32))]))
    refine Go.st (fun _ kk => XS.istoreN X0.here hx rfl (hb hby at_4) rfl (l' := #[.val (.int p1), .val (.int (7 : Int32)), .unset, .unset]) rfl kk) ?_
    show Go p e below _ (s₁.setTop (mkF m 5 #[.val (.int p1), .val (.int (7 : Int32)), .unset, .unset] []))
    refine Go.st (fun _ kk => XS.iloadN X0.here hx rfl (hb hby at_5) rfl  kk) ?_
    show Go p e below _ (s₁.setTop (mkF m 6 #[.val (.int p1), .val (.int (7 : Int32)), .unset, .unset] [(.int (7 : Int32))]))
    obtain ⟨_, _, ⟨T24, L24, k24, n24⟩, -, X24, ⟨Lc24, hQ24, l24, y24, z24⟩, st24⟩ := Jvm.LawKit.callS X0 hx (y := (⟨"com/example/zarnitsa/zarnitsa/TypeIsIntegerPinLaw", "pick", "(I)Lcom/example/zarnitsa/zarnitsa/FastTemplate$Type;"⟩ : MethodName)) hown (mvT hZ (hw _ (List.mem_of_getElem? (i := 0) rfl))) (mvT hZ (hw _ (List.mem_of_getElem? (i := 1) rfl))) (mvT hZ (hw _ (List.mem_of_getElem? (i := 2) rfl))) (mvT hZ (hw _ (List.mem_of_getElem? (i := 3) rfl))) (by decide) (backOf (W := 0) (rm1_fffffff l Z a0 hw [] (7 : Int32) w_BYTE_VECTOR h0 n0 Z0 (by decide : ¬ ((7 : Int32) = (0 : Int32))) (by decide : ¬ ((7 : Int32) = (1 : Int32))) (by decide : ¬ ((7 : Int32) = (2 : Int32))) (by decide : ¬ ((7 : Int32) = (3 : Int32))) (by decide : ¬ ((7 : Int32) = (4 : Int32))) (by decide : ¬ ((7 : Int32) = (5 : Int32))) (by decide : ¬ ((7 : Int32) = (6 : Int32))) S_BYTE_VECTOR) hZ (hw _ (List.mem_of_getElem? (i := 3) rfl)) (hw _ (List.mem_of_getElem? (i := 2) rfl)) (by decide) (by decide)) (g := (mkF m 6 #[.val (.int p1), .val (.int (7 : Int32)), .unset, .unset] [(.int (7 : Int32))])) rfl (by rw [hml]; rfl) (argsL := [(.int (7 : Int32))]) (rest := []) (lenOf pd_0 rfl) rfl (by show 2 * 0 + _ ≤ _; exact Nat.le_of_eq rfl) (hb hby at_6) (fun _ _ => ⟨rfl, e0, (by decide : 0 + 0 ≤ _), (by decide : 0 + 0 ≤ _)⟩)
    dsimp only [Pt.U, Pt.locs, Pt.cells, Pt.slots] at X24 l24 y24 z24 st24 hQ24
    subst l24 y24 z24
    obtain ⟨rfl, N24q, eq24⟩ := hQ24
    have N24 := Fr.app N0 N24q
    refine Go.st st24 ?_
    show Go p e below _ (T24.setTop (mkF m 9 #[.val (.int p1), .val (.int (7 : Int32)), .unset, .unset] [(.ref w_BYTE_VECTOR)]))
    refine Go.st (fun _ kk => XS.astoreN X24.here hx rfl (hb hby at_9) rfl rfl (l' := #[.val (.int p1), .val (.int (7 : Int32)), .val (.ref w_BYTE_VECTOR), .unset]) rfl kk) ?_
    show Go p e below _ (T24.setTop (mkF m 10 #[.val (.int p1), .val (.int (7 : Int32)), .val (.ref w_BYTE_VECTOR), .unset] []))
    refine Go.st (fun _ kk => XS.iloadN X24.here hx rfl (hb hby at_10) rfl  kk) ?_
    show Go p e below _ (T24.setTop (mkF m 11 #[.val (.int p1), .val (.int (7 : Int32)), .val (.ref w_BYTE_VECTOR), .unset] [(.int (7 : Int32))]))
    refine Go.st (fun _ kk => XS.iconst X24.here hx rfl (hb hby at_11) kk) ?_
    show Go p e below _ (T24.setTop (mkF m 12 #[.val (.int p1), .val (.int (7 : Int32)), .val (.ref w_BYTE_VECTOR), .unset] [(.int (4 : Int32)), (.int (7 : Int32))]))
    refine Go.st (fun _ kk => XS.icmpYes X24.here hx rfl (pc0 := 12) (pc' := 19) rfl (hb hby at_12) rfl (flt (by decide : ¬ ((7 : Int32) < (4 : Int32)))).2.1 (by decide) (by decide) kk) ?_
    show Go p e below _ (T24.setTop (mkF m 19 #[.val (.int p1), .val (.int (7 : Int32)), .val (.ref w_BYTE_VECTOR), .unset] []))
    refine Go.st (fun _ kk => XS.iconst X24.here hx rfl (hb hby at_19) kk) ?_
    show Go p e below _ (T24.setTop (mkF m 20 #[.val (.int p1), .val (.int (7 : Int32)), .val (.ref w_BYTE_VECTOR), .unset] [(.int (0 : Int32))]))
    refine Go.st (fun _ kk => XS.istoreN X24.here hx rfl (hb hby at_20) rfl (l' := #[.val (.int p1), .val (.int (7 : Int32)), .val (.ref w_BYTE_VECTOR), .val (.int (0 : Int32))]) rfl kk) ?_
    show Go p e below _ (T24.setTop (mkF m 21 #[.val (.int p1), .val (.int (7 : Int32)), .val (.ref w_BYTE_VECTOR), .val (.int (0 : Int32))] []))
    refine Go.st (fun _ kk => XS.aloadN X24.here hx rfl (hb hby at_21) rfl rfl  kk) ?_
    show Go p e below _ (T24.setTop (mkF m 22 #[.val (.int p1), .val (.int (7 : Int32)), .val (.ref w_BYTE_VECTOR), .val (.int (0 : Int32))] [(.ref w_BYTE_VECTOR)]))
    obtain ⟨cq25, kq25, q25a, q25b, q25c⟩ := isOf hZ eq24 E_w_BYTE_VECTOR
    obtain ⟨_, _, ⟨T25, L25, k25, n25⟩, -, X25, ⟨Lc25, hQ25, l25, y25, z25⟩, st25⟩ := X24.virtualBack hx (y := (⟨"com/example/zarnitsa/zarnitsa/FastTemplate$Type", "isInteger", "()Z"⟩ : MethodName)) (z := (⟨"com/example/zarnitsa/zarnitsa/FastTemplate$Type", "isInteger", "()Z"⟩ : MethodName)) hown (mvT hZ (hw _ (List.mem_of_getElem? (i := 7) rfl))) (mvT hZ (hw _ (List.mem_of_getElem? (i := 8) rfl))) (notFace_of_selects (args := #[]) (mvT hZ (hw _ (List.mem_of_getElem? (i := 10) rfl)))) (mvT hZ (hw _ (List.mem_of_getElem? (i := 10) rfl))) (mvT hZ (hw _ (List.mem_of_getElem? (i := 9) rfl))) (by decide) (backOf (W := 0) (rm2_ffff l Z a0 hw [] w_BYTE_VECTOR w_INT32 w_UINT32 w_INT64 w_UINT64 h0 n0 Z0 S_INT32 (Fld.ne F_ordinal_w_BYTE_VECTOR F_ordinal_w_INT32 (by decide)) S_UINT32 (Fld.ne F_ordinal_w_BYTE_VECTOR F_ordinal_w_UINT32 (by decide)) S_INT64 (Fld.ne F_ordinal_w_BYTE_VECTOR F_ordinal_w_INT64 (by decide)) S_UINT64 (Fld.ne F_ordinal_w_BYTE_VECTOR F_ordinal_w_UINT64 (by decide))) hZ (hw _ (List.mem_of_getElem? (i := 11) rfl)) (hw _ (List.mem_of_getElem? (i := 5) rfl)) (by decide) (by decide)) q25a q25c (g := (mkF m 22 #[.val (.int p1), .val (.int (7 : Int32)), .val (.ref w_BYTE_VECTOR), .val (.int (0 : Int32))] [(.ref w_BYTE_VECTOR)])) rfl (by rw [hml]; rfl) (Steps.refl _) (argsL := []) (rest := []) (lenOf pd_1 rfl) rfl (by show 2 * 0 + _ ≤ _; exact Nat.le_of_eq rfl) (hb hby at_22) (fun _ _ => ⟨rfl, eq24, (by decide : 0 + 0 ≤ _), (by decide : 0 + 0 ≤ _)⟩)
    dsimp only [Pt.U, Pt.locs, Pt.cells, Pt.slots] at X25 l25 y25 z25 st25 hQ25
    subst l25 y25 z25
    obtain ⟨rfl, N25q, eq25⟩ := hQ25
    have N25 := Fr.app N24 N25q
    refine Go.tr st25 ?_
    show Go p e below _ (T25.setTop (mkF m 25 #[.val (.int p1), .val (.int (7 : Int32)), .val (.ref w_BYTE_VECTOR), .val (.int (0 : Int32))] [(.int (0 : Int32))]))
    refine Go.st (fun _ kk => XS.iloadN X25.here hx rfl (hb hby at_25) rfl  kk) ?_
    show Go p e below _ (T25.setTop (mkF m 26 #[.val (.int p1), .val (.int (7 : Int32)), .val (.ref w_BYTE_VECTOR), .val (.int (0 : Int32))] [(.int (0 : Int32)), (.int (0 : Int32))]))
    refine Go.st (fun _ kk => XS.icmpNo X25.here hx rfl (hb hby at_26) rfl (teq (by decide : ((0 : Int32) = (0 : Int32)))).2 kk) ?_
    show Go p e below _ (T25.setTop (mkF m 29 #[.val (.int p1), .val (.int (7 : Int32)), .val (.ref w_BYTE_VECTOR), .val (.int (0 : Int32))] []))
    refine Go.st (fun _ kk => XS.iconst X25.here hx rfl (hb hby at_29) kk) ?_
    show Go p e below _ (T25.setTop (mkF m 30 #[.val (.int p1), .val (.int (7 : Int32)), .val (.ref w_BYTE_VECTOR), .val (.int (0 : Int32))] [(.int (1 : Int32))]))
    refine Go.st (fun _ kk => XS.goto X25.here hx rfl (pc0 := 30) (pc' := 34) rfl (hb hby at_30) (by decide) (by decide) kk) ?_
    show Go p e below _ (T25.setTop (mkF m 34 #[.val (.int p1), .val (.int (7 : Int32)), .val (.ref w_BYTE_VECTOR), .val (.int (0 : Int32))] [(.int (1 : Int32))]))
    exact Go.ret (Q := Q0 n0) X25 (v := some (.int (1 : Int32))) (fun h => by rw [Bd.returns] at h; cases h) Bd.notSynchronized (fun fs hr => retN X25 hx (t := .boolean) Bd.returns (by simp) (hb hby at_34) hr) eq25 ⟨rfl, N25⟩ (by decide) (by decide)
set_option maxRecDepth 65536 in
set_option maxHeartbeats 40000000 in
theorem comes_1 {Post : Tables → Env → Array Value → State → Outcome → State → Prop} (hpost : ∀ tb e args s v u, (limb_1_1.after args s (.returned v) u = true ∧ limb_1_2.after args s (.returned v) u = true ∧ True) → FrameEnd s (.returned v) u (Jvm.fieldLocs frame_1_writes args s ++ Jvm.arrayLocs frame_1_arrays args s ++ Jvm.staticLocs frame_1_statics s) 0 0 → Post tb e args s (.returned v) u) :
    ArmFor flags0 classFile x code maxLocals ret World_1 tables_1 room_1 Calls_1 rest_1 Pre_1 Post := by
  intro l hfl _ _ p e ha hc hk s m args below hf hA hF happ hP
  obtain ⟨hcalls, hrest, hpre⟩ := hP
  obtain ⟨-, -, -, hnamed, -, -, -, hat⟩ := (Spec.applies_iff hf).mp happ
  obtain ⟨hg, hn⟩ := and_e (Cond.before_iff.mp (show (Jvm.Cond.and given_1 narrow_1).before args s = true from hpre))
  obtain ⟨hcount, hg⟩ := and_e hg
  have hg0 := hg
  obtain ⟨w0, rfl⟩ : ∃ w0 : Value, args = #[w0] := by
    have hs : args.size = 1 := by simpa [Cond.value, given_1] using hcount
    obtain ⟨L⟩ := args
    match L, hs with
    | [w0], _ => exact ⟨w0, rfl⟩
  have hw := fun d (hd : d ∈ tables_1) => atoms_spec (ws := Jvm.Cond.code x code maxLocals ret :: tables_1) hat d (List.mem_cons_of_mem _ hd)
  have hfit : Fit s := fun {y c} hc i hi => by
    obtain ⟨ha, rfl⟩ := Array.getElem?_eq_some_iff.mp hc
    have q := List.all_eq_true.mp ((Array.all_eq_true_iff_forall_mem.mp hF) _ (Array.getElem_mem ha)) i (List.mem_range.mpr hi)
    simpa [Array.getElem?_eq_getElem hi] using q
  obtain ⟨i0, ei0⟩ := is_v hg0
  obtain rfl : w0 = (.int i0) := Option.some.inj ei0
  obtain ⟨hn0, hn⟩ := and_e hn
  obtain ⟨hn1, hn⟩ := and_e hn
  obtain ⟨hn2, hn⟩ := and_e hn
  obtain ⟨hn3, hn⟩ := and_e hn
  obtain ⟨hn4, hn⟩ := and_e hn
  obtain ⟨hn5, hn⟩ := and_e hn
  obtain ⟨hn6, hn⟩ := and_e hn
  obtain ⟨hn7, hn⟩ := and_e hn
  obtain ⟨hn8, hn⟩ := and_e hn
  obtain ⟨hn9, hn⟩ := and_e hn
  obtain ⟨hn10, hn⟩ := and_e hn
  obtain ⟨hn11, hn⟩ := and_e hn
  obtain ⟨hn12, hn⟩ := and_e hn
  obtain ⟨hn13, hn⟩ := and_e hn
  obtain ⟨hn14, hn⟩ := and_e hn
  have hn15 := hn
  obtain ⟨w_INT32, ev_INT32⟩ := exa_v hn0
  have S_INT32 := Sta.start ev_INT32 (Or.inr ⟨(hw _ (List.mem_of_getElem? (i := 5) rfl)), (hw _ (List.mem_of_getElem? (i := 6) rfl))⟩)
  have E_w_INT32 := Exa.start ev_INT32 hn0
  obtain ⟨w_UINT64, ev_UINT64⟩ := exa_v hn1
  have S_UINT64 := Sta.start ev_UINT64 (Or.inr ⟨(hw _ (List.mem_of_getElem? (i := 5) rfl)), (hw _ (List.mem_of_getElem? (i := 14) rfl))⟩)
  have E_w_UINT64 := Exa.start ev_UINT64 hn1
  obtain ⟨w_UINT32, ev_UINT32⟩ := exa_v hn4
  have S_UINT32 := Sta.start ev_UINT32 (Or.inr ⟨(hw _ (List.mem_of_getElem? (i := 5) rfl)), (hw _ (List.mem_of_getElem? (i := 16) rfl))⟩)
  have E_w_UINT32 := Exa.start ev_UINT32 hn4
  obtain ⟨w_INT64, ev_INT64⟩ := exa_v hn6
  have S_INT64 := Sta.start ev_INT64 (Or.inr ⟨(hw _ (List.mem_of_getElem? (i := 5) rfl)), (hw _ (List.mem_of_getElem? (i := 18) rfl))⟩)
  have E_w_INT64 := Exa.start ev_INT64 hn6
  obtain ⟨w_UNICODE, ev_UNICODE⟩ := exa_v hn8
  have S_UNICODE := Sta.start ev_UNICODE (Or.inr ⟨(hw _ (List.mem_of_getElem? (i := 5) rfl)), (hw _ (List.mem_of_getElem? (i := 21) rfl))⟩)
  have E_w_UNICODE := Exa.start ev_UNICODE hn8
  obtain ⟨w_BYTE_VECTOR, ev_BYTE_VECTOR⟩ := exa_v hn10
  have S_BYTE_VECTOR := Sta.start ev_BYTE_VECTOR (Or.inr ⟨(hw _ (List.mem_of_getElem? (i := 5) rfl)), (hw _ (List.mem_of_getElem? (i := 23) rfl))⟩)
  have E_w_BYTE_VECTOR := Exa.start ev_BYTE_VECTOR hn10
  obtain ⟨w_DECIMAL, ev_DECIMAL⟩ := exa_v hn12
  have S_DECIMAL := Sta.start ev_DECIMAL (Or.inr ⟨(hw _ (List.mem_of_getElem? (i := 5) rfl)), (hw _ (List.mem_of_getElem? (i := 27) rfl))⟩)
  have E_w_DECIMAL := Exa.start ev_DECIMAL hn12
  obtain ⟨w_ASCII, ev_ASCII⟩ := exa_v hn14
  have S_ASCII := Sta.start ev_ASCII (Or.inr ⟨(hw _ (List.mem_of_getElem? (i := 5) rfl)), (hw _ (List.mem_of_getElem? (i := 29) rfl))⟩)
  have E_w_ASCII := Exa.start ev_ASCII hn14
  have F_ordinal_w_UINT64 := fldStart ev_UINT64 hn2
  have F_ordinal_w_INT32 := fldStart ev_INT32 hn3
  have F_ordinal_w_UINT32 := fldStart ev_UINT32 hn5
  have F_ordinal_w_INT64 := fldStart ev_INT64 hn7
  have F_ordinal_w_UNICODE := fldStart ev_UNICODE hn9
  have F_ordinal_w_BYTE_VECTOR := fldStart ev_BYTE_VECTOR hn11
  have F_ordinal_w_DECIMAL := fldStart ev_DECIMAL hn13
  have F_ordinal_w_ASCII := fldStart ev_ASCII hn15
  obtain ⟨n, o, h1, h2, h3, _, L, rfl, ⟨rfl, N⟩, hq⟩ := rm0 l s _ hw tables_1 i0 w_INT32 w_UINT64 w_UINT32 w_INT64 w_UNICODE w_BYTE_VECTOR w_DECIMAL w_ASCII s.heap s.heap.size (Nat.le_refl _) S_INT32 E_w_INT32 S_UINT64 E_w_UINT64 S_UINT32 E_w_UINT32 S_INT64 E_w_INT64 S_UNICODE E_w_UNICODE S_BYTE_VECTOR E_w_BYTE_VECTOR S_DECIMAL E_w_DECIMAL S_ASCII E_w_ASCII F_ordinal_w_UINT64 F_ordinal_w_INT32 F_ordinal_w_UINT32 F_ordinal_w_INT64 F_ordinal_w_UNICODE F_ordinal_w_BYTE_VECTOR F_ordinal_w_DECIMAL F_ordinal_w_ASCII p e ha hc hk s m _ below hf ((Spec.applies_iff_loose hf).mp happ).1 ⟨rfl, State.Warmed39.refl s, rfl⟩ trivial
  refine ⟨n, _, h1, h2, h3, hpost _ _ _ _ _ _ ⟨Cond.after_iff.mpr rfl, Cond.after_iff.mpr (eq_i res_at (Term.int_eval (1)) rfl), trivial⟩ ⟨hq.1, hq.2.1, (hq.2.2.sift fun y hy => Or.inr (N y hy)).mono (by decide) (by decide)⟩⟩
theorem main_1_1 : Claimed_1_1 := comes_1 fun _ _ _ _ _ _ h hF => ⟨h.1, hF⟩
theorem main_1_2 : Claimed_1_2 := comes_1 fun _ _ _ _ _ _ h hF => ⟨h.2.1, hF⟩
end Jvm.Pilot.@@N@@
namespace Jvm.Pilot.@@N@@
open Jvm Jvm.ClassFile Sem Op Lib Jvm.Free Jvm.Stand Jvm.Pilot.@@N@@.Jvm.D
/-! MADE BY PROGRAM (witnessworld.py) out of the Statement's table words and the real class files: 12 classes; the members and pool entries that the words name. The judged class is class 1, her method 2. -/
namespace start1
open Jvm.ClassFile
def u (s : String) : CpInfo := .utf8 (stringToUtf16 s)
/-- a pool by its gaps: so many unusable entries, then the entry; so many at the end -/
def gap : Nat → List CpInfo → List CpInfo
  | 0, r => r
  | n + 1, r => .unusable :: gap n r
def poolList (es : List (Nat × CpInfo)) (last : Nat) : List CpInfo := es.foldr (fun e r => gap e.1 (e.2 :: r)) (gap last [])
def pool (es : List (Nat × CpInfo)) (last : Nat) : Array CpInfo := ⟨poolList es last⟩
def fileOf (pool : Array CpInfo) (this : Nat) (attrs : Array Attribute := #[]) (ms : Array MethodInfo := #[]) (fl : Nat := 33) (sup : Nat := 0) (ifs : Array Nat := #[]) (fds : Array FieldInfo := #[]) : ClassFile where
  minorVersion := 0
  majorVersion := 65
  constantPool := pool
  accessFlags := fl
  thisClass := this
  superClass := sup
  interfaces := ifs
  fields := fds
  methods := ms
  attributes := attrs
def plain (name : String) (sup : Option ClassId) : Class where
  name := name
  kind := .ordinary
  loader := none
  accessFlags := 33
  super := sup
  interfaces := #[]
  cf := none
  fields := #[]
  methods := #[]
  instanceTypes := #[]
  staticTypes := #[]
  resolved := #[]
  callSites := []
  init := .initialized
  statics := none
  mirror := none

def pool0 : Array CpInfo := pool [(5, u "<init>"), (0, u "()V"), (1, .class_ 10), (1, u "java/lang/Object")] 113

def k0m0 : Method := { name := "<init>", desc := "()V", sig := { parameters := [], returnType := none }, accessFlags := 1, code := none }
/-- java/lang/Object -/
def k0 : Class := { plain "java/lang/Object" none with
  accessFlags := 33
  interfaces := #[]
  cf := some (fileOf pool0 8 #[] #[{ accessFlags := 1, nameIndex := 5, descriptorIndex := 6, attributes := #[] }] 33 0 #[] #[])
  fields := #[]
  methods := #[k0m0]
  instanceTypes := #[]
  staticTypes := #[]
  resolved := Array.replicate 124 none
  statics := none }

def pool1 : Array CpInfo := pool [(2, .class_ 4), (1, u "java/lang/Object"), (0, u "<init>"), (0, u "()V"), (0, .fieldref 8 9), (0, .class_ 10), (0, .nameAndType 11 12), (0, u "com/example/zarnitsa/zarnitsa/FastTemplate$Type"), (0, u "INT32"), (0, u "Lcom/example/zarnitsa/zarnitsa/FastTemplate$Type;"), (0, .fieldref 8 14), (0, .nameAndType 15 12), (0, u "UINT32"), (0, .fieldref 8 17), (0, .nameAndType 18 12), (0, u "INT64"), (0, .fieldref 8 20), (0, .nameAndType 21 12), (0, u "UINT64"), (0, .fieldref 8 23), (0, .nameAndType 24 12), (0, u "DECIMAL"), (0, .fieldref 8 26), (0, .nameAndType 27 12), (0, u "ASCII"), (0, .fieldref 8 29), (0, .nameAndType 30 12), (0, u "UNICODE"), (0, .fieldref 8 32), (0, .nameAndType 33 12), (0, u "BYTE_VECTOR"), (0, .methodref 35 36), (0, .class_ 37), (0, .nameAndType 38 39), (0, u "com/example/zarnitsa/zarnitsa/TypeIsIntegerPinLaw"), (0, u "pick"), (0, u "(I)Lcom/example/zarnitsa/zarnitsa/FastTemplate$Type;"), (0, .methodref 8 41), (0, .nameAndType 42 43), (0, u "isInteger"), (0, u "()Z"), (3, u "law"), (0, u "(I)Z")] 6

def k1m0 : Method := { name := "<init>", desc := "()V", sig := { parameters := [], returnType := none }, accessFlags := 1, code := none }
def k1c1 : Code := { maxStack := 2, maxLocals := 1, code := method_2_code, exceptionTable := #[], attributes := #[] }
def k1m1 : Method := { name := "pick", desc := "(I)Lcom/example/zarnitsa/zarnitsa/FastTemplate$Type;", sig := { parameters := [.int], returnType := some (.object "com/example/zarnitsa/zarnitsa/FastTemplate$Type") }, accessFlags := 10, code := some k1c1 }
def k1c2 : Code := { maxStack := 2, maxLocals := 4, code := code, exceptionTable := #[], attributes := #[] }
def k1m2 : Method := { name := "law", desc := "(I)Z", sig := { parameters := [.int], returnType := some .boolean }, accessFlags := 9, code := some k1c2 }
/-- com/example/zarnitsa/zarnitsa/TypeIsIntegerPinLaw -/
def k1 : Class := { plain "com/example/zarnitsa/zarnitsa/TypeIsIntegerPinLaw" (some 0) with
  accessFlags := 49
  interfaces := #[]
  cf := some (fileOf pool1 35 #[] #[{ accessFlags := 1, nameIndex := 5, descriptorIndex := 6, attributes := #[] }, { accessFlags := 10, nameIndex := 38, descriptorIndex := 39, attributes := #[] }, { accessFlags := 9, nameIndex := 47, descriptorIndex := 48, attributes := #[] }] 49 2 #[] #[])
  fields := #[]
  methods := #[k1m0, k1m1, k1m2]
  instanceTypes := #[]
  staticTypes := #[]
  resolved := Array.replicate 55 none
  statics := none }

def pool2 : Array CpInfo := pool [(1, .class_ 2), (0, u "java/lang/constant/Constable"), (0, .class_ 4), (0, u "java/lang/Object")] 6

/-- java/lang/constant/Constable -/
def k2 : Class := { plain "java/lang/constant/Constable" (some 0) with
  accessFlags := 1537
  interfaces := #[]
  cf := some (fileOf pool2 1 #[] #[] 1537 3 #[] #[])
  fields := #[]
  methods := #[]
  instanceTypes := #[]
  staticTypes := #[]
  resolved := Array.replicate 11 none
  statics := none }

def pool3 : Array CpInfo := pool [(1, .class_ 2), (0, u "java/lang/Comparable"), (0, .class_ 4), (0, u "java/lang/Object")] 7

/-- java/lang/Comparable -/
def k3 : Class := { plain "java/lang/Comparable" (some 0) with
  accessFlags := 1537
  interfaces := #[]
  cf := some (fileOf pool3 1 #[] #[] 1537 3 #[] #[])
  fields := #[]
  methods := #[]
  instanceTypes := #[]
  staticTypes := #[]
  resolved := Array.replicate 12 none
  statics := none }

def pool4 : Array CpInfo := pool [(1, .class_ 2), (0, u "java/io/Serializable"), (0, .class_ 4), (0, u "java/lang/Object")] 2

/-- java/io/Serializable -/
def k4 : Class := { plain "java/io/Serializable" (some 0) with
  accessFlags := 1537
  interfaces := #[]
  cf := some (fileOf pool4 1 #[] #[] 1537 3 #[] #[])
  fields := #[]
  methods := #[]
  instanceTypes := #[]
  staticTypes := #[]
  resolved := Array.replicate 7 none
  statics := none }

def pool5 : Array CpInfo := pool [(2, .class_ 4), (1, u "java/lang/Enum"), (0, u "name"), (0, u "Ljava/lang/String;"), (2, u "ordinal"), (0, u "I"), (1, .class_ 14), (1, u "java/lang/Object"), (4, u "hash"), (86, .class_ 108), (1, u "java/lang/Enum$EnumDesc"), (2, .class_ 112), (0, u "java/lang/constant/Constable"), (0, .class_ 114), (0, u "java/lang/Comparable"), (0, .class_ 116), (0, u "java/io/Serializable")] 87

/-- java/lang/Enum -/
def k5 : Class := { plain "java/lang/Enum" (some 0) with
  accessFlags := 1057
  interfaces := #[2, 3, 4]
  cf := some (fileOf pool5 2 #[.nestMembers #[106]] #[] 1057 12 #[111, 113, 115] #[{ accessFlags := 18, nameIndex := 5, descriptorIndex := 6, attributes := #[] }, { accessFlags := 18, nameIndex := 9, descriptorIndex := 10, attributes := #[] }, { accessFlags := 2, nameIndex := 19, descriptorIndex := 10, attributes := #[] }])
  fields := #[{ name := "name", type := (.object "java/lang/String"), accessFlags := 18, slot := 0, constantValue := 0 }, { name := "ordinal", type := .int, accessFlags := 18, slot := 1, constantValue := 0 }, { name := "hash", type := .int, accessFlags := 2, slot := 2, constantValue := 0 }]
  methods := #[]
  instanceTypes := #[(.object "java/lang/String"), .int, .int]
  staticTypes := #[]
  resolved := Array.replicate 204 none
  statics := none }

def pool6 : Array CpInfo := pool [(1, .class_ 2), (0, u "com/example/zarnitsa/zarnitsa/FastTemplate$Type"), (0, .fieldref 1 4), (0, .nameAndType 5 6), (0, u "INT32"), (0, u "Lcom/example/zarnitsa/zarnitsa/FastTemplate$Type;"), (0, .fieldref 1 8), (0, .nameAndType 9 6), (0, u "UINT32"), (0, .fieldref 1 11), (0, .nameAndType 12 6), (0, u "INT64"), (0, .fieldref 1 14), (0, .nameAndType 15 6), (0, u "UINT64"), (2, u "DECIMAL"), (2, u "ASCII"), (2, u "UNICODE"), (2, u "BYTE_VECTOR"), (2, u "$VALUES"), (0, u "[Lcom/example/zarnitsa/zarnitsa/FastTemplate$Type;"), (6, .class_ 40), (1, u "java/lang/Enum"), (26, u "isInteger"), (0, u "()Z"), (7, .class_ 77), (0, u "com/example/zarnitsa/zarnitsa/FastTemplate")] 2

def k6c0 : Code := { maxStack := 2, maxLocals := 1, code := prog_42_method_4_code, exceptionTable := #[], attributes := #[] }
def k6m0 : Method := { name := "isInteger", desc := "()Z", sig := { parameters := [], returnType := some .boolean }, accessFlags := 0, code := some k6c0 }
/-- com/example/zarnitsa/zarnitsa/FastTemplate$Type -/
def k6 : Class := { plain "com/example/zarnitsa/zarnitsa/FastTemplate$Type" (some 5) with
  accessFlags := 16432
  interfaces := #[]
  cf := some (fileOf pool6 1 #[.nestHost 76] #[{ accessFlags := 0, nameIndex := 67, descriptorIndex := 68, attributes := #[] }] 16432 38 #[] #[{ accessFlags := 16409, nameIndex := 5, descriptorIndex := 6, attributes := #[] }, { accessFlags := 16409, nameIndex := 9, descriptorIndex := 6, attributes := #[] }, { accessFlags := 16409, nameIndex := 12, descriptorIndex := 6, attributes := #[] }, { accessFlags := 16409, nameIndex := 15, descriptorIndex := 6, attributes := #[] }, { accessFlags := 16409, nameIndex := 18, descriptorIndex := 6, attributes := #[] }, { accessFlags := 16409, nameIndex := 21, descriptorIndex := 6, attributes := #[] }, { accessFlags := 16409, nameIndex := 24, descriptorIndex := 6, attributes := #[] }, { accessFlags := 16409, nameIndex := 27, descriptorIndex := 6, attributes := #[] }, { accessFlags := 4122, nameIndex := 30, descriptorIndex := 31, attributes := #[] }])
  fields := #[{ name := "INT32", type := (.object "com/example/zarnitsa/zarnitsa/FastTemplate$Type"), accessFlags := 16409, slot := 0, constantValue := 0 }, { name := "UINT32", type := (.object "com/example/zarnitsa/zarnitsa/FastTemplate$Type"), accessFlags := 16409, slot := 1, constantValue := 0 }, { name := "INT64", type := (.object "com/example/zarnitsa/zarnitsa/FastTemplate$Type"), accessFlags := 16409, slot := 2, constantValue := 0 }, { name := "UINT64", type := (.object "com/example/zarnitsa/zarnitsa/FastTemplate$Type"), accessFlags := 16409, slot := 3, constantValue := 0 }, { name := "DECIMAL", type := (.object "com/example/zarnitsa/zarnitsa/FastTemplate$Type"), accessFlags := 16409, slot := 4, constantValue := 0 }, { name := "ASCII", type := (.object "com/example/zarnitsa/zarnitsa/FastTemplate$Type"), accessFlags := 16409, slot := 5, constantValue := 0 }, { name := "UNICODE", type := (.object "com/example/zarnitsa/zarnitsa/FastTemplate$Type"), accessFlags := 16409, slot := 6, constantValue := 0 }, { name := "BYTE_VECTOR", type := (.object "com/example/zarnitsa/zarnitsa/FastTemplate$Type"), accessFlags := 16409, slot := 7, constantValue := 0 }, { name := "$VALUES", type := (.array (.object "com/example/zarnitsa/zarnitsa/FastTemplate$Type")), accessFlags := 4122, slot := 8, constantValue := 0 }]
  methods := #[k6m0]
  instanceTypes := #[(.object "java/lang/String"), .int, .int]
  staticTypes := #[(.object "com/example/zarnitsa/zarnitsa/FastTemplate$Type"), (.object "com/example/zarnitsa/zarnitsa/FastTemplate$Type"), (.object "com/example/zarnitsa/zarnitsa/FastTemplate$Type"), (.object "com/example/zarnitsa/zarnitsa/FastTemplate$Type"), (.object "com/example/zarnitsa/zarnitsa/FastTemplate$Type"), (.object "com/example/zarnitsa/zarnitsa/FastTemplate$Type"), (.object "com/example/zarnitsa/zarnitsa/FastTemplate$Type"), (.object "com/example/zarnitsa/zarnitsa/FastTemplate$Type"), (.array (.object "com/example/zarnitsa/zarnitsa/FastTemplate$Type"))]
  resolved := Array.replicate 80 none
  statics := some 0 }

def pool7 : Array CpInfo := pool [(1, u "java/lang/Cloneable"), (0, .class_ 1), (0, u "java/lang/Object"), (0, .class_ 3)] 3

/-- java/lang/Cloneable -/
def k7 : Class := { plain "java/lang/Cloneable" (some 0) with
  accessFlags := 1537
  interfaces := #[]
  cf := some (fileOf pool7 2 #[] #[] 1537 4 #[] #[])
  fields := #[]
  methods := #[]
  instanceTypes := #[]
  staticTypes := #[]
  resolved := Array.replicate 8 none
  statics := none }

/-- the primitive byte -/
def k8 : Class := { plain "byte" none with kind := .primitive 'B', accessFlags := 0x411 }
/-- [B -/
def k9 : Class := { plain "[B" (some 0) with kind := .array 8 .byte, interfaces := #[7, 4], accessFlags := 1041 }

/-- the primitive int -/
def k10 : Class := { plain "int" none with kind := .primitive 'I', accessFlags := 0x411 }
/-- [I -/
def k11 : Class := { plain "[I" (some 0) with kind := .array 10 .int, interfaces := #[7, 4], accessFlags := 1041 }

def heap : Heap := #[{ cls := 6, slots := #[.ref 1, .ref 3, .ref 4, .ref 2, .ref 7, .ref 8, .ref 5, .ref 6, .null], vm := .statics 6 },
  { cls := 6, slots := #[.null, .int 0, .int 0], vm := .none },
  { cls := 6, slots := #[.null, .int 3, .int 0], vm := .none },
  { cls := 6, slots := #[.null, .int 1, .int 0], vm := .none },
  { cls := 6, slots := #[.null, .int 2, .int 0], vm := .none },
  { cls := 6, slots := #[.null, .int 6, .int 0], vm := .none },
  { cls := 6, slots := #[.null, .int 7, .int 0], vm := .none },
  { cls := 6, slots := #[.null, .int 4, .int 0], vm := .none },
  { cls := 6, slots := #[.null, .int 5, .int 0], vm := .none }]
def classes : Array Class := #[k0, k1, k2, k3, k4, k5, k6, k7, k8, k9, k10, k11]
def interned : List (Array UInt16 × Addr) := []
def slotsUsed : Nat := 33
def theMethod : MethodId := ⟨1, 2⟩
def args0 : Array Value := #[.int 5]
def aboutOver (below : List Frame) : State where
  vm := { classes := classes, interned := interned.toArray }
  heap := heap
  slotsUsed := slotsUsed
  threads := #[{ frames := .invoking theMethod args0 :: below }]
def below0 : List Frame := [.native { method := ⟨0, 0⟩, args := #[] }]
def about1 : State := aboutOver below0
def p0 : Program := .bare "" "" ""
def e0 : Env := launch0.env 0 0 0
theorem w_frames : about1.frames = Frame.invoking theMethod args0 :: below0 := rfl
set_option maxRecDepth 65536 in
theorem w_args : argsFit about1.vm theMethod args0 = true := by decide +kernel
set_option maxRecDepth 65536 in
theorem w_heap : heapFits about1 = true := by decide +kernel
set_option maxRecDepth 65536 in
theorem w_runnable : about1.curStatus? = some .runnable := by decide +kernel
set_option maxRecDepth 65536 in
theorem w_alone : about1.alone = true := by decide +kernel
set_option maxRecDepth 65536 in
theorem w_named : about1.methodNamed? x = some theMethod := by decide +kernel
set_option maxRecDepth 65536 in
theorem w_hears : about1.hears theMethod below0 = true := by decide +kernel
set_option maxRecDepth 65536 in
theorem w_ripe : about1.ripe theMethod args0 below0 = true := by decide +kernel
theorem w_running : about1.status = .running := rfl
set_option maxRecDepth 65536 in
theorem w_room : about1.hasRoom e0.platform room_1 = true :=
  launch0.hasRoom_least _ room_1 (by decide +kernel) (by decide +kernel) (by decide +kernel) (by decide +kernel) (by decide +kernel) (by decide +kernel)
theorem allAtoms_all (ts : List Jvm.Cond) (a : Array Jvm.Value) (st : Jvm.State) : (allAtoms ts).before a st = ts.all (fun c => c.before a st) := by
  induction ts with
  | nil => rfl
  | cons c t ih =>
    show (Jvm.Cond.and c (allAtoms t)).before a st = _
    rw [Jvm.Cond.before_and, ih, List.all_cons]
def words1 : List Jvm.Cond := Jvm.Cond.code x code maxLocals ret :: tables_1
/-- a 'code' word, met by the world's own term for the bytes: nothing is compared byte by byte -/
theorem code_word {y : MethodName} {bytes : ByteArray} {mx : Nat} {rt : Option FieldType} {a : Array Value} {s : State} {m : MethodId} {meth : Method} {c : Code} (h1 : s.methodNamed? y = some m) (h2 : s.vm.method? m = some meth) (h3 : meth.code = some c) (h4 : c.code = bytes)
    (h5 : (c.maxLocals == mx && c.exceptionTable.isEmpty && decide (c.maxStack ≤ mostOperands) && decide (meth.sig.returnType = rt) && !meth.locks && decide (parseMethodDescriptor y.desc = some meth.sig)) = true) : (Jvm.Cond.code y bytes mx rt).before a s = true := by
  simp only [Bool.and_eq_true, beq_iff_eq, Bool.not_eq_true', decide_eq_true_eq] at h5
  obtain ⟨⟨⟨⟨⟨g1, g2⟩, g3⟩, g4⟩, g5⟩, g6⟩ := h5
  simp [Cond.before, Cond.holds, Cond.value, h1, h2, h3, h4, g1, g2, g3, g4, g5, g6]
def isCode : Jvm.Cond → Bool
  | .code _ _ _ _ => true
  | _ => false
theorem all_split {L : List Jvm.Cond} {P : Jvm.Cond → Bool} (h1 : L.all (fun c => isCode c || P c) = true) (h2 : ∀ c ∈ L.filter isCode, P c = true) : L.all P = true := by
  refine List.all_eq_true.mpr fun c hc => ?_
  have h := List.all_eq_true.mp h1 c hc
  rcases Bool.eq_false_or_eq_true (isCode c) with hi | hi
  · exact h2 c (List.mem_filter.mpr ⟨hc, hi⟩)
  · simpa [hi] using h
set_option maxRecDepth 65536 in
theorem w_c0 : (Jvm.Cond.code x code maxLocals ret).before args0 about1 = true := code_word (m := ⟨1, 2⟩) (meth := k1m2) (c := k1c2) (by decide +kernel) rfl rfl rfl (by decide +kernel)
set_option maxRecDepth 65536 in
theorem w_c1 : (Jvm.Cond.code ({ cls := "com/example/zarnitsa/zarnitsa/TypeIsIntegerPinLaw", name := "pick", desc := "(I)Lcom/example/zarnitsa/zarnitsa/FastTemplate$Type;" } : Jvm.MethodName) method_2_code (1 : Nat) (Option.some (Jvm.ClassFile.FieldType.object "com/example/zarnitsa/zarnitsa/FastTemplate$Type"))).before args0 about1 = true := code_word (m := ⟨1, 1⟩) (meth := k1m1) (c := k1c1) (by decide +kernel) rfl rfl rfl (by decide +kernel)
set_option maxRecDepth 65536 in
theorem w_c2 : (Jvm.Cond.code ({ cls := "com/example/zarnitsa/zarnitsa/FastTemplate$Type", name := "isInteger", desc := "()Z" } : Jvm.MethodName) prog_42_method_4_code (1 : Nat) (Option.some Jvm.ClassFile.FieldType.boolean)).before args0 about1 = true := code_word (m := ⟨6, 0⟩) (meth := k6m0) (c := k6c0) (by decide +kernel) rfl rfl rfl (by decide +kernel)
def codes1 : List Jvm.Cond := [Jvm.Cond.code x code maxLocals ret, Jvm.Cond.code ({ cls := "com/example/zarnitsa/zarnitsa/TypeIsIntegerPinLaw", name := "pick", desc := "(I)Lcom/example/zarnitsa/zarnitsa/FastTemplate$Type;" } : Jvm.MethodName) method_2_code (1 : Nat) (Option.some (Jvm.ClassFile.FieldType.object "com/example/zarnitsa/zarnitsa/FastTemplate$Type")), Jvm.Cond.code ({ cls := "com/example/zarnitsa/zarnitsa/FastTemplate$Type", name := "isInteger", desc := "()Z" } : Jvm.MethodName) prog_42_method_4_code (1 : Nat) (Option.some Jvm.ClassFile.FieldType.boolean)]
set_option maxRecDepth 65536 in
theorem codes_eq : words1.filter isCode = codes1 := rfl
theorem w_codes : ∀ c ∈ words1.filter isCode, c.before args0 about1 = true := by
  rw [codes_eq]
  intro c hc
  simp only [codes1, List.mem_cons, List.not_mem_nil, or_false] at hc
  rcases hc with rfl | rfl | rfl
  · exact w_c0
  · exact w_c1
  · exact w_c2
set_option maxRecDepth 65536 in
theorem w_t1 : (words1.take 24).all (fun c => isCode c || c.before args0 about1) = true := by decide +kernel
set_option maxRecDepth 65536 in
theorem w_t2 : (words1.drop 24).all (fun c => isCode c || c.before args0 about1) = true := by decide +kernel
theorem w_tables : (allAtoms (Jvm.Cond.code x code maxLocals ret :: tables_1)).before args0 about1 = true := by
  rw [allAtoms_all]
  show words1.all (fun c => c.before args0 about1) = true
  refine all_split ?_ w_codes
  rw [← List.take_append_drop 24 words1, List.all_append, w_t1, w_t2]
  rfl
set_option maxRecDepth 65536 in
theorem w_case : (Jvm.Cond.and given_1 narrow_1).before args0 about1 = true := by decide +kernel
theorem w_applies : (headSpec (Jvm.Cond.code x code maxLocals ret :: tables_1) room_1).applies x e0.platform about1 = true :=
  (Spec.applies_iff w_frames).mpr ⟨w_running, w_runnable, w_alone, w_named, w_hears, w_ripe, w_room, w_tables⟩
theorem atStart : AtStart classFile x code maxLocals ret World_1 tables_1 room_1 Calls_1 rest_1 Pre_1 launch0 p0 e0 about1 theMethod args0 below0 :=
  ⟨lists_1, trivial, launch0.admits_env _ _ _, launch0.least_env, fairChoices_fair.cas, fairChoices_fair.clock, w_frames, w_args, w_heap, w_applies, trivial, trivial, w_case⟩
end start1
theorem witness_1 : WitnessClaimed_1 := ⟨start1.p0, start1.e0, start1.about1, start1.theMethod, start1.args0, start1.below0, start1.atStart⟩
end Jvm.Pilot.@@N@@
