import JvmDerived
import JvmDerived.Pilot.@@N@@Statement
import JvmDerived.Pilot.@@N@@Code
set_option linter.unusedVariables false
set_option linter.unusedSimpArgs false
namespace Jvm.RoadKit
open Sem ClassFile Op Lib Jvm.Stand Jvm.Free Jvm.LawKit
section Own
variable {p : Program} {l : Launch} {e : Env} {R : Room} {s : State} {m : MethodId} {args : Array Value} {below : List Frame} {meth : Method} {c : Code} {T : State} {locs : List Loc} {cells slots : Nat} {Z : State} {h h' : Heap}
/-- from U the run comes to an end that G allows -/
def Go (p : Program) (e : Env) (below : List Frame) (G : Outcome → State → Prop) (U : State) : Prop := ∃ s₂ o, Steps p.tables e below U s₂ ∧ s₂.status = .running ∧ Ended s₂ below o ∧ G o s₂
theorem Go.st {G : Outcome → State → Prop} {U V : State} (h : ∀ t, Steps p.tables e below V t → Steps p.tables e below U t) (k : Go p e below G V) : Go p e below G U := by
  obtain ⟨s₂, o, a, r⟩ := k; exact ⟨s₂, o, h _ a, r⟩
theorem Go.tr {G : Outcome → State → Prop} {U V : State} (h : Steps p.tables e below U V) (k : Go p e below G V) : Go p e below G U := by
  obtain ⟨s₂, o, a, r⟩ := k; exact ⟨s₂, o, h.trans a, r⟩
theorem Go.en {G : Outcome → State → Prop} {g g' : JFrame} (q : g = g') (k : Go p e below G (T.setTop g')) : Go p e below G (T.setTop g) := q ▸ k
theorem Go.ret {Q : Option Value → Heap → List Loc → Prop} {K N : Nat} {U : State} (X : Stand p l e R s m args below meth c T locs cells slots) {v : Option Value} (hv : meth.sig.returnType = none → v = none) (hlk : meth.locks = false)
    (st : ∀ fs, (∀ (f : JFrame) (acts : List Action), f.method = m → f.locked = none → f.entered = [] → (doReturn e (T.setTop f) acts v).1 = T.setFrames fs) → Steps p.tables e below U (T.setFrames fs)) (eT : T.heap = h) (hQ : Q v h locs) (hk : cells ≤ K) (hn : slots ≤ N) :
    Go p e below (fun o s₂ => ∃ v L, o = .returned v ∧ Q v s₂.heap L ∧ FrameEnd s o s₂ L K N) U := by
  subst eT
  obtain ⟨fs, hr, hrun, hended, hW, hsame⟩ := X.leave hv hlk
  exact ⟨_, _, st fs hr, hrun, hended, _, _, rfl, hQ, ⟨_, rfl⟩, hW, hsame.mono hk hn⟩
theorem Go.retW {Q : Option Value → Heap → List Loc → Prop} {K N k0 : Nat} {U : State} {vm0 : Vm} (hS : s.Since vm0 k0) (hk0 : k0 ≤ h.size) (X : Stand p l e R (s.setVm vm0) m args below meth c T locs cells slots) {v : Option Value} (hv : meth.sig.returnType = none → v = none) (hlk : meth.locks = false)
    (st : ∀ fs, (∀ (f : JFrame) (acts : List Action), f.method = m → f.locked = none → f.entered = [] → (doReturn e (T.setTop f) acts v).1 = T.setFrames fs) → Steps p.tables e below U (T.setFrames fs)) (eT : T.heap = h) (hQ : Q v h locs) (hk : cells ≤ K) (hn : slots ≤ N) :
    Go p e below (fun o s₂ => ∃ v L, o = .returned v ∧ Q v s₂.heap L ∧ ReturnedEndW s o s₂ L K N) U := by
  subst eT
  obtain ⟨fs, hr, hrun, hended, hR⟩ := X.leaveW hS hk0 hv hlk
  exact ⟨_, _, st fs hr, hrun, hended, _, _, rfl, hQ, hR.1, hR.2.1, hR.2.2.1, hR.2.2.2.mono hk hn⟩
/-- RoadKit's backOfS for a callee that is told what the constants hold -/
theorem backOfSC {y : MethodName} {bytes : ByteArray} {maxL : Nat} {ret : Option FieldType} {rm : Room} {len W : Nat} {as' : Array Value} {Q : Option Value → Heap → List Loc → Prop} {EL : List (String × Nat)} {vm0 : Vm} {a0 : Array Value}
    (hM : MetFree l y (head1 [Cond.code y bytes maxL ret] rm) (fun a U => a = as' ∧ Z.Warmed39 U.vm ∧ U.heap = h ∧ CHv Z EL U.vm h) (fun _ _ _ _ _ => True) (fun _ U o U' => ∃ v L, o = .returned v ∧ Q v U'.heap L ∧ ReturnedEndW U o U' L rm.cells rm.slots))
    (hZ : Z.Warmed39 vm0) (wc : (Cond.code y bytes maxL ret).before a0 Z = true) (wz : (Cond.initialized y.cls).before a0 Z = true) (hf : rm.frames + 1 ≤ R.frames) (hl : W + (maxL + 11) + rm.locals ≤ R.locals) (hEL : EW Z a0 EL) (H : CHv Z EL vm0 h) :
    BackS l R p e below (s.setVm vm0) args y len W (fun A a => a = as' ∧ A.U.heap = h ∧ A.cells + rm.cells ≤ R.cells ∧ A.slots + rm.slots ≤ R.slots)
      (fun A _ v B => ∃ L, Q v B.U.heap L ∧ B.locs = A.locs ++ L ∧ B.cells = A.cells + rm.cells ∧ B.slots = A.slots + rm.slots) :=
  BackS.of_freeW (bytes := bytes) (maxL := maxL) (ret := ret) (E := fun _ _ o t L k n => k = rm.cells ∧ n = rm.slots ∧ ∃ v, o = .returned v ∧ Q v t.heap L) hM hf hl
    (fun m meth c A a Y hp => by
      have hU : Z.Warmed39 A.U.vm := wtrans (s := s.setVm vm0) hZ Y.warmed
      exact ⟨by show (Cond.and _ .tt).before a A.U = true; rw [Cond.before_and, mv hU wc]; rfl, mv hU wc, mv hU wz, hp.2.2.1, hp.2.2.2⟩)
    (fun m meth c A a g mk Y hp => ⟨hp.1, wtrans (s := s.setVm vm0) hZ Y.warmed, hp.2.1, (CHv.at Y hZ hEL H).1⟩) (fun _ _ _ _ _ _ _ _ _ => trivial)
    (fun _ _ _ _ ⟨v, L, h1, h2, h3⟩ => ⟨L, _, _, h3, rfl, rfl, v, h1, h2⟩)
    (fun m meth c A a g mk v t L k n Y hp _ _ ⟨e1, e2, v', e3, e4⟩ => by cases e3; subst e1 e2; exact ⟨L, e4, rfl, rfl, rfl⟩)
theorem staKeep0 {C n d : String} {v : Value} (F : Sta Z h C n d v) (K : Keep h h' []) : Sta Z h' C n d v := by
  obtain ⟨cf, i, k, f, st, cell, h1, h2, h3, h4, h5, r⟩ := F
  exact ⟨cf, i, k, f, st, cell, h1, h2, h3, h4, K.2.1 _ _ h5 nin0, r⟩
theorem staKeepE {C n d O : String} {v : Value} {a : Addr} (F : Sta Z h C n d v) (K : Keep h h' [a]) (E : Exa Z h a O) : Sta Z h' C n d v := by
  obtain ⟨cf, i, k, f, st, cell, h1, h2, h3, h4, h5, h6, r⟩ := F
  obtain ⟨c', k', e1, -, -, e4, -⟩ := E
  have ne : st ≠ a := fun q => by subst q; cases h5.symm.trans e1; rw [h6] at e4; cases e4
  exact ⟨cf, i, k, f, st, cell, h1, h2, h3, h4, K.2.1 _ _ h5 (ninS ne nin0), h6, r⟩
/-- getfield where the sheet says the reference resolved -/
theorem getFR (X : Stand p l e R s m args below meth c T locs cells slots) (hx : p.tables.exec = Jvm.exec) (hZ : Z.Warmed39 s.vm) {a0 : Array Value} {own O n d : String} {index : Nat} (hown : s.vm.findClass own = some m.cls) (w : (Cond.fieldRef own index O n d).before a0 Z = true)
    (eT : T.heap = h) {a : Addr} {v : Value} (F : Fld Z h a O n d v) {g : JFrame} (hg : g.method = m) {rest : List Value} (hs : g.stack = .ref a :: rest) (hd : decode c.code g.pc = .ok (.getfield index, 3)) :
    ∀ target, Steps p.tables e below (T.setTop { g with pc := g.pc + 3, stack := v :: rest }) target → Steps p.tables e below (T.setTop g) target := by
  intro target hrest
  obtain ⟨cell, cf, k, i, f, h1, h2, h3, h4, -, -, h7⟩ := F
  have hW : Z.Warmed39 T.vm := wtrans hZ X.warmed
  have q := Cond.fieldRef_warmed39 hW w
  have hcur : (Z.setVm T.vm).vm.findClass own = some m.cls := by
    show T.vm.findClass own = some m.cls
    rw [X.warmed.alike.findClass]; exact hown
  obtain ⟨c', k', i', f', hi, hready⟩ := Cond.fieldRef_spec hcur q
  obtain ⟨k2, hi2, -⟩ := State.fieldFound?_setVm (s := Z) hW.alike h2
  have q3 : (Z.setVm T.vm).fieldFound? O n d = some (cf, k2, i, f) := hi2
  cases hi.symm.trans q3
  subst hg
  jvm_step X.here [hx, hd, getfield.wp_ready (e := e) (s := T) (f := g) X.here.top hready h3 hs (by rw [eT]; exact h1) h4 h7]
  exact hrest
/-- an array of that kind and length, whatever it holds -/
def Arn (Z : State) (h : Heap) (a : Addr) (ty : FieldType) (z : Int32) : Prop := ∃ c : Cell, Arr Z h a c ty ∧ c.slots.size = z.toNatClampNeg ∧ ¬ z < 0
section Arn
variable {a b : Addr} {ty : FieldType} {z : Int32} {sl : Nat} {v : Value} {ws : List Addr}
theorem Arn.lt (F : Arn Z h a ty z) : a < h.size := by obtain ⟨c, A, -⟩ := F; exact A.lt
theorem Arn.ext (F : Arn Z h a ty z) (E : Ext h h') : Arn Z h' a ty z := by obtain ⟨c, A, r⟩ := F; exact ⟨c, A.ext E, r⟩
theorem Arn.other (F : Arn Z h b ty z) (W : Wr h h' a sl v) (q : b ≠ a) : Arn Z h' b ty z := by obtain ⟨c, A, r⟩ := F; exact ⟨c, A.other W q, r⟩
theorem Arn.keep (F : Arn Z h a ty z) (K : Keep h h' ws) (q : a ∉ ws) : Arn Z h' a ty z := by obtain ⟨c, A, r⟩ := F; exact ⟨c, ⟨K.2.1 a c A.1 q, A.2⟩, r⟩
theorem Arn.set {c : Cell} (A : Arr Z h a c ty) (S : c.slots.size = z.toNatClampNeg) (q : ¬ z < 0) (W : Wr h h' a sl v) : Arn Z h' a ty z := ⟨_, A.same W, by rw [sz_set]; exact S, q⟩
theorem Arv.arn {k : ClassId} {vs : List Value} {dv : Value} (F : Arv Z h a k ty z vs dv) : Arn Z h a ty z := by obtain ⟨c, A, -, S, q, -⟩ := F; exact ⟨c, A, S, q⟩
end Arn
theorem staKeepA {C n d : String} {v : Value} {a : Addr} {ty : FieldType} {z : Int32} (F : Sta Z h C n d v) (K : Keep h h' [a]) (E : Arn Z h a ty z) : Sta Z h' C n d v := by
  obtain ⟨cf, i, k, f, st, cell, h1, h2, h3, h4, h5, h6, r⟩ := F
  obtain ⟨c', A, -⟩ := E
  have e4 := A.plain
  have ne : st ≠ a := fun q => by subst q; cases h5.symm.trans A.1; rw [h6] at e4; cases e4
  exact ⟨cf, i, k, f, st, cell, h1, h2, h3, h4, K.2.1 _ _ h5 (ninS ne nin0), h6, r⟩
theorem own_nn {n : Int32} (h : 0 ≤ n.toInt) : ¬ n < 0 := by rw [Int32.lt_iff_toInt_lt]; show ¬ n.toInt < 0; omega
theorem own_cap {n : Int32} {k : Nat} (h : n.toInt ≤ k) : n.toNatClampNeg ≤ k := by simp only [Int32.toNatClampNeg]; omega
theorem own_inc {i z : Int32} (h0 : ¬ i < 0) (h : i < z) : ¬ (i + 1) < 0 ∧ (i + 1).toInt = i.toInt + 1 := by
  have h1 := c_iadd i 1; have h2 := rng32 z; have h3 := rng32 i; have h4 := rng32 (i + 1)
  rw [Int32.lt_iff_toInt_lt] at h0 h ⊢
  have e0 : (0 : Int32).toInt = 0 := rfl
  have e1 : (1 : Int32).toInt = 1 := rfl
  rw [e0] at h0 ⊢; rw [e1] at h1
  omega
theorem own_ge {i z : Int32} (h : z.toInt ≤ i.toInt) : ¬ i < z := by rw [Int32.lt_iff_toInt_lt]; omega
theorem staInt {args : Array Value} {C n d : String} {k : Int32} (h : (Cond.eq (.static C n d) (.int k)).value args Z none Z [] = some true) (hi : (Cond.initializedFor C n d).before args Z = true ∨ ((Cond.initialized C).before args Z = true ∧ (Cond.laysStatic C n d).before args Z = true)) : Sta Z Z.heap C n d (.int k) := by
  obtain ⟨x, y, e1, e2, k1, -⟩ := cmp_v (Or.inl h)
  have e3 : (Term.int k).eval args Z none [] Z = some (.int k) := Term.int_eval k
  cases e2.symm.trans e3
  cases x with
  | int z =>
    have q : (Cond.eq (.static C n d) (.int k)).value args Z none Z [] = some (decide (z = k)) := by simp [Cond.value, e1, e3]
    exact (gotT q h) ▸ Sta.start e1 hi
  | _ => simp [Kin, Value.isRef] at k1
theorem fldNull {args : Array Value} {t : Term} {C n d : String} {a : Addr} (ev : t.eval args Z none [] Z = some (.ref a)) (h : (Cond.eq (.field t C n d) .null).value args Z none Z [] = some true) : Fld Z Z.heap a C n d .null := by
  have e1 := null_v h
  rw [fld_at ev] at e1
  exact Fld.start e1
theorem fldStart {args : Array Value} {t : Term} {C n d : String} {a : Addr} {k : Int32} (ev : t.eval args Z none [] Z = some (.ref a)) (h : (Cond.eq (.field t C n d) (.int k)).value args Z none Z [] = some true) : Fld Z Z.heap a C n d (.int k) := by
  obtain ⟨x, y, e1, e2, k1, -⟩ := cmp_v (Or.inl h)
  rw [fld_at ev] at e1
  have e3 : (Term.int k).eval args Z none [] Z = some (.int k) := Term.int_eval k
  cases e2.symm.trans e3
  cases x with
  | int z =>
    have q : (Cond.eq (.field t C n d) (.int k)).value args Z none Z [] = some (decide (z = k)) := by simp [Cond.value, (fld_at ev).trans e1, e3]
    exact (gotT q h) ▸ Fld.start e1
  | _ => simp [Kin, Value.isRef] at k1
end Own
end Jvm.RoadKit
namespace Jvm.Pilot.@@N@@
open Jvm Jvm.ClassFile Sem Op Lib Jvm.Free Jvm.Stand Jvm.LawKit Jvm.RoadKit Bundle Jvm.Pilot.@@N@@.Jvm.D
theorem own_k (x : Int32) : (x &&& (2147483647 : Int32)) % (14 : Int32) = (0 : Int32) ∨ (x &&& (2147483647 : Int32)) % (14 : Int32) = (1 : Int32) ∨ (x &&& (2147483647 : Int32)) % (14 : Int32) = (2 : Int32) ∨ (x &&& (2147483647 : Int32)) % (14 : Int32) = (3 : Int32) ∨ (x &&& (2147483647 : Int32)) % (14 : Int32) = (4 : Int32) ∨ (x &&& (2147483647 : Int32)) % (14 : Int32) = (5 : Int32) ∨ (x &&& (2147483647 : Int32)) % (14 : Int32) = (6 : Int32) ∨ (x &&& (2147483647 : Int32)) % (14 : Int32) = (7 : Int32) ∨ (x &&& (2147483647 : Int32)) % (14 : Int32) = (8 : Int32) ∨ (x &&& (2147483647 : Int32)) % (14 : Int32) = (9 : Int32) ∨ (x &&& (2147483647 : Int32)) % (14 : Int32) = (10 : Int32) ∨ (x &&& (2147483647 : Int32)) % (14 : Int32) = (11 : Int32) ∨ (x &&& (2147483647 : Int32)) % (14 : Int32) = (12 : Int32) ∨ (x &&& (2147483647 : Int32)) % (14 : Int32) = (13 : Int32) := by
  have h1 := c_and x (2147483647 : Int32) (by decide)
  have h2 := (c_irem (x &&& (2147483647 : Int32)) (14 : Int32) 14 (by decide)).1 h1.1
  generalize (x &&& (2147483647 : Int32)) % (14 : Int32) = k at *
  have h3 : k.toInt = 0 ∨ k.toInt = 1 ∨ k.toInt = 2 ∨ k.toInt = 3 ∨ k.toInt = 4 ∨ k.toInt = 5 ∨ k.toInt = 6 ∨ k.toInt = 7 ∨ k.toInt = 8 ∨ k.toInt = 9 ∨ k.toInt = 10 ∨ k.toInt = 11 ∨ k.toInt = 12 ∨ k.toInt = 13 := by omega
  rcases h3 with h | h | h | h | h | h | h | h | h | h | h | h | h | h
  · exact (Or.inl (Int32.toInt_inj.mp (h.trans (by decide))))
  · exact (Or.inr (Or.inl (Int32.toInt_inj.mp (h.trans (by decide)))))
  · exact (Or.inr (Or.inr (Or.inl (Int32.toInt_inj.mp (h.trans (by decide))))))
  · exact (Or.inr (Or.inr (Or.inr (Or.inl (Int32.toInt_inj.mp (h.trans (by decide)))))))
  · exact (Or.inr (Or.inr (Or.inr (Or.inr (Or.inl (Int32.toInt_inj.mp (h.trans (by decide))))))))
  · exact (Or.inr (Or.inr (Or.inr (Or.inr (Or.inr (Or.inl (Int32.toInt_inj.mp (h.trans (by decide)))))))))
  · exact (Or.inr (Or.inr (Or.inr (Or.inr (Or.inr (Or.inr (Or.inl (Int32.toInt_inj.mp (h.trans (by decide))))))))))
  · exact (Or.inr (Or.inr (Or.inr (Or.inr (Or.inr (Or.inr (Or.inr (Or.inl (Int32.toInt_inj.mp (h.trans (by decide)))))))))))
  · exact (Or.inr (Or.inr (Or.inr (Or.inr (Or.inr (Or.inr (Or.inr (Or.inr (Or.inl (Int32.toInt_inj.mp (h.trans (by decide))))))))))))
  · exact (Or.inr (Or.inr (Or.inr (Or.inr (Or.inr (Or.inr (Or.inr (Or.inr (Or.inr (Or.inl (Int32.toInt_inj.mp (h.trans (by decide)))))))))))))
  · exact (Or.inr (Or.inr (Or.inr (Or.inr (Or.inr (Or.inr (Or.inr (Or.inr (Or.inr (Or.inr (Or.inl (Int32.toInt_inj.mp (h.trans (by decide))))))))))))))
  · exact (Or.inr (Or.inr (Or.inr (Or.inr (Or.inr (Or.inr (Or.inr (Or.inr (Or.inr (Or.inr (Or.inr (Or.inl (Int32.toInt_inj.mp (h.trans (by decide)))))))))))))))
  · exact (Or.inr (Or.inr (Or.inr (Or.inr (Or.inr (Or.inr (Or.inr (Or.inr (Or.inr (Or.inr (Or.inr (Or.inr (Or.inl (Int32.toInt_inj.mp (h.trans (by decide))))))))))))))))
  · exact (Or.inr (Or.inr (Or.inr (Or.inr (Or.inr (Or.inr (Or.inr (Or.inr (Or.inr (Or.inr (Or.inr (Or.inr (Or.inr (Int32.toInt_inj.mp (h.trans (by decide))))))))))))))))

theorem pn_0 : plainName "com/example/canny_warden/cannywarden/server/IamErrorSenderPinLaw" = true := by first | (simp [plainName, overriddenIn]; done) | decide +kernel
theorem ef_0 (m : MethodId) (x0 : Int32) : entryFrame m #[(.int x0)] maxLocals = mkF m 0 #[.val (.int x0), .unset, .unset, .unset, .unset, .unset, .unset] [] := by first | (simp [entryFrame, mkF, argsToLocals, Value.category, maxLocals]; done) | rfl
theorem d1_0 : decode prog_85_method_5_code 0 = .ok (.aload_n 0, 1) := by decide +kernel
theorem d1_1 : decode prog_85_method_5_code 1 = .ok (.getfield 69, 3) := by decide +kernel
theorem d1_4 : decode prog_85_method_5_code 4 = .ok (.sipush 500, 3) := by decide +kernel
theorem d1_7 : decode prog_85_method_5_code 7 = .ok (.if_icmp .ge 7, 3) := by decide +kernel
theorem d1_10 : decode prog_85_method_5_code 10 = .ok (.iconst 1, 1) := by decide +kernel
theorem d1_11 : decode prog_85_method_5_code 11 = .ok (.goto 4, 3) := by decide +kernel
theorem d1_14 : decode prog_85_method_5_code 14 = .ok (.iconst 0, 1) := by decide +kernel
theorem d1_15 : decode prog_85_method_5_code 15 = .ok (.ireturn, 1) := by decide +kernel
theorem pn_1 : plainName "com/example/canny_warden/cannywarden/server/IamError" = true := by first | (simp [plainName, overriddenIn]; done) | decide +kernel
theorem ef_1 (m : MethodId) (x0 : Addr) : entryFrame m #[(.ref x0)] 1 = mkF m 0 #[.val (.ref x0)] [] := by first | (simp [entryFrame, mkF, argsToLocals, Value.category]; done) | rfl
theorem d2_0 : decode prog_85_method_4_code 0 = .ok (.aload_n 0, 1) := by decide +kernel
theorem d2_1 : decode prog_85_method_4_code 1 = .ok (.getfield 69, 3) := by decide +kernel
theorem d2_4 : decode prog_85_method_4_code 4 = .ok (.ireturn, 1) := by decide +kernel
theorem pn_2 : plainName "com/example/canny_warden/cannywarden/server/IamError" = true := by first | (simp [plainName, overriddenIn]; done) | decide +kernel
theorem ef_2 (m : MethodId) (x0 : Addr) : entryFrame m #[(.ref x0)] 1 = mkF m 0 #[.val (.ref x0)] [] := by first | (simp [entryFrame, mkF, argsToLocals, Value.category]; done) | rfl
theorem pd_0 : parseMethodDescriptor "()Z" = some ⟨[], some .boolean⟩ := by decide +kernel
theorem pd_1 : parseMethodDescriptor "()I" = some ⟨[], some .int⟩ := by decide +kernel
def Qm1_t (Z : State) (a1 : Addr) (w2 : Int32) (h0 : Heap) (n0 : Nat) (v : Option Value) (h : Heap) (L : List Loc) : Prop := v = some (.int (1 : Int32)) ∧ Fr n0 L ∧ h = h0
set_option maxRecDepth 65536 in
set_option maxHeartbeats 40000000 in
theorem rm1_t (l : Launch) (Z : State) (a0 : Array Value) (hw : ∀ d ∈ tables_1, d.before a0 Z = true) (ws : List Jvm.Cond) (a1 : Addr) (w2 : Int32) (h0 : Heap) (n0 : Nat) (Z0 : n0 ≤ h0.size) (F_status_a1 : Fld Z h0 a1 "com/example/canny_warden/cannywarden/server/IamError" "status" "I" (.int w2)) (hd0 : w2 < (500 : Int32)) :
    MetFree l (⟨"com/example/canny_warden/cannywarden/server/IamError", "sender", "()Z"⟩ : MethodName) (head1 (Jvm.Cond.code (⟨"com/example/canny_warden/cannywarden/server/IamError", "sender", "()Z"⟩ : MethodName) prog_85_method_5_code 1 (some .boolean) :: ws) ({ frames := 0, cells := 0, slots := 0, locals := 0 } : Room)) (fun a U => a = #[(.ref a1)] ∧ Z.Warmed39 U.vm ∧ U.heap = h0) (fun _ _ _ _ _ => True) (fun _ U o U' => ∃ v L, o = .returned v ∧ Qm1_t Z a1 w2 h0 n0 v U'.heap L ∧ FrameEnd U o U' L ({ frames := 0, cells := 0, slots := 0, locals := 0 } : Room).cells ({ frames := 0, cells := 0, slots := 0, locals := 0 } : Room).slots) := by
  refine MetFree.of_bodySF (plainFor_of_name pn_1) hisR ?_
  intro p e s m args below meth c s₁ Bd hml0 hP hK
  obtain ⟨rfl, hZ, hh⟩ := hP
  have hx := Bd.exec
  have hby := Bd.bytes
  have hml : c.maxLocals = 1 := hml0
  have hown : s.vm.findClass "com/example/canny_warden/cannywarden/server/IamError" = some m.cls := findClass_of_methodNamed Bd.named
  have hnm := (name_of_methodNamed Bd.named Bd.method).1
  have X0 : Stand p l e ({ frames := 0, cells := 0, slots := 0, locals := 0 } : Room) s m #[(.ref a1)] below meth c s₁ [] 0 0 := Stand.of_body Bd
  have e0 : s₁.heap = h0 := by rw [← hh, Bd.state]; rfl
  have N0 := Fr.nil n0
  refine Go.en (ef_1 m a1) ?_
  show Go p e below _ (s₁.setTop (mkF m 0 #[.val (.ref a1)] []))
  refine Go.st (fun _ kk => XS.aloadN X0.here hx rfl (hb hby d1_0) rfl rfl  kk) ?_
  show Go p e below _ (s₁.setTop (mkF m 1 #[.val (.ref a1)] [(.ref a1)]))
  obtain ⟨T3, X3, e3, st3⟩ := getF X0 hx hZ hown (host := "") (Or.inl (hw _ (List.mem_of_getElem? (i := 38) rfl))) Via.refl e0 F_status_a1 (g := (mkF m 1 #[.val (.ref a1)] [(.ref a1)])) rfl rfl (hb hby d1_1)
  refine Go.st st3 ?_
  show Go p e below _ (T3.setTop (mkF m 4 #[.val (.ref a1)] [(.int w2)]))
  refine Go.st (fun _ kk => XS.sipush X3.here hx rfl (hb hby d1_4) kk) ?_
  show Go p e below _ (T3.setTop (mkF m 7 #[.val (.ref a1)] [(.int (500 : Int32)), (.int w2)]))
  refine Go.st (fun _ kk => XS.icmpNo X3.here hx rfl (hb hby d1_7) rfl (tlt hd0).2.1 kk) ?_
  show Go p e below _ (T3.setTop (mkF m 10 #[.val (.ref a1)] []))
  refine Go.st (fun _ kk => XS.iconst X3.here hx rfl (hb hby d1_10) kk) ?_
  show Go p e below _ (T3.setTop (mkF m 11 #[.val (.ref a1)] [(.int (1 : Int32))]))
  refine Go.st (fun _ kk => XS.goto X3.here hx rfl (pc0 := 11) (pc' := 15) rfl (hb hby d1_11) (by decide) (by decide) kk) ?_
  show Go p e below _ (T3.setTop (mkF m 15 #[.val (.ref a1)] [(.int (1 : Int32))]))
  exact Go.ret (Q := Qm1_t Z a1 w2 h0 n0) X3 (v := some (.int (1 : Int32))) (fun h => by rw [Bd.returns] at h; cases h) Bd.notSynchronized (fun fs hr => retN X3 hx (t := .boolean) Bd.returns (by simp) (hb hby d1_15) hr) e3 ⟨rfl, N0, rfl⟩ (by decide) (by decide)
def Qm1_f (Z : State) (a1 : Addr) (w2 : Int32) (h0 : Heap) (n0 : Nat) (v : Option Value) (h : Heap) (L : List Loc) : Prop := v = some (.int (0 : Int32)) ∧ Fr n0 L ∧ h = h0
set_option maxRecDepth 65536 in
set_option maxHeartbeats 40000000 in
theorem rm1_f (l : Launch) (Z : State) (a0 : Array Value) (hw : ∀ d ∈ tables_1, d.before a0 Z = true) (ws : List Jvm.Cond) (a1 : Addr) (w2 : Int32) (h0 : Heap) (n0 : Nat) (Z0 : n0 ≤ h0.size) (F_status_a1 : Fld Z h0 a1 "com/example/canny_warden/cannywarden/server/IamError" "status" "I" (.int w2)) (hd0 : ¬ (w2 < (500 : Int32))) :
    MetFree l (⟨"com/example/canny_warden/cannywarden/server/IamError", "sender", "()Z"⟩ : MethodName) (head1 (Jvm.Cond.code (⟨"com/example/canny_warden/cannywarden/server/IamError", "sender", "()Z"⟩ : MethodName) prog_85_method_5_code 1 (some .boolean) :: ws) ({ frames := 0, cells := 0, slots := 0, locals := 0 } : Room)) (fun a U => a = #[(.ref a1)] ∧ Z.Warmed39 U.vm ∧ U.heap = h0) (fun _ _ _ _ _ => True) (fun _ U o U' => ∃ v L, o = .returned v ∧ Qm1_f Z a1 w2 h0 n0 v U'.heap L ∧ FrameEnd U o U' L ({ frames := 0, cells := 0, slots := 0, locals := 0 } : Room).cells ({ frames := 0, cells := 0, slots := 0, locals := 0 } : Room).slots) := by
  refine MetFree.of_bodySF (plainFor_of_name pn_1) hisR ?_
  intro p e s m args below meth c s₁ Bd hml0 hP hK
  obtain ⟨rfl, hZ, hh⟩ := hP
  have hx := Bd.exec
  have hby := Bd.bytes
  have hml : c.maxLocals = 1 := hml0
  have hown : s.vm.findClass "com/example/canny_warden/cannywarden/server/IamError" = some m.cls := findClass_of_methodNamed Bd.named
  have hnm := (name_of_methodNamed Bd.named Bd.method).1
  have X0 : Stand p l e ({ frames := 0, cells := 0, slots := 0, locals := 0 } : Room) s m #[(.ref a1)] below meth c s₁ [] 0 0 := Stand.of_body Bd
  have e0 : s₁.heap = h0 := by rw [← hh, Bd.state]; rfl
  have N0 := Fr.nil n0
  refine Go.en (ef_1 m a1) ?_
  show Go p e below _ (s₁.setTop (mkF m 0 #[.val (.ref a1)] []))
  refine Go.st (fun _ kk => XS.aloadN X0.here hx rfl (hb hby d1_0) rfl rfl  kk) ?_
  show Go p e below _ (s₁.setTop (mkF m 1 #[.val (.ref a1)] [(.ref a1)]))
  obtain ⟨T3, X3, e3, st3⟩ := getF X0 hx hZ hown (host := "") (Or.inl (hw _ (List.mem_of_getElem? (i := 38) rfl))) Via.refl e0 F_status_a1 (g := (mkF m 1 #[.val (.ref a1)] [(.ref a1)])) rfl rfl (hb hby d1_1)
  refine Go.st st3 ?_
  show Go p e below _ (T3.setTop (mkF m 4 #[.val (.ref a1)] [(.int w2)]))
  refine Go.st (fun _ kk => XS.sipush X3.here hx rfl (hb hby d1_4) kk) ?_
  show Go p e below _ (T3.setTop (mkF m 7 #[.val (.ref a1)] [(.int (500 : Int32)), (.int w2)]))
  refine Go.st (fun _ kk => XS.icmpYes X3.here hx rfl (pc0 := 7) (pc' := 14) rfl (hb hby d1_7) rfl (flt hd0).2.1 (by decide) (by decide) kk) ?_
  show Go p e below _ (T3.setTop (mkF m 14 #[.val (.ref a1)] []))
  refine Go.st (fun _ kk => XS.iconst X3.here hx rfl (hb hby d1_14) kk) ?_
  show Go p e below _ (T3.setTop (mkF m 15 #[.val (.ref a1)] [(.int (0 : Int32))]))
  exact Go.ret (Q := Qm1_f Z a1 w2 h0 n0) X3 (v := some (.int (0 : Int32))) (fun h => by rw [Bd.returns] at h; cases h) Bd.notSynchronized (fun fs hr => retN X3 hx (t := .boolean) Bd.returns (by simp) (hb hby d1_15) hr) e3 ⟨rfl, N0, rfl⟩ (by decide) (by decide)
def Qm2_o (Z : State) (a1 : Addr) (w2 : Int32) (h0 : Heap) (n0 : Nat) (v : Option Value) (h : Heap) (L : List Loc) : Prop := v = some (.int w2) ∧ Fr n0 L ∧ h = h0
set_option maxRecDepth 65536 in
set_option maxHeartbeats 40000000 in
theorem rm2_o (l : Launch) (Z : State) (a0 : Array Value) (hw : ∀ d ∈ tables_1, d.before a0 Z = true) (ws : List Jvm.Cond) (a1 : Addr) (w2 : Int32) (h0 : Heap) (n0 : Nat) (Z0 : n0 ≤ h0.size) (F_status_a1 : Fld Z h0 a1 "com/example/canny_warden/cannywarden/server/IamError" "status" "I" (.int w2)) :
    MetFree l (⟨"com/example/canny_warden/cannywarden/server/IamError", "status", "()I"⟩ : MethodName) (head1 (Jvm.Cond.code (⟨"com/example/canny_warden/cannywarden/server/IamError", "status", "()I"⟩ : MethodName) prog_85_method_4_code 1 (some .int) :: ws) ({ frames := 0, cells := 0, slots := 0, locals := 0 } : Room)) (fun a U => a = #[(.ref a1)] ∧ Z.Warmed39 U.vm ∧ U.heap = h0) (fun _ _ _ _ _ => True) (fun _ U o U' => ∃ v L, o = .returned v ∧ Qm2_o Z a1 w2 h0 n0 v U'.heap L ∧ FrameEnd U o U' L ({ frames := 0, cells := 0, slots := 0, locals := 0 } : Room).cells ({ frames := 0, cells := 0, slots := 0, locals := 0 } : Room).slots) := by
  refine MetFree.of_bodySF (plainFor_of_name pn_2) hisR ?_
  intro p e s m args below meth c s₁ Bd hml0 hP hK
  obtain ⟨rfl, hZ, hh⟩ := hP
  have hx := Bd.exec
  have hby := Bd.bytes
  have hml : c.maxLocals = 1 := hml0
  have hown : s.vm.findClass "com/example/canny_warden/cannywarden/server/IamError" = some m.cls := findClass_of_methodNamed Bd.named
  have hnm := (name_of_methodNamed Bd.named Bd.method).1
  have X0 : Stand p l e ({ frames := 0, cells := 0, slots := 0, locals := 0 } : Room) s m #[(.ref a1)] below meth c s₁ [] 0 0 := Stand.of_body Bd
  have e0 : s₁.heap = h0 := by rw [← hh, Bd.state]; rfl
  have N0 := Fr.nil n0
  refine Go.en (ef_2 m a1) ?_
  show Go p e below _ (s₁.setTop (mkF m 0 #[.val (.ref a1)] []))
  refine Go.st (fun _ kk => XS.aloadN X0.here hx rfl (hb hby d2_0) rfl rfl  kk) ?_
  show Go p e below _ (s₁.setTop (mkF m 1 #[.val (.ref a1)] [(.ref a1)]))
  obtain ⟨T3, X3, e3, st3⟩ := getF X0 hx hZ hown (host := "") (Or.inl (hw _ (List.mem_of_getElem? (i := 38) rfl))) Via.refl e0 F_status_a1 (g := (mkF m 1 #[.val (.ref a1)] [(.ref a1)])) rfl rfl (hb hby d2_1)
  refine Go.st st3 ?_
  show Go p e below _ (T3.setTop (mkF m 4 #[.val (.ref a1)] [(.int w2)]))
  exact Go.ret (Q := Qm2_o Z a1 w2 h0 n0) X3 (v := some (.int w2)) (fun h => by rw [Bd.returns] at h; cases h) Bd.notSynchronized (fun fs hr => retOut X3 hx Bd.returns rfl (Or.inl ⟨rfl, Or.inl rfl, _, rfl⟩) (hb hby d2_4) hr) e3 ⟨rfl, N0, rfl⟩ (by decide) (by decide)
def Q0 (n0 : Nat) (v : Option Value) (h : Heap) (L : List Loc) : Prop := v = some (.int (1 : Int32)) ∧ Fr n0 L
set_option maxRecDepth 65536 in
set_option maxHeartbeats 40000000 in
theorem rm0 (l : Launch) (Z : State) (a0 : Array Value) (hw : ∀ d ∈ tables_1, d.before a0 Z = true) (ws : List Jvm.Cond) (p1 : Int32) (w_ACCESS_DENIED : Addr) (w_MISSING_AUTHENTICATION_TOKEN : Addr) (w_INVALID_CLIENT_TOKEN_ID : Addr) (w_SIGNATURE_DOES_NOT_MATCH : Addr) (w_INCOMPLETE_SIGNATURE : Addr) (w_REQUEST_EXPIRED : Addr) (w_MISSING_ACTION : Addr) (w_INVALID_ACTION : Addr) (w_VALIDATION_ERROR : Addr) (w_NO_SUCH_ENTITY : Addr) (w_ENTITY_ALREADY_EXISTS : Addr) (w_DELETE_CONFLICT : Addr) (w_LIMIT_EXCEEDED : Addr) (w_SERVICE_FAILURE : Addr) (h0 : Heap) (n0 : Nat) (Z0 : n0 ≤ h0.size) (S_ACCESS_DENIED : Sta Z h0 "com/example/canny_warden/cannywarden/server/IamError" "ACCESS_DENIED" "Lcom/example/canny_warden/cannywarden/server/IamError;" (.ref w_ACCESS_DENIED)) (E_w_ACCESS_DENIED : Exa Z h0 w_ACCESS_DENIED "com/example/canny_warden/cannywarden/server/IamError") (S_MISSING_AUTHENTICATION_TOKEN : Sta Z h0 "com/example/canny_warden/cannywarden/server/IamError" "MISSING_AUTHENTICATION_TOKEN" "Lcom/example/canny_warden/cannywarden/server/IamError;" (.ref w_MISSING_AUTHENTICATION_TOKEN)) (E_w_MISSING_AUTHENTICATION_TOKEN : Exa Z h0 w_MISSING_AUTHENTICATION_TOKEN "com/example/canny_warden/cannywarden/server/IamError") (S_INVALID_CLIENT_TOKEN_ID : Sta Z h0 "com/example/canny_warden/cannywarden/server/IamError" "INVALID_CLIENT_TOKEN_ID" "Lcom/example/canny_warden/cannywarden/server/IamError;" (.ref w_INVALID_CLIENT_TOKEN_ID)) (E_w_INVALID_CLIENT_TOKEN_ID : Exa Z h0 w_INVALID_CLIENT_TOKEN_ID "com/example/canny_warden/cannywarden/server/IamError") (S_SIGNATURE_DOES_NOT_MATCH : Sta Z h0 "com/example/canny_warden/cannywarden/server/IamError" "SIGNATURE_DOES_NOT_MATCH" "Lcom/example/canny_warden/cannywarden/server/IamError;" (.ref w_SIGNATURE_DOES_NOT_MATCH)) (E_w_SIGNATURE_DOES_NOT_MATCH : Exa Z h0 w_SIGNATURE_DOES_NOT_MATCH "com/example/canny_warden/cannywarden/server/IamError") (S_INCOMPLETE_SIGNATURE : Sta Z h0 "com/example/canny_warden/cannywarden/server/IamError" "INCOMPLETE_SIGNATURE" "Lcom/example/canny_warden/cannywarden/server/IamError;" (.ref w_INCOMPLETE_SIGNATURE)) (E_w_INCOMPLETE_SIGNATURE : Exa Z h0 w_INCOMPLETE_SIGNATURE "com/example/canny_warden/cannywarden/server/IamError") (S_REQUEST_EXPIRED : Sta Z h0 "com/example/canny_warden/cannywarden/server/IamError" "REQUEST_EXPIRED" "Lcom/example/canny_warden/cannywarden/server/IamError;" (.ref w_REQUEST_EXPIRED)) (E_w_REQUEST_EXPIRED : Exa Z h0 w_REQUEST_EXPIRED "com/example/canny_warden/cannywarden/server/IamError") (S_MISSING_ACTION : Sta Z h0 "com/example/canny_warden/cannywarden/server/IamError" "MISSING_ACTION" "Lcom/example/canny_warden/cannywarden/server/IamError;" (.ref w_MISSING_ACTION)) (E_w_MISSING_ACTION : Exa Z h0 w_MISSING_ACTION "com/example/canny_warden/cannywarden/server/IamError") (S_INVALID_ACTION : Sta Z h0 "com/example/canny_warden/cannywarden/server/IamError" "INVALID_ACTION" "Lcom/example/canny_warden/cannywarden/server/IamError;" (.ref w_INVALID_ACTION)) (E_w_INVALID_ACTION : Exa Z h0 w_INVALID_ACTION "com/example/canny_warden/cannywarden/server/IamError") (S_VALIDATION_ERROR : Sta Z h0 "com/example/canny_warden/cannywarden/server/IamError" "VALIDATION_ERROR" "Lcom/example/canny_warden/cannywarden/server/IamError;" (.ref w_VALIDATION_ERROR)) (E_w_VALIDATION_ERROR : Exa Z h0 w_VALIDATION_ERROR "com/example/canny_warden/cannywarden/server/IamError") (S_NO_SUCH_ENTITY : Sta Z h0 "com/example/canny_warden/cannywarden/server/IamError" "NO_SUCH_ENTITY" "Lcom/example/canny_warden/cannywarden/server/IamError;" (.ref w_NO_SUCH_ENTITY)) (E_w_NO_SUCH_ENTITY : Exa Z h0 w_NO_SUCH_ENTITY "com/example/canny_warden/cannywarden/server/IamError") (S_ENTITY_ALREADY_EXISTS : Sta Z h0 "com/example/canny_warden/cannywarden/server/IamError" "ENTITY_ALREADY_EXISTS" "Lcom/example/canny_warden/cannywarden/server/IamError;" (.ref w_ENTITY_ALREADY_EXISTS)) (E_w_ENTITY_ALREADY_EXISTS : Exa Z h0 w_ENTITY_ALREADY_EXISTS "com/example/canny_warden/cannywarden/server/IamError") (S_DELETE_CONFLICT : Sta Z h0 "com/example/canny_warden/cannywarden/server/IamError" "DELETE_CONFLICT" "Lcom/example/canny_warden/cannywarden/server/IamError;" (.ref w_DELETE_CONFLICT)) (E_w_DELETE_CONFLICT : Exa Z h0 w_DELETE_CONFLICT "com/example/canny_warden/cannywarden/server/IamError") (S_LIMIT_EXCEEDED : Sta Z h0 "com/example/canny_warden/cannywarden/server/IamError" "LIMIT_EXCEEDED" "Lcom/example/canny_warden/cannywarden/server/IamError;" (.ref w_LIMIT_EXCEEDED)) (E_w_LIMIT_EXCEEDED : Exa Z h0 w_LIMIT_EXCEEDED "com/example/canny_warden/cannywarden/server/IamError") (S_SERVICE_FAILURE : Sta Z h0 "com/example/canny_warden/cannywarden/server/IamError" "SERVICE_FAILURE" "Lcom/example/canny_warden/cannywarden/server/IamError;" (.ref w_SERVICE_FAILURE)) (E_w_SERVICE_FAILURE : Exa Z h0 w_SERVICE_FAILURE "com/example/canny_warden/cannywarden/server/IamError") (F_status_w_ACCESS_DENIED : Fld Z h0 w_ACCESS_DENIED "com/example/canny_warden/cannywarden/server/IamError" "status" "I" (.int (403 : Int32))) (F_status_w_SIGNATURE_DOES_NOT_MATCH : Fld Z h0 w_SIGNATURE_DOES_NOT_MATCH "com/example/canny_warden/cannywarden/server/IamError" "status" "I" (.int (403 : Int32))) (F_status_w_LIMIT_EXCEEDED : Fld Z h0 w_LIMIT_EXCEEDED "com/example/canny_warden/cannywarden/server/IamError" "status" "I" (.int (409 : Int32))) (F_status_w_SERVICE_FAILURE : Fld Z h0 w_SERVICE_FAILURE "com/example/canny_warden/cannywarden/server/IamError" "status" "I" (.int (500 : Int32))) (F_status_w_INCOMPLETE_SIGNATURE : Fld Z h0 w_INCOMPLETE_SIGNATURE "com/example/canny_warden/cannywarden/server/IamError" "status" "I" (.int (400 : Int32))) (F_status_w_INVALID_ACTION : Fld Z h0 w_INVALID_ACTION "com/example/canny_warden/cannywarden/server/IamError" "status" "I" (.int (400 : Int32))) (F_status_w_INVALID_CLIENT_TOKEN_ID : Fld Z h0 w_INVALID_CLIENT_TOKEN_ID "com/example/canny_warden/cannywarden/server/IamError" "status" "I" (.int (403 : Int32))) (F_status_w_DELETE_CONFLICT : Fld Z h0 w_DELETE_CONFLICT "com/example/canny_warden/cannywarden/server/IamError" "status" "I" (.int (409 : Int32))) (F_status_w_ENTITY_ALREADY_EXISTS : Fld Z h0 w_ENTITY_ALREADY_EXISTS "com/example/canny_warden/cannywarden/server/IamError" "status" "I" (.int (409 : Int32))) (F_status_w_VALIDATION_ERROR : Fld Z h0 w_VALIDATION_ERROR "com/example/canny_warden/cannywarden/server/IamError" "status" "I" (.int (400 : Int32))) (F_status_w_MISSING_AUTHENTICATION_TOKEN : Fld Z h0 w_MISSING_AUTHENTICATION_TOKEN "com/example/canny_warden/cannywarden/server/IamError" "status" "I" (.int (403 : Int32))) (F_status_w_NO_SUCH_ENTITY : Fld Z h0 w_NO_SUCH_ENTITY "com/example/canny_warden/cannywarden/server/IamError" "status" "I" (.int (404 : Int32))) (F_status_w_REQUEST_EXPIRED : Fld Z h0 w_REQUEST_EXPIRED "com/example/canny_warden/cannywarden/server/IamError" "status" "I" (.int (400 : Int32))) (F_status_w_MISSING_ACTION : Fld Z h0 w_MISSING_ACTION "com/example/canny_warden/cannywarden/server/IamError" "status" "I" (.int (400 : Int32))) :
    MetFree l x (head1 (Jvm.Cond.code x code maxLocals ret :: ws) room_1) (fun a U => a = #[(.int p1)] ∧ Z.Warmed39 U.vm ∧ U.heap = h0) (fun _ _ _ _ _ => True) (fun _ U o U' => ∃ v L, o = .returned v ∧ Q0 n0 v U'.heap L ∧ FrameEnd U o U' L room_1.cells room_1.slots) := by
  refine MetFree.of_bodySF (plainFor_of_name pn_0) hisR ?_
  intro p e s m args below meth c s₁ Bd hml0 hP hK
  obtain ⟨rfl, hZ, hh⟩ := hP
  have hx := Bd.exec
  have hby := Bd.bytes
  have hml : c.maxLocals = 7 := hml0
  have hown : s.vm.findClass "com/example/canny_warden/cannywarden/server/IamErrorSenderPinLaw" = some m.cls := findClass_of_methodNamed Bd.named
  have hnm := (name_of_methodNamed Bd.named Bd.method).1
  have X0 : Stand p l e room_1 s m #[(.int p1)] below meth c s₁ [] 0 0 := Stand.of_body Bd
  have e0 : s₁.heap = h0 := by rw [← hh, Bd.state]; rfl
  have N0 := Fr.nil n0
  refine Go.en (ef_0 m p1) ?_
  show Go p e below _ (s₁.setTop (mkF m 0 #[.val (.int p1), .unset, .unset, .unset, .unset, .unset, .unset] []))
  refine Go.st (fun _ kk => XS.bipush X0.here hx rfl (hb hby at_0) kk) ?_
  show Go p e below _ (s₁.setTop (mkF m 2 #[.val (.int p1), .unset, .unset, .unset, .unset, .unset, .unset] [(.int (14 : Int32))]))
  obtain ⟨T2, h2, k2, X2, e2, E2, A2, O2, st2⟩ := newR X0 hx hZ hown (hw _ (List.mem_of_getElem? (i := 0) rfl)) (hw _ (List.mem_of_getElem? (i := 1) rfl)) e0 (g := (mkF m 2 #[.val (.int p1), .unset, .unset, .unset, .unset, .unset, .unset] [(.int (14 : Int32))])) rfl (hb hby at_2) rfl (by decide) (cap := 14) (by decide) (by decide) (by decide) (by decide)
  obtain ⟨b2, g2⟩ : ∃ z, z = h0.size := ⟨_, rfl⟩
  rw [← g2] at A2 st2
  refine Go.st st2 ?_
  have g_b2 : n0 ≤ b2 := Nat.le_trans Z0 (Nat.le_of_eq g2.symm)
  have sz_b2 : h0.size ≤ b2 := Nat.le_of_eq g2.symm
  have K2 : Keep h0 h2 [] := (Keep.refl h0 []).ext E2
  have V_b2 : Arv Z h2 b2 k2 (.object "com/example/canny_warden/cannywarden/server/IamError") (14 : Int32) [.null, .null, .null, .null, .null, .null, .null, .null, .null, .null, .null, .null, .null, .null] .null := (Arv.new A2 (by decide)).pad (pad_rep [] .null 14)
  show Go p e below _ (T2.setTop (mkF m 5 #[.val (.int p1), .unset, .unset, .unset, .unset, .unset, .unset] [(.ref b2)]))
  refine Go.st (fun _ kk => XS.dup X2.here hx rfl (hb hby at_5) rfl rfl kk) ?_
  show Go p e below _ (T2.setTop (mkF m 6 #[.val (.int p1), .unset, .unset, .unset, .unset, .unset, .unset] [(.ref b2), (.ref b2)]))
  refine Go.st (fun _ kk => XS.iconst X2.here hx rfl (hb hby at_6) kk) ?_
  show Go p e below _ (T2.setTop (mkF m 7 #[.val (.int p1), .unset, .unset, .unset, .unset, .unset, .unset] [(.int (0 : Int32)), (.ref b2), (.ref b2)]))
  have f_3 := (staKeep0 S_ACCESS_DENIED K2)
  obtain ⟨T4, X4, e4, st4⟩ := getS2 X2 hx hZ hown (host := "") (Or.inl (hw _ (List.mem_of_getElem? (i := 2) rfl))) Via.refl e2 f_3 (g := (mkF m 7 #[.val (.int p1), .unset, .unset, .unset, .unset, .unset, .unset] [(.int (0 : Int32)), (.ref b2), (.ref b2)])) rfl (hb hby at_7)
  refine Go.st st4 ?_
  show Go p e below _ (T4.setTop (mkF m 10 #[.val (.int p1), .unset, .unset, .unset, .unset, .unset, .unset] [(.ref w_ACCESS_DENIED), (.int (0 : Int32)), (.ref b2), (.ref b2)]))
  obtain ⟨clq5, Arq5, caq5, saq5, naq5, haq5, gaq5⟩ := V_b2
  have inq5 : ¬ ((0 : Int32) < 0 ∨ clq5.slots.size ≤ ((0 : Int32)).toNatClampNeg) := inb_of saq5 ⟨by decide, by decide⟩
  have f_6 := (E_w_ACCESS_DENIED.keep K2)
  obtain ⟨T7, h7, X7, e7, W7, st7⟩ := stR X4 hx hZ e4 Arq5 (j := (0 : Int32)) inq5 rfl (Sto.ofV Arq5 caq5 O2 (Ins.self f_6)) (g := (mkF m 10 #[.val (.int p1), .unset, .unset, .unset, .unset, .unset, .unset] [(.ref w_ACCESS_DENIED), (.int (0 : Int32)), (.ref b2), (.ref b2)])) rfl rfl (hb hby at_10)
  refine Go.st st7 ?_
  have K7 : Keep h0 h7 [] := K2.wr W7 (Or.inr sz_b2)
  have V7 : Arv Z h7 b2 k2 (.object "com/example/canny_warden/cannywarden/server/IamError") (14 : Int32) [(.ref w_ACCESS_DENIED), .null, .null, .null, .null, .null, .null, .null, .null, .null, .null, .null, .null, .null] .null := Arv.set Arq5 caq5 saq5 naq5 haq5 gaq5 rfl W7 0 rfl (Nat.le_of_ble_eq_true rfl)
  have N7 := Fr.snoc X7 N0 g_b2
  show Go p e below _ (T7.setTop (mkF m 11 #[.val (.int p1), .unset, .unset, .unset, .unset, .unset, .unset] [(.ref b2)]))
  refine Go.st (fun _ kk => XS.dup X7.here hx rfl (hb hby at_11) rfl rfl kk) ?_
  show Go p e below _ (T7.setTop (mkF m 12 #[.val (.int p1), .unset, .unset, .unset, .unset, .unset, .unset] [(.ref b2), (.ref b2)]))
  refine Go.st (fun _ kk => XS.iconst X7.here hx rfl (hb hby at_12) kk) ?_
  show Go p e below _ (T7.setTop (mkF m 13 #[.val (.int p1), .unset, .unset, .unset, .unset, .unset, .unset] [(.int (1 : Int32)), (.ref b2), (.ref b2)]))
  have f_8 := (staKeep0 S_MISSING_AUTHENTICATION_TOKEN K7)
  obtain ⟨T9, X9, e9, st9⟩ := getS2 X7 hx hZ hown (host := "") (Or.inl (hw _ (List.mem_of_getElem? (i := 6) rfl))) Via.refl e7 f_8 (g := (mkF m 13 #[.val (.int p1), .unset, .unset, .unset, .unset, .unset, .unset] [(.int (1 : Int32)), (.ref b2), (.ref b2)])) rfl (hb hby at_13)
  refine Go.st st9 ?_
  show Go p e below _ (T9.setTop (mkF m 16 #[.val (.int p1), .unset, .unset, .unset, .unset, .unset, .unset] [(.ref w_MISSING_AUTHENTICATION_TOKEN), (.int (1 : Int32)), (.ref b2), (.ref b2)]))
  obtain ⟨clq10, Arq10, caq10, saq10, naq10, haq10, gaq10⟩ := V7
  have inq10 : ¬ ((1 : Int32) < 0 ∨ clq10.slots.size ≤ ((1 : Int32)).toNatClampNeg) := inb_of saq10 ⟨by decide, by decide⟩
  have f_11 := (E_w_MISSING_AUTHENTICATION_TOKEN.keep K7)
  obtain ⟨T12, h12, X12, e12, W12, st12⟩ := stR X9 hx hZ e9 Arq10 (j := (1 : Int32)) inq10 rfl (Sto.ofV Arq10 caq10 O2 (Ins.self f_11)) (g := (mkF m 16 #[.val (.int p1), .unset, .unset, .unset, .unset, .unset, .unset] [(.ref w_MISSING_AUTHENTICATION_TOKEN), (.int (1 : Int32)), (.ref b2), (.ref b2)])) rfl rfl (hb hby at_16)
  refine Go.st st12 ?_
  have K12 : Keep h0 h12 [] := K7.wr W12 (Or.inr sz_b2)
  have V12 : Arv Z h12 b2 k2 (.object "com/example/canny_warden/cannywarden/server/IamError") (14 : Int32) [(.ref w_ACCESS_DENIED), (.ref w_MISSING_AUTHENTICATION_TOKEN), .null, .null, .null, .null, .null, .null, .null, .null, .null, .null, .null, .null] .null := Arv.set Arq10 caq10 saq10 naq10 haq10 gaq10 rfl W12 1 rfl (Nat.le_of_ble_eq_true rfl)
  have N12 := Fr.snoc X12 N7 g_b2
  show Go p e below _ (T12.setTop (mkF m 17 #[.val (.int p1), .unset, .unset, .unset, .unset, .unset, .unset] [(.ref b2)]))
  refine Go.st (fun _ kk => XS.dup X12.here hx rfl (hb hby at_17) rfl rfl kk) ?_
  show Go p e below _ (T12.setTop (mkF m 18 #[.val (.int p1), .unset, .unset, .unset, .unset, .unset, .unset] [(.ref b2), (.ref b2)]))
  refine Go.st (fun _ kk => XS.iconst X12.here hx rfl (hb hby at_18) kk) ?_
  show Go p e below _ (T12.setTop (mkF m 19 #[.val (.int p1), .unset, .unset, .unset, .unset, .unset, .unset] [(.int (2 : Int32)), (.ref b2), (.ref b2)]))
  have f_13 := (staKeep0 S_INVALID_CLIENT_TOKEN_ID K12)
  obtain ⟨T14, X14, e14, st14⟩ := getS2 X12 hx hZ hown (host := "") (Or.inl (hw _ (List.mem_of_getElem? (i := 8) rfl))) Via.refl e12 f_13 (g := (mkF m 19 #[.val (.int p1), .unset, .unset, .unset, .unset, .unset, .unset] [(.int (2 : Int32)), (.ref b2), (.ref b2)])) rfl (hb hby at_19)
  refine Go.st st14 ?_
  show Go p e below _ (T14.setTop (mkF m 22 #[.val (.int p1), .unset, .unset, .unset, .unset, .unset, .unset] [(.ref w_INVALID_CLIENT_TOKEN_ID), (.int (2 : Int32)), (.ref b2), (.ref b2)]))
  obtain ⟨clq15, Arq15, caq15, saq15, naq15, haq15, gaq15⟩ := V12
  have inq15 : ¬ ((2 : Int32) < 0 ∨ clq15.slots.size ≤ ((2 : Int32)).toNatClampNeg) := inb_of saq15 ⟨by decide, by decide⟩
  have f_16 := (E_w_INVALID_CLIENT_TOKEN_ID.keep K12)
  obtain ⟨T17, h17, X17, e17, W17, st17⟩ := stR X14 hx hZ e14 Arq15 (j := (2 : Int32)) inq15 rfl (Sto.ofV Arq15 caq15 O2 (Ins.self f_16)) (g := (mkF m 22 #[.val (.int p1), .unset, .unset, .unset, .unset, .unset, .unset] [(.ref w_INVALID_CLIENT_TOKEN_ID), (.int (2 : Int32)), (.ref b2), (.ref b2)])) rfl rfl (hb hby at_22)
  refine Go.st st17 ?_
  have K17 : Keep h0 h17 [] := K12.wr W17 (Or.inr sz_b2)
  have V17 : Arv Z h17 b2 k2 (.object "com/example/canny_warden/cannywarden/server/IamError") (14 : Int32) [(.ref w_ACCESS_DENIED), (.ref w_MISSING_AUTHENTICATION_TOKEN), (.ref w_INVALID_CLIENT_TOKEN_ID), .null, .null, .null, .null, .null, .null, .null, .null, .null, .null, .null] .null := Arv.set Arq15 caq15 saq15 naq15 haq15 gaq15 rfl W17 2 rfl (Nat.le_of_ble_eq_true rfl)
  have N17 := Fr.snoc X17 N12 g_b2
  show Go p e below _ (T17.setTop (mkF m 23 #[.val (.int p1), .unset, .unset, .unset, .unset, .unset, .unset] [(.ref b2)]))
  refine Go.st (fun _ kk => XS.dup X17.here hx rfl (hb hby at_23) rfl rfl kk) ?_
  show Go p e below _ (T17.setTop (mkF m 24 #[.val (.int p1), .unset, .unset, .unset, .unset, .unset, .unset] [(.ref b2), (.ref b2)]))
  refine Go.st (fun _ kk => XS.iconst X17.here hx rfl (hb hby at_24) kk) ?_
  show Go p e below _ (T17.setTop (mkF m 25 #[.val (.int p1), .unset, .unset, .unset, .unset, .unset, .unset] [(.int (3 : Int32)), (.ref b2), (.ref b2)]))
  have f_18 := (staKeep0 S_SIGNATURE_DOES_NOT_MATCH K17)
  obtain ⟨T19, X19, e19, st19⟩ := getS2 X17 hx hZ hown (host := "") (Or.inl (hw _ (List.mem_of_getElem? (i := 10) rfl))) Via.refl e17 f_18 (g := (mkF m 25 #[.val (.int p1), .unset, .unset, .unset, .unset, .unset, .unset] [(.int (3 : Int32)), (.ref b2), (.ref b2)])) rfl (hb hby at_25)
  refine Go.st st19 ?_
  show Go p e below _ (T19.setTop (mkF m 28 #[.val (.int p1), .unset, .unset, .unset, .unset, .unset, .unset] [(.ref w_SIGNATURE_DOES_NOT_MATCH), (.int (3 : Int32)), (.ref b2), (.ref b2)]))
  obtain ⟨clq20, Arq20, caq20, saq20, naq20, haq20, gaq20⟩ := V17
  have inq20 : ¬ ((3 : Int32) < 0 ∨ clq20.slots.size ≤ ((3 : Int32)).toNatClampNeg) := inb_of saq20 ⟨by decide, by decide⟩
  have f_21 := (E_w_SIGNATURE_DOES_NOT_MATCH.keep K17)
  obtain ⟨T22, h22, X22, e22, W22, st22⟩ := stR X19 hx hZ e19 Arq20 (j := (3 : Int32)) inq20 rfl (Sto.ofV Arq20 caq20 O2 (Ins.self f_21)) (g := (mkF m 28 #[.val (.int p1), .unset, .unset, .unset, .unset, .unset, .unset] [(.ref w_SIGNATURE_DOES_NOT_MATCH), (.int (3 : Int32)), (.ref b2), (.ref b2)])) rfl rfl (hb hby at_28)
  refine Go.st st22 ?_
  have K22 : Keep h0 h22 [] := K17.wr W22 (Or.inr sz_b2)
  have V22 : Arv Z h22 b2 k2 (.object "com/example/canny_warden/cannywarden/server/IamError") (14 : Int32) [(.ref w_ACCESS_DENIED), (.ref w_MISSING_AUTHENTICATION_TOKEN), (.ref w_INVALID_CLIENT_TOKEN_ID), (.ref w_SIGNATURE_DOES_NOT_MATCH), .null, .null, .null, .null, .null, .null, .null, .null, .null, .null] .null := Arv.set Arq20 caq20 saq20 naq20 haq20 gaq20 rfl W22 3 rfl (Nat.le_of_ble_eq_true rfl)
  have N22 := Fr.snoc X22 N17 g_b2
  show Go p e below _ (T22.setTop (mkF m 29 #[.val (.int p1), .unset, .unset, .unset, .unset, .unset, .unset] [(.ref b2)]))
  refine Go.st (fun _ kk => XS.dup X22.here hx rfl (hb hby at_29) rfl rfl kk) ?_
  show Go p e below _ (T22.setTop (mkF m 30 #[.val (.int p1), .unset, .unset, .unset, .unset, .unset, .unset] [(.ref b2), (.ref b2)]))
  refine Go.st (fun _ kk => XS.iconst X22.here hx rfl (hb hby at_30) kk) ?_
  show Go p e below _ (T22.setTop (mkF m 31 #[.val (.int p1), .unset, .unset, .unset, .unset, .unset, .unset] [(.int (4 : Int32)), (.ref b2), (.ref b2)]))
  have f_23 := (staKeep0 S_INCOMPLETE_SIGNATURE K22)
  obtain ⟨T24, X24, e24, st24⟩ := getS2 X22 hx hZ hown (host := "") (Or.inl (hw _ (List.mem_of_getElem? (i := 12) rfl))) Via.refl e22 f_23 (g := (mkF m 31 #[.val (.int p1), .unset, .unset, .unset, .unset, .unset, .unset] [(.int (4 : Int32)), (.ref b2), (.ref b2)])) rfl (hb hby at_31)
  refine Go.st st24 ?_
  show Go p e below _ (T24.setTop (mkF m 34 #[.val (.int p1), .unset, .unset, .unset, .unset, .unset, .unset] [(.ref w_INCOMPLETE_SIGNATURE), (.int (4 : Int32)), (.ref b2), (.ref b2)]))
  obtain ⟨clq25, Arq25, caq25, saq25, naq25, haq25, gaq25⟩ := V22
  have inq25 : ¬ ((4 : Int32) < 0 ∨ clq25.slots.size ≤ ((4 : Int32)).toNatClampNeg) := inb_of saq25 ⟨by decide, by decide⟩
  have f_26 := (E_w_INCOMPLETE_SIGNATURE.keep K22)
  obtain ⟨T27, h27, X27, e27, W27, st27⟩ := stR X24 hx hZ e24 Arq25 (j := (4 : Int32)) inq25 rfl (Sto.ofV Arq25 caq25 O2 (Ins.self f_26)) (g := (mkF m 34 #[.val (.int p1), .unset, .unset, .unset, .unset, .unset, .unset] [(.ref w_INCOMPLETE_SIGNATURE), (.int (4 : Int32)), (.ref b2), (.ref b2)])) rfl rfl (hb hby at_34)
  refine Go.st st27 ?_
  have K27 : Keep h0 h27 [] := K22.wr W27 (Or.inr sz_b2)
  have V27 : Arv Z h27 b2 k2 (.object "com/example/canny_warden/cannywarden/server/IamError") (14 : Int32) [(.ref w_ACCESS_DENIED), (.ref w_MISSING_AUTHENTICATION_TOKEN), (.ref w_INVALID_CLIENT_TOKEN_ID), (.ref w_SIGNATURE_DOES_NOT_MATCH), (.ref w_INCOMPLETE_SIGNATURE), .null, .null, .null, .null, .null, .null, .null, .null, .null] .null := Arv.set Arq25 caq25 saq25 naq25 haq25 gaq25 rfl W27 4 rfl (Nat.le_of_ble_eq_true rfl)
  have N27 := Fr.snoc X27 N22 g_b2
  show Go p e below _ (T27.setTop (mkF m 35 #[.val (.int p1), .unset, .unset, .unset, .unset, .unset, .unset] [(.ref b2)]))
  refine Go.st (fun _ kk => XS.dup X27.here hx rfl (hb hby at_35) rfl rfl kk) ?_
  show Go p e below _ (T27.setTop (mkF m 36 #[.val (.int p1), .unset, .unset, .unset, .unset, .unset, .unset] [(.ref b2), (.ref b2)]))
  refine Go.st (fun _ kk => XS.iconst X27.here hx rfl (hb hby at_36) kk) ?_
  show Go p e below _ (T27.setTop (mkF m 37 #[.val (.int p1), .unset, .unset, .unset, .unset, .unset, .unset] [(.int (5 : Int32)), (.ref b2), (.ref b2)]))
  have f_28 := (staKeep0 S_REQUEST_EXPIRED K27)
  obtain ⟨T29, X29, e29, st29⟩ := getS2 X27 hx hZ hown (host := "") (Or.inl (hw _ (List.mem_of_getElem? (i := 14) rfl))) Via.refl e27 f_28 (g := (mkF m 37 #[.val (.int p1), .unset, .unset, .unset, .unset, .unset, .unset] [(.int (5 : Int32)), (.ref b2), (.ref b2)])) rfl (hb hby at_37)
  refine Go.st st29 ?_
  show Go p e below _ (T29.setTop (mkF m 40 #[.val (.int p1), .unset, .unset, .unset, .unset, .unset, .unset] [(.ref w_REQUEST_EXPIRED), (.int (5 : Int32)), (.ref b2), (.ref b2)]))
  obtain ⟨clq30, Arq30, caq30, saq30, naq30, haq30, gaq30⟩ := V27
  have inq30 : ¬ ((5 : Int32) < 0 ∨ clq30.slots.size ≤ ((5 : Int32)).toNatClampNeg) := inb_of saq30 ⟨by decide, by decide⟩
  have f_31 := (E_w_REQUEST_EXPIRED.keep K27)
  obtain ⟨T32, h32, X32, e32, W32, st32⟩ := stR X29 hx hZ e29 Arq30 (j := (5 : Int32)) inq30 rfl (Sto.ofV Arq30 caq30 O2 (Ins.self f_31)) (g := (mkF m 40 #[.val (.int p1), .unset, .unset, .unset, .unset, .unset, .unset] [(.ref w_REQUEST_EXPIRED), (.int (5 : Int32)), (.ref b2), (.ref b2)])) rfl rfl (hb hby at_40)
  refine Go.st st32 ?_
  have K32 : Keep h0 h32 [] := K27.wr W32 (Or.inr sz_b2)
  have V32 : Arv Z h32 b2 k2 (.object "com/example/canny_warden/cannywarden/server/IamError") (14 : Int32) [(.ref w_ACCESS_DENIED), (.ref w_MISSING_AUTHENTICATION_TOKEN), (.ref w_INVALID_CLIENT_TOKEN_ID), (.ref w_SIGNATURE_DOES_NOT_MATCH), (.ref w_INCOMPLETE_SIGNATURE), (.ref w_REQUEST_EXPIRED), .null, .null, .null, .null, .null, .null, .null, .null] .null := Arv.set Arq30 caq30 saq30 naq30 haq30 gaq30 rfl W32 5 rfl (Nat.le_of_ble_eq_true rfl)
  have N32 := Fr.snoc X32 N27 g_b2
  show Go p e below _ (T32.setTop (mkF m 41 #[.val (.int p1), .unset, .unset, .unset, .unset, .unset, .unset] [(.ref b2)]))
  refine Go.st (fun _ kk => XS.dup X32.here hx rfl (hb hby at_41) rfl rfl kk) ?_
  show Go p e below _ (T32.setTop (mkF m 42 #[.val (.int p1), .unset, .unset, .unset, .unset, .unset, .unset] [(.ref b2), (.ref b2)]))
  refine Go.st (fun _ kk => XS.bipush X32.here hx rfl (hb hby at_42) kk) ?_
  show Go p e below _ (T32.setTop (mkF m 44 #[.val (.int p1), .unset, .unset, .unset, .unset, .unset, .unset] [(.int (6 : Int32)), (.ref b2), (.ref b2)]))
  have f_33 := (staKeep0 S_MISSING_ACTION K32)
  obtain ⟨T34, X34, e34, st34⟩ := getS2 X32 hx hZ hown (host := "") (Or.inl (hw _ (List.mem_of_getElem? (i := 16) rfl))) Via.refl e32 f_33 (g := (mkF m 44 #[.val (.int p1), .unset, .unset, .unset, .unset, .unset, .unset] [(.int (6 : Int32)), (.ref b2), (.ref b2)])) rfl (hb hby at_44)
  refine Go.st st34 ?_
  show Go p e below _ (T34.setTop (mkF m 47 #[.val (.int p1), .unset, .unset, .unset, .unset, .unset, .unset] [(.ref w_MISSING_ACTION), (.int (6 : Int32)), (.ref b2), (.ref b2)]))
  obtain ⟨clq35, Arq35, caq35, saq35, naq35, haq35, gaq35⟩ := V32
  have inq35 : ¬ ((6 : Int32) < 0 ∨ clq35.slots.size ≤ ((6 : Int32)).toNatClampNeg) := inb_of saq35 ⟨by decide, by decide⟩
  have f_36 := (E_w_MISSING_ACTION.keep K32)
  obtain ⟨T37, h37, X37, e37, W37, st37⟩ := stR X34 hx hZ e34 Arq35 (j := (6 : Int32)) inq35 rfl (Sto.ofV Arq35 caq35 O2 (Ins.self f_36)) (g := (mkF m 47 #[.val (.int p1), .unset, .unset, .unset, .unset, .unset, .unset] [(.ref w_MISSING_ACTION), (.int (6 : Int32)), (.ref b2), (.ref b2)])) rfl rfl (hb hby at_47)
  refine Go.st st37 ?_
  have K37 : Keep h0 h37 [] := K32.wr W37 (Or.inr sz_b2)
  have V37 : Arv Z h37 b2 k2 (.object "com/example/canny_warden/cannywarden/server/IamError") (14 : Int32) [(.ref w_ACCESS_DENIED), (.ref w_MISSING_AUTHENTICATION_TOKEN), (.ref w_INVALID_CLIENT_TOKEN_ID), (.ref w_SIGNATURE_DOES_NOT_MATCH), (.ref w_INCOMPLETE_SIGNATURE), (.ref w_REQUEST_EXPIRED), (.ref w_MISSING_ACTION), .null, .null, .null, .null, .null, .null, .null] .null := Arv.set Arq35 caq35 saq35 naq35 haq35 gaq35 rfl W37 6 rfl (Nat.le_of_ble_eq_true rfl)
  have N37 := Fr.snoc X37 N32 g_b2
  show Go p e below _ (T37.setTop (mkF m 48 #[.val (.int p1), .unset, .unset, .unset, .unset, .unset, .unset] [(.ref b2)]))
  refine Go.st (fun _ kk => XS.dup X37.here hx rfl (hb hby at_48) rfl rfl kk) ?_
  show Go p e below _ (T37.setTop (mkF m 49 #[.val (.int p1), .unset, .unset, .unset, .unset, .unset, .unset] [(.ref b2), (.ref b2)]))
  refine Go.st (fun _ kk => XS.bipush X37.here hx rfl (hb hby at_49) kk) ?_
  show Go p e below _ (T37.setTop (mkF m 51 #[.val (.int p1), .unset, .unset, .unset, .unset, .unset, .unset] [(.int (7 : Int32)), (.ref b2), (.ref b2)]))
  have f_38 := (staKeep0 S_INVALID_ACTION K37)
  obtain ⟨T39, X39, e39, st39⟩ := getS2 X37 hx hZ hown (host := "") (Or.inl (hw _ (List.mem_of_getElem? (i := 18) rfl))) Via.refl e37 f_38 (g := (mkF m 51 #[.val (.int p1), .unset, .unset, .unset, .unset, .unset, .unset] [(.int (7 : Int32)), (.ref b2), (.ref b2)])) rfl (hb hby at_51)
  refine Go.st st39 ?_
  show Go p e below _ (T39.setTop (mkF m 54 #[.val (.int p1), .unset, .unset, .unset, .unset, .unset, .unset] [(.ref w_INVALID_ACTION), (.int (7 : Int32)), (.ref b2), (.ref b2)]))
  obtain ⟨clq40, Arq40, caq40, saq40, naq40, haq40, gaq40⟩ := V37
  have inq40 : ¬ ((7 : Int32) < 0 ∨ clq40.slots.size ≤ ((7 : Int32)).toNatClampNeg) := inb_of saq40 ⟨by decide, by decide⟩
  have f_41 := (E_w_INVALID_ACTION.keep K37)
  obtain ⟨T42, h42, X42, e42, W42, st42⟩ := stR X39 hx hZ e39 Arq40 (j := (7 : Int32)) inq40 rfl (Sto.ofV Arq40 caq40 O2 (Ins.self f_41)) (g := (mkF m 54 #[.val (.int p1), .unset, .unset, .unset, .unset, .unset, .unset] [(.ref w_INVALID_ACTION), (.int (7 : Int32)), (.ref b2), (.ref b2)])) rfl rfl (hb hby at_54)
  refine Go.st st42 ?_
  have K42 : Keep h0 h42 [] := K37.wr W42 (Or.inr sz_b2)
  have V42 : Arv Z h42 b2 k2 (.object "com/example/canny_warden/cannywarden/server/IamError") (14 : Int32) [(.ref w_ACCESS_DENIED), (.ref w_MISSING_AUTHENTICATION_TOKEN), (.ref w_INVALID_CLIENT_TOKEN_ID), (.ref w_SIGNATURE_DOES_NOT_MATCH), (.ref w_INCOMPLETE_SIGNATURE), (.ref w_REQUEST_EXPIRED), (.ref w_MISSING_ACTION), (.ref w_INVALID_ACTION), .null, .null, .null, .null, .null, .null] .null := Arv.set Arq40 caq40 saq40 naq40 haq40 gaq40 rfl W42 7 rfl (Nat.le_of_ble_eq_true rfl)
  have N42 := Fr.snoc X42 N37 g_b2
  show Go p e below _ (T42.setTop (mkF m 55 #[.val (.int p1), .unset, .unset, .unset, .unset, .unset, .unset] [(.ref b2)]))
  refine Go.st (fun _ kk => XS.dup X42.here hx rfl (hb hby at_55) rfl rfl kk) ?_
  show Go p e below _ (T42.setTop (mkF m 56 #[.val (.int p1), .unset, .unset, .unset, .unset, .unset, .unset] [(.ref b2), (.ref b2)]))
  refine Go.st (fun _ kk => XS.bipush X42.here hx rfl (hb hby at_56) kk) ?_
  show Go p e below _ (T42.setTop (mkF m 58 #[.val (.int p1), .unset, .unset, .unset, .unset, .unset, .unset] [(.int (8 : Int32)), (.ref b2), (.ref b2)]))
  have f_43 := (staKeep0 S_VALIDATION_ERROR K42)
  obtain ⟨T44, X44, e44, st44⟩ := getS2 X42 hx hZ hown (host := "") (Or.inl (hw _ (List.mem_of_getElem? (i := 20) rfl))) Via.refl e42 f_43 (g := (mkF m 58 #[.val (.int p1), .unset, .unset, .unset, .unset, .unset, .unset] [(.int (8 : Int32)), (.ref b2), (.ref b2)])) rfl (hb hby at_58)
  refine Go.st st44 ?_
  show Go p e below _ (T44.setTop (mkF m 61 #[.val (.int p1), .unset, .unset, .unset, .unset, .unset, .unset] [(.ref w_VALIDATION_ERROR), (.int (8 : Int32)), (.ref b2), (.ref b2)]))
  obtain ⟨clq45, Arq45, caq45, saq45, naq45, haq45, gaq45⟩ := V42
  have inq45 : ¬ ((8 : Int32) < 0 ∨ clq45.slots.size ≤ ((8 : Int32)).toNatClampNeg) := inb_of saq45 ⟨by decide, by decide⟩
  have f_46 := (E_w_VALIDATION_ERROR.keep K42)
  obtain ⟨T47, h47, X47, e47, W47, st47⟩ := stR X44 hx hZ e44 Arq45 (j := (8 : Int32)) inq45 rfl (Sto.ofV Arq45 caq45 O2 (Ins.self f_46)) (g := (mkF m 61 #[.val (.int p1), .unset, .unset, .unset, .unset, .unset, .unset] [(.ref w_VALIDATION_ERROR), (.int (8 : Int32)), (.ref b2), (.ref b2)])) rfl rfl (hb hby at_61)
  refine Go.st st47 ?_
  have K47 : Keep h0 h47 [] := K42.wr W47 (Or.inr sz_b2)
  have V47 : Arv Z h47 b2 k2 (.object "com/example/canny_warden/cannywarden/server/IamError") (14 : Int32) [(.ref w_ACCESS_DENIED), (.ref w_MISSING_AUTHENTICATION_TOKEN), (.ref w_INVALID_CLIENT_TOKEN_ID), (.ref w_SIGNATURE_DOES_NOT_MATCH), (.ref w_INCOMPLETE_SIGNATURE), (.ref w_REQUEST_EXPIRED), (.ref w_MISSING_ACTION), (.ref w_INVALID_ACTION), (.ref w_VALIDATION_ERROR), .null, .null, .null, .null, .null] .null := Arv.set Arq45 caq45 saq45 naq45 haq45 gaq45 rfl W47 8 rfl (Nat.le_of_ble_eq_true rfl)
  have N47 := Fr.snoc X47 N42 g_b2
  show Go p e below _ (T47.setTop (mkF m 62 #[.val (.int p1), .unset, .unset, .unset, .unset, .unset, .unset] [(.ref b2)]))
  refine Go.st (fun _ kk => XS.dup X47.here hx rfl (hb hby at_62) rfl rfl kk) ?_
  show Go p e below _ (T47.setTop (mkF m 63 #[.val (.int p1), .unset, .unset, .unset, .unset, .unset, .unset] [(.ref b2), (.ref b2)]))
  refine Go.st (fun _ kk => XS.bipush X47.here hx rfl (hb hby at_63) kk) ?_
  show Go p e below _ (T47.setTop (mkF m 65 #[.val (.int p1), .unset, .unset, .unset, .unset, .unset, .unset] [(.int (9 : Int32)), (.ref b2), (.ref b2)]))
  have f_48 := (staKeep0 S_NO_SUCH_ENTITY K47)
  obtain ⟨T49, X49, e49, st49⟩ := getS2 X47 hx hZ hown (host := "") (Or.inl (hw _ (List.mem_of_getElem? (i := 22) rfl))) Via.refl e47 f_48 (g := (mkF m 65 #[.val (.int p1), .unset, .unset, .unset, .unset, .unset, .unset] [(.int (9 : Int32)), (.ref b2), (.ref b2)])) rfl (hb hby at_65)
  refine Go.st st49 ?_
  show Go p e below _ (T49.setTop (mkF m 68 #[.val (.int p1), .unset, .unset, .unset, .unset, .unset, .unset] [(.ref w_NO_SUCH_ENTITY), (.int (9 : Int32)), (.ref b2), (.ref b2)]))
  obtain ⟨clq50, Arq50, caq50, saq50, naq50, haq50, gaq50⟩ := V47
  have inq50 : ¬ ((9 : Int32) < 0 ∨ clq50.slots.size ≤ ((9 : Int32)).toNatClampNeg) := inb_of saq50 ⟨by decide, by decide⟩
  have f_51 := (E_w_NO_SUCH_ENTITY.keep K47)
  obtain ⟨T52, h52, X52, e52, W52, st52⟩ := stR X49 hx hZ e49 Arq50 (j := (9 : Int32)) inq50 rfl (Sto.ofV Arq50 caq50 O2 (Ins.self f_51)) (g := (mkF m 68 #[.val (.int p1), .unset, .unset, .unset, .unset, .unset, .unset] [(.ref w_NO_SUCH_ENTITY), (.int (9 : Int32)), (.ref b2), (.ref b2)])) rfl rfl (hb hby at_68)
  refine Go.st st52 ?_
  have K52 : Keep h0 h52 [] := K47.wr W52 (Or.inr sz_b2)
  have V52 : Arv Z h52 b2 k2 (.object "com/example/canny_warden/cannywarden/server/IamError") (14 : Int32) [(.ref w_ACCESS_DENIED), (.ref w_MISSING_AUTHENTICATION_TOKEN), (.ref w_INVALID_CLIENT_TOKEN_ID), (.ref w_SIGNATURE_DOES_NOT_MATCH), (.ref w_INCOMPLETE_SIGNATURE), (.ref w_REQUEST_EXPIRED), (.ref w_MISSING_ACTION), (.ref w_INVALID_ACTION), (.ref w_VALIDATION_ERROR), (.ref w_NO_SUCH_ENTITY), .null, .null, .null, .null] .null := Arv.set Arq50 caq50 saq50 naq50 haq50 gaq50 rfl W52 9 rfl (Nat.le_of_ble_eq_true rfl)
  have N52 := Fr.snoc X52 N47 g_b2
  show Go p e below _ (T52.setTop (mkF m 69 #[.val (.int p1), .unset, .unset, .unset, .unset, .unset, .unset] [(.ref b2)]))
  refine Go.st (fun _ kk => XS.dup X52.here hx rfl (hb hby at_69) rfl rfl kk) ?_
  show Go p e below _ (T52.setTop (mkF m 70 #[.val (.int p1), .unset, .unset, .unset, .unset, .unset, .unset] [(.ref b2), (.ref b2)]))
  refine Go.st (fun _ kk => XS.bipush X52.here hx rfl (hb hby at_70) kk) ?_
  show Go p e below _ (T52.setTop (mkF m 72 #[.val (.int p1), .unset, .unset, .unset, .unset, .unset, .unset] [(.int (10 : Int32)), (.ref b2), (.ref b2)]))
  have f_53 := (staKeep0 S_ENTITY_ALREADY_EXISTS K52)
  obtain ⟨T54, X54, e54, st54⟩ := getS2 X52 hx hZ hown (host := "") (Or.inl (hw _ (List.mem_of_getElem? (i := 24) rfl))) Via.refl e52 f_53 (g := (mkF m 72 #[.val (.int p1), .unset, .unset, .unset, .unset, .unset, .unset] [(.int (10 : Int32)), (.ref b2), (.ref b2)])) rfl (hb hby at_72)
  refine Go.st st54 ?_
  show Go p e below _ (T54.setTop (mkF m 75 #[.val (.int p1), .unset, .unset, .unset, .unset, .unset, .unset] [(.ref w_ENTITY_ALREADY_EXISTS), (.int (10 : Int32)), (.ref b2), (.ref b2)]))
  obtain ⟨clq55, Arq55, caq55, saq55, naq55, haq55, gaq55⟩ := V52
  have inq55 : ¬ ((10 : Int32) < 0 ∨ clq55.slots.size ≤ ((10 : Int32)).toNatClampNeg) := inb_of saq55 ⟨by decide, by decide⟩
  have f_56 := (E_w_ENTITY_ALREADY_EXISTS.keep K52)
  obtain ⟨T57, h57, X57, e57, W57, st57⟩ := stR X54 hx hZ e54 Arq55 (j := (10 : Int32)) inq55 rfl (Sto.ofV Arq55 caq55 O2 (Ins.self f_56)) (g := (mkF m 75 #[.val (.int p1), .unset, .unset, .unset, .unset, .unset, .unset] [(.ref w_ENTITY_ALREADY_EXISTS), (.int (10 : Int32)), (.ref b2), (.ref b2)])) rfl rfl (hb hby at_75)
  refine Go.st st57 ?_
  have K57 : Keep h0 h57 [] := K52.wr W57 (Or.inr sz_b2)
  have V57 : Arv Z h57 b2 k2 (.object "com/example/canny_warden/cannywarden/server/IamError") (14 : Int32) [(.ref w_ACCESS_DENIED), (.ref w_MISSING_AUTHENTICATION_TOKEN), (.ref w_INVALID_CLIENT_TOKEN_ID), (.ref w_SIGNATURE_DOES_NOT_MATCH), (.ref w_INCOMPLETE_SIGNATURE), (.ref w_REQUEST_EXPIRED), (.ref w_MISSING_ACTION), (.ref w_INVALID_ACTION), (.ref w_VALIDATION_ERROR), (.ref w_NO_SUCH_ENTITY), (.ref w_ENTITY_ALREADY_EXISTS), .null, .null, .null] .null := Arv.set Arq55 caq55 saq55 naq55 haq55 gaq55 rfl W57 10 rfl (Nat.le_of_ble_eq_true rfl)
  have N57 := Fr.snoc X57 N52 g_b2
  show Go p e below _ (T57.setTop (mkF m 76 #[.val (.int p1), .unset, .unset, .unset, .unset, .unset, .unset] [(.ref b2)]))
  refine Go.st (fun _ kk => XS.dup X57.here hx rfl (hb hby at_76) rfl rfl kk) ?_
  show Go p e below _ (T57.setTop (mkF m 77 #[.val (.int p1), .unset, .unset, .unset, .unset, .unset, .unset] [(.ref b2), (.ref b2)]))
  refine Go.st (fun _ kk => XS.bipush X57.here hx rfl (hb hby at_77) kk) ?_
  show Go p e below _ (T57.setTop (mkF m 79 #[.val (.int p1), .unset, .unset, .unset, .unset, .unset, .unset] [(.int (11 : Int32)), (.ref b2), (.ref b2)]))
  have f_58 := (staKeep0 S_DELETE_CONFLICT K57)
  obtain ⟨T59, X59, e59, st59⟩ := getS2 X57 hx hZ hown (host := "") (Or.inl (hw _ (List.mem_of_getElem? (i := 26) rfl))) Via.refl e57 f_58 (g := (mkF m 79 #[.val (.int p1), .unset, .unset, .unset, .unset, .unset, .unset] [(.int (11 : Int32)), (.ref b2), (.ref b2)])) rfl (hb hby at_79)
  refine Go.st st59 ?_
  show Go p e below _ (T59.setTop (mkF m 82 #[.val (.int p1), .unset, .unset, .unset, .unset, .unset, .unset] [(.ref w_DELETE_CONFLICT), (.int (11 : Int32)), (.ref b2), (.ref b2)]))
  obtain ⟨clq60, Arq60, caq60, saq60, naq60, haq60, gaq60⟩ := V57
  have inq60 : ¬ ((11 : Int32) < 0 ∨ clq60.slots.size ≤ ((11 : Int32)).toNatClampNeg) := inb_of saq60 ⟨by decide, by decide⟩
  have f_61 := (E_w_DELETE_CONFLICT.keep K57)
  obtain ⟨T62, h62, X62, e62, W62, st62⟩ := stR X59 hx hZ e59 Arq60 (j := (11 : Int32)) inq60 rfl (Sto.ofV Arq60 caq60 O2 (Ins.self f_61)) (g := (mkF m 82 #[.val (.int p1), .unset, .unset, .unset, .unset, .unset, .unset] [(.ref w_DELETE_CONFLICT), (.int (11 : Int32)), (.ref b2), (.ref b2)])) rfl rfl (hb hby at_82)
  refine Go.st st62 ?_
  have K62 : Keep h0 h62 [] := K57.wr W62 (Or.inr sz_b2)
  have V62 : Arv Z h62 b2 k2 (.object "com/example/canny_warden/cannywarden/server/IamError") (14 : Int32) [(.ref w_ACCESS_DENIED), (.ref w_MISSING_AUTHENTICATION_TOKEN), (.ref w_INVALID_CLIENT_TOKEN_ID), (.ref w_SIGNATURE_DOES_NOT_MATCH), (.ref w_INCOMPLETE_SIGNATURE), (.ref w_REQUEST_EXPIRED), (.ref w_MISSING_ACTION), (.ref w_INVALID_ACTION), (.ref w_VALIDATION_ERROR), (.ref w_NO_SUCH_ENTITY), (.ref w_ENTITY_ALREADY_EXISTS), (.ref w_DELETE_CONFLICT), .null, .null] .null := Arv.set Arq60 caq60 saq60 naq60 haq60 gaq60 rfl W62 11 rfl (Nat.le_of_ble_eq_true rfl)
  have N62 := Fr.snoc X62 N57 g_b2
  show Go p e below _ (T62.setTop (mkF m 83 #[.val (.int p1), .unset, .unset, .unset, .unset, .unset, .unset] [(.ref b2)]))
  refine Go.st (fun _ kk => XS.dup X62.here hx rfl (hb hby at_83) rfl rfl kk) ?_
  show Go p e below _ (T62.setTop (mkF m 84 #[.val (.int p1), .unset, .unset, .unset, .unset, .unset, .unset] [(.ref b2), (.ref b2)]))
  refine Go.st (fun _ kk => XS.bipush X62.here hx rfl (hb hby at_84) kk) ?_
  show Go p e below _ (T62.setTop (mkF m 86 #[.val (.int p1), .unset, .unset, .unset, .unset, .unset, .unset] [(.int (12 : Int32)), (.ref b2), (.ref b2)]))
  have f_63 := (staKeep0 S_LIMIT_EXCEEDED K62)
  obtain ⟨T64, X64, e64, st64⟩ := getS2 X62 hx hZ hown (host := "") (Or.inl (hw _ (List.mem_of_getElem? (i := 28) rfl))) Via.refl e62 f_63 (g := (mkF m 86 #[.val (.int p1), .unset, .unset, .unset, .unset, .unset, .unset] [(.int (12 : Int32)), (.ref b2), (.ref b2)])) rfl (hb hby at_86)
  refine Go.st st64 ?_
  show Go p e below _ (T64.setTop (mkF m 89 #[.val (.int p1), .unset, .unset, .unset, .unset, .unset, .unset] [(.ref w_LIMIT_EXCEEDED), (.int (12 : Int32)), (.ref b2), (.ref b2)]))
  obtain ⟨clq65, Arq65, caq65, saq65, naq65, haq65, gaq65⟩ := V62
  have inq65 : ¬ ((12 : Int32) < 0 ∨ clq65.slots.size ≤ ((12 : Int32)).toNatClampNeg) := inb_of saq65 ⟨by decide, by decide⟩
  have f_66 := (E_w_LIMIT_EXCEEDED.keep K62)
  obtain ⟨T67, h67, X67, e67, W67, st67⟩ := stR X64 hx hZ e64 Arq65 (j := (12 : Int32)) inq65 rfl (Sto.ofV Arq65 caq65 O2 (Ins.self f_66)) (g := (mkF m 89 #[.val (.int p1), .unset, .unset, .unset, .unset, .unset, .unset] [(.ref w_LIMIT_EXCEEDED), (.int (12 : Int32)), (.ref b2), (.ref b2)])) rfl rfl (hb hby at_89)
  refine Go.st st67 ?_
  have K67 : Keep h0 h67 [] := K62.wr W67 (Or.inr sz_b2)
  have V67 : Arv Z h67 b2 k2 (.object "com/example/canny_warden/cannywarden/server/IamError") (14 : Int32) [(.ref w_ACCESS_DENIED), (.ref w_MISSING_AUTHENTICATION_TOKEN), (.ref w_INVALID_CLIENT_TOKEN_ID), (.ref w_SIGNATURE_DOES_NOT_MATCH), (.ref w_INCOMPLETE_SIGNATURE), (.ref w_REQUEST_EXPIRED), (.ref w_MISSING_ACTION), (.ref w_INVALID_ACTION), (.ref w_VALIDATION_ERROR), (.ref w_NO_SUCH_ENTITY), (.ref w_ENTITY_ALREADY_EXISTS), (.ref w_DELETE_CONFLICT), (.ref w_LIMIT_EXCEEDED), .null] .null := Arv.set Arq65 caq65 saq65 naq65 haq65 gaq65 rfl W67 12 rfl (Nat.le_of_ble_eq_true rfl)
  have N67 := Fr.snoc X67 N62 g_b2
  show Go p e below _ (T67.setTop (mkF m 90 #[.val (.int p1), .unset, .unset, .unset, .unset, .unset, .unset] [(.ref b2)]))
  refine Go.st (fun _ kk => XS.dup X67.here hx rfl (hb hby at_90) rfl rfl kk) ?_
  show Go p e below _ (T67.setTop (mkF m 91 #[.val (.int p1), .unset, .unset, .unset, .unset, .unset, .unset] [(.ref b2), (.ref b2)]))
  refine Go.st (fun _ kk => XS.bipush X67.here hx rfl (hb hby at_91) kk) ?_
  show Go p e below _ (T67.setTop (mkF m 93 #[.val (.int p1), .unset, .unset, .unset, .unset, .unset, .unset] [(.int (13 : Int32)), (.ref b2), (.ref b2)]))
  have f_68 := (staKeep0 S_SERVICE_FAILURE K67)
  obtain ⟨T69, X69, e69, st69⟩ := getS2 X67 hx hZ hown (host := "") (Or.inl (hw _ (List.mem_of_getElem? (i := 30) rfl))) Via.refl e67 f_68 (g := (mkF m 93 #[.val (.int p1), .unset, .unset, .unset, .unset, .unset, .unset] [(.int (13 : Int32)), (.ref b2), (.ref b2)])) rfl (hb hby at_93)
  refine Go.st st69 ?_
  show Go p e below _ (T69.setTop (mkF m 96 #[.val (.int p1), .unset, .unset, .unset, .unset, .unset, .unset] [(.ref w_SERVICE_FAILURE), (.int (13 : Int32)), (.ref b2), (.ref b2)]))
  obtain ⟨clq70, Arq70, caq70, saq70, naq70, haq70, gaq70⟩ := V67
  have inq70 : ¬ ((13 : Int32) < 0 ∨ clq70.slots.size ≤ ((13 : Int32)).toNatClampNeg) := inb_of saq70 ⟨by decide, by decide⟩
  have f_71 := (E_w_SERVICE_FAILURE.keep K67)
  obtain ⟨T72, h72, X72, e72, W72, st72⟩ := stR X69 hx hZ e69 Arq70 (j := (13 : Int32)) inq70 rfl (Sto.ofV Arq70 caq70 O2 (Ins.self f_71)) (g := (mkF m 96 #[.val (.int p1), .unset, .unset, .unset, .unset, .unset, .unset] [(.ref w_SERVICE_FAILURE), (.int (13 : Int32)), (.ref b2), (.ref b2)])) rfl rfl (hb hby at_96)
  refine Go.st st72 ?_
  have K72 : Keep h0 h72 [] := K67.wr W72 (Or.inr sz_b2)
  have V72 : Arv Z h72 b2 k2 (.object "com/example/canny_warden/cannywarden/server/IamError") (14 : Int32) [(.ref w_ACCESS_DENIED), (.ref w_MISSING_AUTHENTICATION_TOKEN), (.ref w_INVALID_CLIENT_TOKEN_ID), (.ref w_SIGNATURE_DOES_NOT_MATCH), (.ref w_INCOMPLETE_SIGNATURE), (.ref w_REQUEST_EXPIRED), (.ref w_MISSING_ACTION), (.ref w_INVALID_ACTION), (.ref w_VALIDATION_ERROR), (.ref w_NO_SUCH_ENTITY), (.ref w_ENTITY_ALREADY_EXISTS), (.ref w_DELETE_CONFLICT), (.ref w_LIMIT_EXCEEDED), (.ref w_SERVICE_FAILURE)] .null := Arv.set Arq70 caq70 saq70 naq70 haq70 gaq70 rfl W72 13 rfl (Nat.le_of_ble_eq_true rfl)
  have N72 := Fr.snoc X72 N67 g_b2
  show Go p e below _ (T72.setTop (mkF m 97 #[.val (.int p1), .unset, .unset, .unset, .unset, .unset, .unset] [(.ref b2)]))
  refine Go.st (fun _ kk => XS.astoreN X72.here hx rfl (hb hby at_97) rfl rfl (l' := #[.val (.int p1), .val (.ref b2), .unset, .unset, .unset, .unset, .unset]) rfl kk) ?_
  show Go p e below _ (T72.setTop (mkF m 98 #[.val (.int p1), .val (.ref b2), .unset, .unset, .unset, .unset, .unset] []))
  refine Go.st (fun _ kk => XS.iloadN X72.here hx rfl (hb hby at_98) rfl  kk) ?_
  show Go p e below _ (T72.setTop (mkF m 99 #[.val (.int p1), .val (.ref b2), .unset, .unset, .unset, .unset, .unset] [(.int p1)]))
  refine Go.st (fun _ kk => X72.ldcInt hx hown (mvT hZ (hw _ (List.mem_of_getElem? (i := 32) rfl))) (g := (mkF m 99 #[.val (.int p1), .val (.ref b2), .unset, .unset, .unset, .unset, .unset] [(.int p1)])) rfl (hb hby at_99) _ kk) ?_
  show Go p e below _ (T72.setTop (mkF m 101 #[.val (.int p1), .val (.ref b2), .unset, .unset, .unset, .unset, .unset] [(.int (2147483647 : Int32)), (.int p1)]))
  refine Go.st (fun _ kk => XS.iand X72.here hx rfl (hb hby at_101) rfl kk) ?_
  show Go p e below _ (T72.setTop (mkF m 102 #[.val (.int p1), .val (.ref b2), .unset, .unset, .unset, .unset, .unset] [(.int (p1 &&& (2147483647 : Int32)))]))
  refine Go.st (fun _ kk => XS.bipush X72.here hx rfl (hb hby at_102) kk) ?_
  show Go p e below _ (T72.setTop (mkF m 104 #[.val (.int p1), .val (.ref b2), .unset, .unset, .unset, .unset, .unset] [(.int (14 : Int32)), (.int (p1 &&& (2147483647 : Int32)))]))
  refine Go.st (fun _ kk => iremM (g := (mkF m 104 #[.val (.int p1), .val (.ref b2), .unset, .unset, .unset, .unset, .unset] [(.int (14 : Int32)), (.int (p1 &&& (2147483647 : Int32)))])) X72 hx rfl (hb hby at_104) rfl (by decide : ¬ ((14 : Int32) = (0 : Int32))) kk) ?_
  show Go p e below _ (T72.setTop (mkF m 105 #[.val (.int p1), .val (.ref b2), .unset, .unset, .unset, .unset, .unset] [(.int ((p1 &&& (2147483647 : Int32)) % (14 : Int32)))]))
  rcases (own_k p1 : ((p1 &&& (2147483647 : Int32)) % (14 : Int32)) = (0 : Int32) ∨ ((p1 &&& (2147483647 : Int32)) % (14 : Int32)) = (1 : Int32) ∨ ((p1 &&& (2147483647 : Int32)) % (14 : Int32)) = (2 : Int32) ∨ ((p1 &&& (2147483647 : Int32)) % (14 : Int32)) = (3 : Int32) ∨ ((p1 &&& (2147483647 : Int32)) % (14 : Int32)) = (4 : Int32) ∨ ((p1 &&& (2147483647 : Int32)) % (14 : Int32)) = (5 : Int32) ∨ ((p1 &&& (2147483647 : Int32)) % (14 : Int32)) = (6 : Int32) ∨ ((p1 &&& (2147483647 : Int32)) % (14 : Int32)) = (7 : Int32) ∨ ((p1 &&& (2147483647 : Int32)) % (14 : Int32)) = (8 : Int32) ∨ ((p1 &&& (2147483647 : Int32)) % (14 : Int32)) = (9 : Int32) ∨ ((p1 &&& (2147483647 : Int32)) % (14 : Int32)) = (10 : Int32) ∨ ((p1 &&& (2147483647 : Int32)) % (14 : Int32)) = (11 : Int32) ∨ ((p1 &&& (2147483647 : Int32)) % (14 : Int32)) = (12 : Int32) ∨ ((p1 &&& (2147483647 : Int32)) % (14 : Int32)) = (13 : Int32)) with hk73 | hk74 | hk75 | hk76 | hk77 | hk78 | hk79 | hk80 | hk81 | hk82 | hk83 | hk84 | hk85 | hk86
  · skip
    rw [hk73]
    show Go p e below _ (T72.setTop (mkF m 105 #[.val (.int p1), .val (.ref b2), .unset, .unset, .unset, .unset, .unset] [(.int (0 : Int32))]))
    refine Go.st (fun _ kk => XS.istoreN X72.here hx rfl (hb hby at_105) rfl (l' := #[.val (.int p1), .val (.ref b2), .val (.int (0 : Int32)), .unset, .unset, .unset, .unset]) rfl kk) ?_
    show Go p e below _ (T72.setTop (mkF m 106 #[.val (.int p1), .val (.ref b2), .val (.int (0 : Int32)), .unset, .unset, .unset, .unset] []))
    refine Go.st (fun _ kk => XS.aloadN X72.here hx rfl (hb hby at_106) rfl rfl  kk) ?_
    show Go p e below _ (T72.setTop (mkF m 107 #[.val (.int p1), .val (.ref b2), .val (.int (0 : Int32)), .unset, .unset, .unset, .unset] [(.ref b2)]))
    refine Go.st (fun _ kk => XS.iloadN X72.here hx rfl (hb hby at_107) rfl  kk) ?_
    show Go p e below _ (T72.setTop (mkF m 108 #[.val (.int p1), .val (.ref b2), .val (.int (0 : Int32)), .unset, .unset, .unset, .unset] [(.int (0 : Int32)), (.ref b2)]))
    obtain ⟨clq87, Arq87, caq87, saq87, naq87, haq87, gaq87⟩ := V72
    have inq87 : ¬ ((0 : Int32) < 0 ∨ clq87.slots.size ≤ ((0 : Int32)).toNatClampNeg) := inb_of saq87 ⟨by decide, by decide⟩
    have atq87 : clq87.slots[((0 : Int32)).toNatClampNeg]? = some (.ref w_ACCESS_DENIED) := haq87.at inq87 rfl
    refine Go.st (fun _ kk => X72.aaload hx (j := (0 : Int32)) (v := (.ref w_ACCESS_DENIED)) (by rw [e72]; exact Arq87.1) (State.isArrayOf_alike hZ.alike Arq87.2.1) rfl Arq87.2.2 inq87 atq87 (g := (mkF m 108 #[.val (.int p1), .val (.ref b2), .val (.int (0 : Int32)), .unset, .unset, .unset, .unset] [(.int (0 : Int32)), (.ref b2)])) rfl rfl (hb hby at_108) _ kk) ?_
    show Go p e below _ (T72.setTop (mkF m 109 #[.val (.int p1), .val (.ref b2), .val (.int (0 : Int32)), .unset, .unset, .unset, .unset] [(.ref w_ACCESS_DENIED)]))
    refine Go.st (fun _ kk => XS.astoreN X72.here hx rfl (hb hby at_109) rfl rfl (l' := #[.val (.int p1), .val (.ref b2), .val (.int (0 : Int32)), .val (.ref w_ACCESS_DENIED), .unset, .unset, .unset]) rfl kk) ?_
    show Go p e below _ (T72.setTop (mkF m 110 #[.val (.int p1), .val (.ref b2), .val (.int (0 : Int32)), .val (.ref w_ACCESS_DENIED), .unset, .unset, .unset] []))
    refine Go.st (fun _ kk => XS.iloadN X72.here hx rfl (hb hby at_110) rfl  kk) ?_
    show Go p e below _ (T72.setTop (mkF m 111 #[.val (.int p1), .val (.ref b2), .val (.int (0 : Int32)), .val (.ref w_ACCESS_DENIED), .unset, .unset, .unset] [(.int (0 : Int32))]))
    refine Go.st (fun _ kk => XS.bipush X72.here hx rfl (hb hby at_111) kk) ?_
    show Go p e below _ (T72.setTop (mkF m 113 #[.val (.int p1), .val (.ref b2), .val (.int (0 : Int32)), .val (.ref w_ACCESS_DENIED), .unset, .unset, .unset] [(.int (13 : Int32)), (.int (0 : Int32))]))
    refine Go.st (fun _ kk => XS.icmpNo X72.here hx rfl (hb hby at_113) rfl (feq (by decide : ¬ ((0 : Int32) = (13 : Int32)))).1 kk) ?_
    show Go p e below _ (T72.setTop (mkF m 116 #[.val (.int p1), .val (.ref b2), .val (.int (0 : Int32)), .val (.ref w_ACCESS_DENIED), .unset, .unset, .unset] []))
    refine Go.st (fun _ kk => XS.iconst X72.here hx rfl (hb hby at_116) kk) ?_
    show Go p e below _ (T72.setTop (mkF m 117 #[.val (.int p1), .val (.ref b2), .val (.int (0 : Int32)), .val (.ref w_ACCESS_DENIED), .unset, .unset, .unset] [(.int (1 : Int32))]))
    refine Go.st (fun _ kk => XS.goto X72.here hx rfl (pc0 := 117) (pc' := 121) rfl (hb hby at_117) (by decide) (by decide) kk) ?_
    show Go p e below _ (T72.setTop (mkF m 121 #[.val (.int p1), .val (.ref b2), .val (.int (0 : Int32)), .val (.ref w_ACCESS_DENIED), .unset, .unset, .unset] [(.int (1 : Int32))]))
    refine Go.st (fun _ kk => XS.istore X72.here hx rfl (hb hby at_121) rfl (l' := #[.val (.int p1), .val (.ref b2), .val (.int (0 : Int32)), .val (.ref w_ACCESS_DENIED), .val (.int (1 : Int32)), .unset, .unset]) rfl kk) ?_
    show Go p e below _ (T72.setTop (mkF m 123 #[.val (.int p1), .val (.ref b2), .val (.int (0 : Int32)), .val (.ref w_ACCESS_DENIED), .val (.int (1 : Int32)), .unset, .unset] []))
    refine Go.st (fun _ kk => XS.aloadN X72.here hx rfl (hb hby at_123) rfl rfl  kk) ?_
    show Go p e below _ (T72.setTop (mkF m 124 #[.val (.int p1), .val (.ref b2), .val (.int (0 : Int32)), .val (.ref w_ACCESS_DENIED), .val (.int (1 : Int32)), .unset, .unset] [(.ref w_ACCESS_DENIED)]))
    have f_88 := (Exa.wr W72 (Exa.wr W67 (Exa.wr W62 (Exa.wr W57 (Exa.wr W52 (Exa.wr W47 (Exa.wr W42 (Exa.wr W37 (Exa.wr W32 (Exa.wr W27 (Exa.wr W22 (Exa.wr W17 (Exa.wr W12 (Exa.wr W7 f_6))))))))))))))
    have f_89 := (F_status_w_ACCESS_DENIED.keep K72 nin0)
    obtain ⟨cq90, kq90, q90a, q90b, q90c⟩ := isOf hZ e72 f_88
    obtain ⟨_, _, ⟨T90, L90, k90, n90⟩, -, X90, ⟨Lc90, hQ90, l90, y90, z90⟩, st90⟩ := X72.virtualBack hx (y := (⟨"com/example/canny_warden/cannywarden/server/IamError", "sender", "()Z"⟩ : MethodName)) (z := (⟨"com/example/canny_warden/cannywarden/server/IamError", "sender", "()Z"⟩ : MethodName)) hown (mvT hZ (hw _ (List.mem_of_getElem? (i := 33) rfl))) (mvT hZ (hw _ (List.mem_of_getElem? (i := 34) rfl))) (notFace_of_selects (args := #[]) (mvT hZ (hw _ (List.mem_of_getElem? (i := 36) rfl)))) (mvT hZ (hw _ (List.mem_of_getElem? (i := 36) rfl))) (mvT hZ (hw _ (List.mem_of_getElem? (i := 35) rfl))) (by decide) (backOf (W := 0) (rm1_t l Z a0 hw [] w_ACCESS_DENIED (403 : Int32) h72 n0 (Nat.le_trans Z0 K72.1) f_89 (by decide : ((403 : Int32) < (500 : Int32)))) hZ (hw _ (List.mem_of_getElem? (i := 37) rfl)) (hw _ (List.mem_of_getElem? (i := 3) rfl)) (by decide) (by decide)) q90a q90c (g := (mkF m 124 #[.val (.int p1), .val (.ref b2), .val (.int (0 : Int32)), .val (.ref w_ACCESS_DENIED), .val (.int (1 : Int32)), .unset, .unset] [(.ref w_ACCESS_DENIED)])) rfl (by rw [hml]; rfl) (Steps.refl _) (argsL := []) (rest := []) (lenOf pd_0 rfl) rfl (by show 2 * 0 + _ ≤ _; exact Nat.le_of_eq rfl) (hb hby at_124) (fun _ _ => ⟨rfl, e72, (by decide : 1 + 0 ≤ _), (by decide : 14 + 0 ≤ _)⟩)
    dsimp only [Pt.U, Pt.locs, Pt.cells, Pt.slots] at X90 l90 y90 z90 st90 hQ90
    subst l90 y90 z90
    obtain ⟨rfl, N90q, eq90⟩ := hQ90
    have N90 := Fr.app N72 N90q
    refine Go.tr st90 ?_
    show Go p e below _ (T90.setTop (mkF m 127 #[.val (.int p1), .val (.ref b2), .val (.int (0 : Int32)), .val (.ref w_ACCESS_DENIED), .val (.int (1 : Int32)), .unset, .unset] [(.int (1 : Int32))]))
    refine Go.st (fun _ kk => XS.istore X90.here hx rfl (hb hby at_127) rfl (l' := #[.val (.int p1), .val (.ref b2), .val (.int (0 : Int32)), .val (.ref w_ACCESS_DENIED), .val (.int (1 : Int32)), .val (.int (1 : Int32)), .unset]) rfl kk) ?_
    show Go p e below _ (T90.setTop (mkF m 129 #[.val (.int p1), .val (.ref b2), .val (.int (0 : Int32)), .val (.ref w_ACCESS_DENIED), .val (.int (1 : Int32)), .val (.int (1 : Int32)), .unset] []))
    refine Go.st (fun _ kk => XS.aloadN X90.here hx rfl (hb hby at_129) rfl rfl  kk) ?_
    show Go p e below _ (T90.setTop (mkF m 130 #[.val (.int p1), .val (.ref b2), .val (.int (0 : Int32)), .val (.ref w_ACCESS_DENIED), .val (.int (1 : Int32)), .val (.int (1 : Int32)), .unset] [(.ref w_ACCESS_DENIED)]))
    obtain ⟨cq91, kq91, q91a, q91b, q91c⟩ := isOf hZ eq90 f_88
    obtain ⟨_, _, ⟨T91, L91, k91, n91⟩, -, X91, ⟨Lc91, hQ91, l91, y91, z91⟩, st91⟩ := X90.virtualBack hx (y := (⟨"com/example/canny_warden/cannywarden/server/IamError", "status", "()I"⟩ : MethodName)) (z := (⟨"com/example/canny_warden/cannywarden/server/IamError", "status", "()I"⟩ : MethodName)) hown (mvT hZ (hw _ (List.mem_of_getElem? (i := 40) rfl))) (mvT hZ (hw _ (List.mem_of_getElem? (i := 41) rfl))) (notFace_of_selects (args := #[]) (mvT hZ (hw _ (List.mem_of_getElem? (i := 43) rfl)))) (mvT hZ (hw _ (List.mem_of_getElem? (i := 43) rfl))) (mvT hZ (hw _ (List.mem_of_getElem? (i := 42) rfl))) (by decide) (backOf (W := 0) (rm2_o l Z a0 hw [] w_ACCESS_DENIED (403 : Int32) h72 n0 (Nat.le_trans Z0 K72.1) f_89) hZ (hw _ (List.mem_of_getElem? (i := 44) rfl)) (hw _ (List.mem_of_getElem? (i := 3) rfl)) (by decide) (by decide)) q91a q91c (g := (mkF m 130 #[.val (.int p1), .val (.ref b2), .val (.int (0 : Int32)), .val (.ref w_ACCESS_DENIED), .val (.int (1 : Int32)), .val (.int (1 : Int32)), .unset] [(.ref w_ACCESS_DENIED)])) rfl (by rw [hml]; rfl) (Steps.refl _) (argsL := []) (rest := []) (lenOf pd_1 rfl) rfl (by show 2 * 0 + _ ≤ _; exact Nat.le_of_eq rfl) (hb hby at_130) (fun _ _ => ⟨rfl, eq90, (by decide : 1 + 0 ≤ _), (by decide : 14 + 0 ≤ _)⟩)
    dsimp only [Pt.U, Pt.locs, Pt.cells, Pt.slots] at X91 l91 y91 z91 st91 hQ91
    subst l91 y91 z91
    obtain ⟨rfl, N91q, eq91⟩ := hQ91
    have N91 := Fr.app N90 N91q
    refine Go.tr st91 ?_
    show Go p e below _ (T91.setTop (mkF m 133 #[.val (.int p1), .val (.ref b2), .val (.int (0 : Int32)), .val (.ref w_ACCESS_DENIED), .val (.int (1 : Int32)), .val (.int (1 : Int32)), .unset] [(.int (403 : Int32))]))
    refine Go.st (fun _ kk => XS.istore X91.here hx rfl (hb hby at_133) rfl (l' := #[.val (.int p1), .val (.ref b2), .val (.int (0 : Int32)), .val (.ref w_ACCESS_DENIED), .val (.int (1 : Int32)), .val (.int (1 : Int32)), .val (.int (403 : Int32))]) rfl kk) ?_
    show Go p e below _ (T91.setTop (mkF m 135 #[.val (.int p1), .val (.ref b2), .val (.int (0 : Int32)), .val (.ref w_ACCESS_DENIED), .val (.int (1 : Int32)), .val (.int (1 : Int32)), .val (.int (403 : Int32))] []))
    refine Go.st (fun _ kk => XS.iload X91.here hx rfl (hb hby at_135) rfl  kk) ?_
    show Go p e below _ (T91.setTop (mkF m 137 #[.val (.int p1), .val (.ref b2), .val (.int (0 : Int32)), .val (.ref w_ACCESS_DENIED), .val (.int (1 : Int32)), .val (.int (1 : Int32)), .val (.int (403 : Int32))] [(.int (1 : Int32))]))
    refine Go.st (fun _ kk => XS.iload X91.here hx rfl (hb hby at_137) rfl  kk) ?_
    show Go p e below _ (T91.setTop (mkF m 139 #[.val (.int p1), .val (.ref b2), .val (.int (0 : Int32)), .val (.ref w_ACCESS_DENIED), .val (.int (1 : Int32)), .val (.int (1 : Int32)), .val (.int (403 : Int32))] [(.int (1 : Int32)), (.int (1 : Int32))]))
    refine Go.st (fun _ kk => XS.icmpNo X91.here hx rfl (hb hby at_139) rfl (teq (by decide : ((1 : Int32) = (1 : Int32)))).2 kk) ?_
    show Go p e below _ (T91.setTop (mkF m 142 #[.val (.int p1), .val (.ref b2), .val (.int (0 : Int32)), .val (.ref w_ACCESS_DENIED), .val (.int (1 : Int32)), .val (.int (1 : Int32)), .val (.int (403 : Int32))] []))
    refine Go.st (fun _ kk => XS.iload X91.here hx rfl (hb hby at_142) rfl  kk) ?_
    show Go p e below _ (T91.setTop (mkF m 144 #[.val (.int p1), .val (.ref b2), .val (.int (0 : Int32)), .val (.ref w_ACCESS_DENIED), .val (.int (1 : Int32)), .val (.int (1 : Int32)), .val (.int (403 : Int32))] [(.int (1 : Int32))]))
    refine Go.st (fun _ kk => XS.iload X91.here hx rfl (hb hby at_144) rfl  kk) ?_
    show Go p e below _ (T91.setTop (mkF m 146 #[.val (.int p1), .val (.ref b2), .val (.int (0 : Int32)), .val (.ref w_ACCESS_DENIED), .val (.int (1 : Int32)), .val (.int (1 : Int32)), .val (.int (403 : Int32))] [(.int (403 : Int32)), (.int (1 : Int32))]))
    refine Go.st (fun _ kk => XS.sipush X91.here hx rfl (hb hby at_146) kk) ?_
    show Go p e below _ (T91.setTop (mkF m 149 #[.val (.int p1), .val (.ref b2), .val (.int (0 : Int32)), .val (.ref w_ACCESS_DENIED), .val (.int (1 : Int32)), .val (.int (1 : Int32)), .val (.int (403 : Int32))] [(.int (500 : Int32)), (.int (403 : Int32)), (.int (1 : Int32))]))
    refine Go.st (fun _ kk => XS.icmpNo X91.here hx rfl (hb hby at_149) rfl (tlt (by decide : ((403 : Int32) < (500 : Int32)))).2.1 kk) ?_
    show Go p e below _ (T91.setTop (mkF m 152 #[.val (.int p1), .val (.ref b2), .val (.int (0 : Int32)), .val (.ref w_ACCESS_DENIED), .val (.int (1 : Int32)), .val (.int (1 : Int32)), .val (.int (403 : Int32))] [(.int (1 : Int32))]))
    refine Go.st (fun _ kk => XS.iconst X91.here hx rfl (hb hby at_152) kk) ?_
    show Go p e below _ (T91.setTop (mkF m 153 #[.val (.int p1), .val (.ref b2), .val (.int (0 : Int32)), .val (.ref w_ACCESS_DENIED), .val (.int (1 : Int32)), .val (.int (1 : Int32)), .val (.int (403 : Int32))] [(.int (1 : Int32)), (.int (1 : Int32))]))
    refine Go.st (fun _ kk => XS.goto X91.here hx rfl (pc0 := 153) (pc' := 157) rfl (hb hby at_153) (by decide) (by decide) kk) ?_
    show Go p e below _ (T91.setTop (mkF m 157 #[.val (.int p1), .val (.ref b2), .val (.int (0 : Int32)), .val (.ref w_ACCESS_DENIED), .val (.int (1 : Int32)), .val (.int (1 : Int32)), .val (.int (403 : Int32))] [(.int (1 : Int32)), (.int (1 : Int32))]))
    refine Go.st (fun _ kk => XS.icmpNo X91.here hx rfl (hb hby at_157) rfl (teq (by decide : ((1 : Int32) = (1 : Int32)))).2 kk) ?_
    show Go p e below _ (T91.setTop (mkF m 160 #[.val (.int p1), .val (.ref b2), .val (.int (0 : Int32)), .val (.ref w_ACCESS_DENIED), .val (.int (1 : Int32)), .val (.int (1 : Int32)), .val (.int (403 : Int32))] []))
    refine Go.st (fun _ kk => XS.iconst X91.here hx rfl (hb hby at_160) kk) ?_
    show Go p e below _ (T91.setTop (mkF m 161 #[.val (.int p1), .val (.ref b2), .val (.int (0 : Int32)), .val (.ref w_ACCESS_DENIED), .val (.int (1 : Int32)), .val (.int (1 : Int32)), .val (.int (403 : Int32))] [(.int (1 : Int32))]))
    refine Go.st (fun _ kk => XS.goto X91.here hx rfl (pc0 := 161) (pc' := 165) rfl (hb hby at_161) (by decide) (by decide) kk) ?_
    show Go p e below _ (T91.setTop (mkF m 165 #[.val (.int p1), .val (.ref b2), .val (.int (0 : Int32)), .val (.ref w_ACCESS_DENIED), .val (.int (1 : Int32)), .val (.int (1 : Int32)), .val (.int (403 : Int32))] [(.int (1 : Int32))]))
    exact Go.ret (Q := Q0 n0) X91 (v := some (.int (1 : Int32))) (fun h => by rw [Bd.returns] at h; cases h) Bd.notSynchronized (fun fs hr => retN X91 hx (t := .boolean) Bd.returns (by simp) (hb hby at_165) hr) eq91 ⟨rfl, N91⟩ (by decide) (by decide)
  · skip
    rw [hk74]
    show Go p e below _ (T72.setTop (mkF m 105 #[.val (.int p1), .val (.ref b2), .unset, .unset, .unset, .unset, .unset] [(.int (1 : Int32))]))
    refine Go.st (fun _ kk => XS.istoreN X72.here hx rfl (hb hby at_105) rfl (l' := #[.val (.int p1), .val (.ref b2), .val (.int (1 : Int32)), .unset, .unset, .unset, .unset]) rfl kk) ?_
    show Go p e below _ (T72.setTop (mkF m 106 #[.val (.int p1), .val (.ref b2), .val (.int (1 : Int32)), .unset, .unset, .unset, .unset] []))
    refine Go.st (fun _ kk => XS.aloadN X72.here hx rfl (hb hby at_106) rfl rfl  kk) ?_
    show Go p e below _ (T72.setTop (mkF m 107 #[.val (.int p1), .val (.ref b2), .val (.int (1 : Int32)), .unset, .unset, .unset, .unset] [(.ref b2)]))
    refine Go.st (fun _ kk => XS.iloadN X72.here hx rfl (hb hby at_107) rfl  kk) ?_
    show Go p e below _ (T72.setTop (mkF m 108 #[.val (.int p1), .val (.ref b2), .val (.int (1 : Int32)), .unset, .unset, .unset, .unset] [(.int (1 : Int32)), (.ref b2)]))
    obtain ⟨clq92, Arq92, caq92, saq92, naq92, haq92, gaq92⟩ := V72
    have inq92 : ¬ ((1 : Int32) < 0 ∨ clq92.slots.size ≤ ((1 : Int32)).toNatClampNeg) := inb_of saq92 ⟨by decide, by decide⟩
    have atq92 : clq92.slots[((1 : Int32)).toNatClampNeg]? = some (.ref w_MISSING_AUTHENTICATION_TOKEN) := haq92.at inq92 rfl
    refine Go.st (fun _ kk => X72.aaload hx (j := (1 : Int32)) (v := (.ref w_MISSING_AUTHENTICATION_TOKEN)) (by rw [e72]; exact Arq92.1) (State.isArrayOf_alike hZ.alike Arq92.2.1) rfl Arq92.2.2 inq92 atq92 (g := (mkF m 108 #[.val (.int p1), .val (.ref b2), .val (.int (1 : Int32)), .unset, .unset, .unset, .unset] [(.int (1 : Int32)), (.ref b2)])) rfl rfl (hb hby at_108) _ kk) ?_
    show Go p e below _ (T72.setTop (mkF m 109 #[.val (.int p1), .val (.ref b2), .val (.int (1 : Int32)), .unset, .unset, .unset, .unset] [(.ref w_MISSING_AUTHENTICATION_TOKEN)]))
    refine Go.st (fun _ kk => XS.astoreN X72.here hx rfl (hb hby at_109) rfl rfl (l' := #[.val (.int p1), .val (.ref b2), .val (.int (1 : Int32)), .val (.ref w_MISSING_AUTHENTICATION_TOKEN), .unset, .unset, .unset]) rfl kk) ?_
    show Go p e below _ (T72.setTop (mkF m 110 #[.val (.int p1), .val (.ref b2), .val (.int (1 : Int32)), .val (.ref w_MISSING_AUTHENTICATION_TOKEN), .unset, .unset, .unset] []))
    refine Go.st (fun _ kk => XS.iloadN X72.here hx rfl (hb hby at_110) rfl  kk) ?_
    show Go p e below _ (T72.setTop (mkF m 111 #[.val (.int p1), .val (.ref b2), .val (.int (1 : Int32)), .val (.ref w_MISSING_AUTHENTICATION_TOKEN), .unset, .unset, .unset] [(.int (1 : Int32))]))
    refine Go.st (fun _ kk => XS.bipush X72.here hx rfl (hb hby at_111) kk) ?_
    show Go p e below _ (T72.setTop (mkF m 113 #[.val (.int p1), .val (.ref b2), .val (.int (1 : Int32)), .val (.ref w_MISSING_AUTHENTICATION_TOKEN), .unset, .unset, .unset] [(.int (13 : Int32)), (.int (1 : Int32))]))
    refine Go.st (fun _ kk => XS.icmpNo X72.here hx rfl (hb hby at_113) rfl (feq (by decide : ¬ ((1 : Int32) = (13 : Int32)))).1 kk) ?_
    show Go p e below _ (T72.setTop (mkF m 116 #[.val (.int p1), .val (.ref b2), .val (.int (1 : Int32)), .val (.ref w_MISSING_AUTHENTICATION_TOKEN), .unset, .unset, .unset] []))
    refine Go.st (fun _ kk => XS.iconst X72.here hx rfl (hb hby at_116) kk) ?_
    show Go p e below _ (T72.setTop (mkF m 117 #[.val (.int p1), .val (.ref b2), .val (.int (1 : Int32)), .val (.ref w_MISSING_AUTHENTICATION_TOKEN), .unset, .unset, .unset] [(.int (1 : Int32))]))
    refine Go.st (fun _ kk => XS.goto X72.here hx rfl (pc0 := 117) (pc' := 121) rfl (hb hby at_117) (by decide) (by decide) kk) ?_
    show Go p e below _ (T72.setTop (mkF m 121 #[.val (.int p1), .val (.ref b2), .val (.int (1 : Int32)), .val (.ref w_MISSING_AUTHENTICATION_TOKEN), .unset, .unset, .unset] [(.int (1 : Int32))]))
    refine Go.st (fun _ kk => XS.istore X72.here hx rfl (hb hby at_121) rfl (l' := #[.val (.int p1), .val (.ref b2), .val (.int (1 : Int32)), .val (.ref w_MISSING_AUTHENTICATION_TOKEN), .val (.int (1 : Int32)), .unset, .unset]) rfl kk) ?_
    show Go p e below _ (T72.setTop (mkF m 123 #[.val (.int p1), .val (.ref b2), .val (.int (1 : Int32)), .val (.ref w_MISSING_AUTHENTICATION_TOKEN), .val (.int (1 : Int32)), .unset, .unset] []))
    refine Go.st (fun _ kk => XS.aloadN X72.here hx rfl (hb hby at_123) rfl rfl  kk) ?_
    show Go p e below _ (T72.setTop (mkF m 124 #[.val (.int p1), .val (.ref b2), .val (.int (1 : Int32)), .val (.ref w_MISSING_AUTHENTICATION_TOKEN), .val (.int (1 : Int32)), .unset, .unset] [(.ref w_MISSING_AUTHENTICATION_TOKEN)]))
    have f_93 := (Exa.wr W72 (Exa.wr W67 (Exa.wr W62 (Exa.wr W57 (Exa.wr W52 (Exa.wr W47 (Exa.wr W42 (Exa.wr W37 (Exa.wr W32 (Exa.wr W27 (Exa.wr W22 (Exa.wr W17 (Exa.wr W12 f_11)))))))))))))
    have f_94 := (F_status_w_MISSING_AUTHENTICATION_TOKEN.keep K72 nin0)
    obtain ⟨cq95, kq95, q95a, q95b, q95c⟩ := isOf hZ e72 f_93
    obtain ⟨_, _, ⟨T95, L95, k95, n95⟩, -, X95, ⟨Lc95, hQ95, l95, y95, z95⟩, st95⟩ := X72.virtualBack hx (y := (⟨"com/example/canny_warden/cannywarden/server/IamError", "sender", "()Z"⟩ : MethodName)) (z := (⟨"com/example/canny_warden/cannywarden/server/IamError", "sender", "()Z"⟩ : MethodName)) hown (mvT hZ (hw _ (List.mem_of_getElem? (i := 33) rfl))) (mvT hZ (hw _ (List.mem_of_getElem? (i := 34) rfl))) (notFace_of_selects (args := #[]) (mvT hZ (hw _ (List.mem_of_getElem? (i := 36) rfl)))) (mvT hZ (hw _ (List.mem_of_getElem? (i := 36) rfl))) (mvT hZ (hw _ (List.mem_of_getElem? (i := 35) rfl))) (by decide) (backOf (W := 0) (rm1_t l Z a0 hw [] w_MISSING_AUTHENTICATION_TOKEN (403 : Int32) h72 n0 (Nat.le_trans Z0 K72.1) f_94 (by decide : ((403 : Int32) < (500 : Int32)))) hZ (hw _ (List.mem_of_getElem? (i := 37) rfl)) (hw _ (List.mem_of_getElem? (i := 3) rfl)) (by decide) (by decide)) q95a q95c (g := (mkF m 124 #[.val (.int p1), .val (.ref b2), .val (.int (1 : Int32)), .val (.ref w_MISSING_AUTHENTICATION_TOKEN), .val (.int (1 : Int32)), .unset, .unset] [(.ref w_MISSING_AUTHENTICATION_TOKEN)])) rfl (by rw [hml]; rfl) (Steps.refl _) (argsL := []) (rest := []) (lenOf pd_0 rfl) rfl (by show 2 * 0 + _ ≤ _; exact Nat.le_of_eq rfl) (hb hby at_124) (fun _ _ => ⟨rfl, e72, (by decide : 1 + 0 ≤ _), (by decide : 14 + 0 ≤ _)⟩)
    dsimp only [Pt.U, Pt.locs, Pt.cells, Pt.slots] at X95 l95 y95 z95 st95 hQ95
    subst l95 y95 z95
    obtain ⟨rfl, N95q, eq95⟩ := hQ95
    have N95 := Fr.app N72 N95q
    refine Go.tr st95 ?_
    show Go p e below _ (T95.setTop (mkF m 127 #[.val (.int p1), .val (.ref b2), .val (.int (1 : Int32)), .val (.ref w_MISSING_AUTHENTICATION_TOKEN), .val (.int (1 : Int32)), .unset, .unset] [(.int (1 : Int32))]))
    refine Go.st (fun _ kk => XS.istore X95.here hx rfl (hb hby at_127) rfl (l' := #[.val (.int p1), .val (.ref b2), .val (.int (1 : Int32)), .val (.ref w_MISSING_AUTHENTICATION_TOKEN), .val (.int (1 : Int32)), .val (.int (1 : Int32)), .unset]) rfl kk) ?_
    show Go p e below _ (T95.setTop (mkF m 129 #[.val (.int p1), .val (.ref b2), .val (.int (1 : Int32)), .val (.ref w_MISSING_AUTHENTICATION_TOKEN), .val (.int (1 : Int32)), .val (.int (1 : Int32)), .unset] []))
    refine Go.st (fun _ kk => XS.aloadN X95.here hx rfl (hb hby at_129) rfl rfl  kk) ?_
    show Go p e below _ (T95.setTop (mkF m 130 #[.val (.int p1), .val (.ref b2), .val (.int (1 : Int32)), .val (.ref w_MISSING_AUTHENTICATION_TOKEN), .val (.int (1 : Int32)), .val (.int (1 : Int32)), .unset] [(.ref w_MISSING_AUTHENTICATION_TOKEN)]))
    obtain ⟨cq96, kq96, q96a, q96b, q96c⟩ := isOf hZ eq95 f_93
    obtain ⟨_, _, ⟨T96, L96, k96, n96⟩, -, X96, ⟨Lc96, hQ96, l96, y96, z96⟩, st96⟩ := X95.virtualBack hx (y := (⟨"com/example/canny_warden/cannywarden/server/IamError", "status", "()I"⟩ : MethodName)) (z := (⟨"com/example/canny_warden/cannywarden/server/IamError", "status", "()I"⟩ : MethodName)) hown (mvT hZ (hw _ (List.mem_of_getElem? (i := 40) rfl))) (mvT hZ (hw _ (List.mem_of_getElem? (i := 41) rfl))) (notFace_of_selects (args := #[]) (mvT hZ (hw _ (List.mem_of_getElem? (i := 43) rfl)))) (mvT hZ (hw _ (List.mem_of_getElem? (i := 43) rfl))) (mvT hZ (hw _ (List.mem_of_getElem? (i := 42) rfl))) (by decide) (backOf (W := 0) (rm2_o l Z a0 hw [] w_MISSING_AUTHENTICATION_TOKEN (403 : Int32) h72 n0 (Nat.le_trans Z0 K72.1) f_94) hZ (hw _ (List.mem_of_getElem? (i := 44) rfl)) (hw _ (List.mem_of_getElem? (i := 3) rfl)) (by decide) (by decide)) q96a q96c (g := (mkF m 130 #[.val (.int p1), .val (.ref b2), .val (.int (1 : Int32)), .val (.ref w_MISSING_AUTHENTICATION_TOKEN), .val (.int (1 : Int32)), .val (.int (1 : Int32)), .unset] [(.ref w_MISSING_AUTHENTICATION_TOKEN)])) rfl (by rw [hml]; rfl) (Steps.refl _) (argsL := []) (rest := []) (lenOf pd_1 rfl) rfl (by show 2 * 0 + _ ≤ _; exact Nat.le_of_eq rfl) (hb hby at_130) (fun _ _ => ⟨rfl, eq95, (by decide : 1 + 0 ≤ _), (by decide : 14 + 0 ≤ _)⟩)
    dsimp only [Pt.U, Pt.locs, Pt.cells, Pt.slots] at X96 l96 y96 z96 st96 hQ96
    subst l96 y96 z96
    obtain ⟨rfl, N96q, eq96⟩ := hQ96
    have N96 := Fr.app N95 N96q
    refine Go.tr st96 ?_
    show Go p e below _ (T96.setTop (mkF m 133 #[.val (.int p1), .val (.ref b2), .val (.int (1 : Int32)), .val (.ref w_MISSING_AUTHENTICATION_TOKEN), .val (.int (1 : Int32)), .val (.int (1 : Int32)), .unset] [(.int (403 : Int32))]))
    refine Go.st (fun _ kk => XS.istore X96.here hx rfl (hb hby at_133) rfl (l' := #[.val (.int p1), .val (.ref b2), .val (.int (1 : Int32)), .val (.ref w_MISSING_AUTHENTICATION_TOKEN), .val (.int (1 : Int32)), .val (.int (1 : Int32)), .val (.int (403 : Int32))]) rfl kk) ?_
    show Go p e below _ (T96.setTop (mkF m 135 #[.val (.int p1), .val (.ref b2), .val (.int (1 : Int32)), .val (.ref w_MISSING_AUTHENTICATION_TOKEN), .val (.int (1 : Int32)), .val (.int (1 : Int32)), .val (.int (403 : Int32))] []))
    refine Go.st (fun _ kk => XS.iload X96.here hx rfl (hb hby at_135) rfl  kk) ?_
    show Go p e below _ (T96.setTop (mkF m 137 #[.val (.int p1), .val (.ref b2), .val (.int (1 : Int32)), .val (.ref w_MISSING_AUTHENTICATION_TOKEN), .val (.int (1 : Int32)), .val (.int (1 : Int32)), .val (.int (403 : Int32))] [(.int (1 : Int32))]))
    refine Go.st (fun _ kk => XS.iload X96.here hx rfl (hb hby at_137) rfl  kk) ?_
    show Go p e below _ (T96.setTop (mkF m 139 #[.val (.int p1), .val (.ref b2), .val (.int (1 : Int32)), .val (.ref w_MISSING_AUTHENTICATION_TOKEN), .val (.int (1 : Int32)), .val (.int (1 : Int32)), .val (.int (403 : Int32))] [(.int (1 : Int32)), (.int (1 : Int32))]))
    refine Go.st (fun _ kk => XS.icmpNo X96.here hx rfl (hb hby at_139) rfl (teq (by decide : ((1 : Int32) = (1 : Int32)))).2 kk) ?_
    show Go p e below _ (T96.setTop (mkF m 142 #[.val (.int p1), .val (.ref b2), .val (.int (1 : Int32)), .val (.ref w_MISSING_AUTHENTICATION_TOKEN), .val (.int (1 : Int32)), .val (.int (1 : Int32)), .val (.int (403 : Int32))] []))
    refine Go.st (fun _ kk => XS.iload X96.here hx rfl (hb hby at_142) rfl  kk) ?_
    show Go p e below _ (T96.setTop (mkF m 144 #[.val (.int p1), .val (.ref b2), .val (.int (1 : Int32)), .val (.ref w_MISSING_AUTHENTICATION_TOKEN), .val (.int (1 : Int32)), .val (.int (1 : Int32)), .val (.int (403 : Int32))] [(.int (1 : Int32))]))
    refine Go.st (fun _ kk => XS.iload X96.here hx rfl (hb hby at_144) rfl  kk) ?_
    show Go p e below _ (T96.setTop (mkF m 146 #[.val (.int p1), .val (.ref b2), .val (.int (1 : Int32)), .val (.ref w_MISSING_AUTHENTICATION_TOKEN), .val (.int (1 : Int32)), .val (.int (1 : Int32)), .val (.int (403 : Int32))] [(.int (403 : Int32)), (.int (1 : Int32))]))
    refine Go.st (fun _ kk => XS.sipush X96.here hx rfl (hb hby at_146) kk) ?_
    show Go p e below _ (T96.setTop (mkF m 149 #[.val (.int p1), .val (.ref b2), .val (.int (1 : Int32)), .val (.ref w_MISSING_AUTHENTICATION_TOKEN), .val (.int (1 : Int32)), .val (.int (1 : Int32)), .val (.int (403 : Int32))] [(.int (500 : Int32)), (.int (403 : Int32)), (.int (1 : Int32))]))
    refine Go.st (fun _ kk => XS.icmpNo X96.here hx rfl (hb hby at_149) rfl (tlt (by decide : ((403 : Int32) < (500 : Int32)))).2.1 kk) ?_
    show Go p e below _ (T96.setTop (mkF m 152 #[.val (.int p1), .val (.ref b2), .val (.int (1 : Int32)), .val (.ref w_MISSING_AUTHENTICATION_TOKEN), .val (.int (1 : Int32)), .val (.int (1 : Int32)), .val (.int (403 : Int32))] [(.int (1 : Int32))]))
    refine Go.st (fun _ kk => XS.iconst X96.here hx rfl (hb hby at_152) kk) ?_
    show Go p e below _ (T96.setTop (mkF m 153 #[.val (.int p1), .val (.ref b2), .val (.int (1 : Int32)), .val (.ref w_MISSING_AUTHENTICATION_TOKEN), .val (.int (1 : Int32)), .val (.int (1 : Int32)), .val (.int (403 : Int32))] [(.int (1 : Int32)), (.int (1 : Int32))]))
    refine Go.st (fun _ kk => XS.goto X96.here hx rfl (pc0 := 153) (pc' := 157) rfl (hb hby at_153) (by decide) (by decide) kk) ?_
    show Go p e below _ (T96.setTop (mkF m 157 #[.val (.int p1), .val (.ref b2), .val (.int (1 : Int32)), .val (.ref w_MISSING_AUTHENTICATION_TOKEN), .val (.int (1 : Int32)), .val (.int (1 : Int32)), .val (.int (403 : Int32))] [(.int (1 : Int32)), (.int (1 : Int32))]))
    refine Go.st (fun _ kk => XS.icmpNo X96.here hx rfl (hb hby at_157) rfl (teq (by decide : ((1 : Int32) = (1 : Int32)))).2 kk) ?_
    show Go p e below _ (T96.setTop (mkF m 160 #[.val (.int p1), .val (.ref b2), .val (.int (1 : Int32)), .val (.ref w_MISSING_AUTHENTICATION_TOKEN), .val (.int (1 : Int32)), .val (.int (1 : Int32)), .val (.int (403 : Int32))] []))
    refine Go.st (fun _ kk => XS.iconst X96.here hx rfl (hb hby at_160) kk) ?_
    show Go p e below _ (T96.setTop (mkF m 161 #[.val (.int p1), .val (.ref b2), .val (.int (1 : Int32)), .val (.ref w_MISSING_AUTHENTICATION_TOKEN), .val (.int (1 : Int32)), .val (.int (1 : Int32)), .val (.int (403 : Int32))] [(.int (1 : Int32))]))
    refine Go.st (fun _ kk => XS.goto X96.here hx rfl (pc0 := 161) (pc' := 165) rfl (hb hby at_161) (by decide) (by decide) kk) ?_
    show Go p e below _ (T96.setTop (mkF m 165 #[.val (.int p1), .val (.ref b2), .val (.int (1 : Int32)), .val (.ref w_MISSING_AUTHENTICATION_TOKEN), .val (.int (1 : Int32)), .val (.int (1 : Int32)), .val (.int (403 : Int32))] [(.int (1 : Int32))]))
    exact Go.ret (Q := Q0 n0) X96 (v := some (.int (1 : Int32))) (fun h => by rw [Bd.returns] at h; cases h) Bd.notSynchronized (fun fs hr => retN X96 hx (t := .boolean) Bd.returns (by simp) (hb hby at_165) hr) eq96 ⟨rfl, N96⟩ (by decide) (by decide)
  · skip
    rw [hk75]
    show Go p e below _ (T72.setTop (mkF m 105 #[.val (.int p1), .val (.ref b2), .unset, .unset, .unset, .unset, .unset] [(.int (2 : Int32))]))
    refine Go.st (fun _ kk => XS.istoreN X72.here hx rfl (hb hby at_105) rfl (l' := #[.val (.int p1), .val (.ref b2), .val (.int (2 : Int32)), .unset, .unset, .unset, .unset]) rfl kk) ?_
    show Go p e below _ (T72.setTop (mkF m 106 #[.val (.int p1), .val (.ref b2), .val (.int (2 : Int32)), .unset, .unset, .unset, .unset] []))
    refine Go.st (fun _ kk => XS.aloadN X72.here hx rfl (hb hby at_106) rfl rfl  kk) ?_
    show Go p e below _ (T72.setTop (mkF m 107 #[.val (.int p1), .val (.ref b2), .val (.int (2 : Int32)), .unset, .unset, .unset, .unset] [(.ref b2)]))
    refine Go.st (fun _ kk => XS.iloadN X72.here hx rfl (hb hby at_107) rfl  kk) ?_
    show Go p e below _ (T72.setTop (mkF m 108 #[.val (.int p1), .val (.ref b2), .val (.int (2 : Int32)), .unset, .unset, .unset, .unset] [(.int (2 : Int32)), (.ref b2)]))
    obtain ⟨clq97, Arq97, caq97, saq97, naq97, haq97, gaq97⟩ := V72
    have inq97 : ¬ ((2 : Int32) < 0 ∨ clq97.slots.size ≤ ((2 : Int32)).toNatClampNeg) := inb_of saq97 ⟨by decide, by decide⟩
    have atq97 : clq97.slots[((2 : Int32)).toNatClampNeg]? = some (.ref w_INVALID_CLIENT_TOKEN_ID) := haq97.at inq97 rfl
    refine Go.st (fun _ kk => X72.aaload hx (j := (2 : Int32)) (v := (.ref w_INVALID_CLIENT_TOKEN_ID)) (by rw [e72]; exact Arq97.1) (State.isArrayOf_alike hZ.alike Arq97.2.1) rfl Arq97.2.2 inq97 atq97 (g := (mkF m 108 #[.val (.int p1), .val (.ref b2), .val (.int (2 : Int32)), .unset, .unset, .unset, .unset] [(.int (2 : Int32)), (.ref b2)])) rfl rfl (hb hby at_108) _ kk) ?_
    show Go p e below _ (T72.setTop (mkF m 109 #[.val (.int p1), .val (.ref b2), .val (.int (2 : Int32)), .unset, .unset, .unset, .unset] [(.ref w_INVALID_CLIENT_TOKEN_ID)]))
    refine Go.st (fun _ kk => XS.astoreN X72.here hx rfl (hb hby at_109) rfl rfl (l' := #[.val (.int p1), .val (.ref b2), .val (.int (2 : Int32)), .val (.ref w_INVALID_CLIENT_TOKEN_ID), .unset, .unset, .unset]) rfl kk) ?_
    show Go p e below _ (T72.setTop (mkF m 110 #[.val (.int p1), .val (.ref b2), .val (.int (2 : Int32)), .val (.ref w_INVALID_CLIENT_TOKEN_ID), .unset, .unset, .unset] []))
    refine Go.st (fun _ kk => XS.iloadN X72.here hx rfl (hb hby at_110) rfl  kk) ?_
    show Go p e below _ (T72.setTop (mkF m 111 #[.val (.int p1), .val (.ref b2), .val (.int (2 : Int32)), .val (.ref w_INVALID_CLIENT_TOKEN_ID), .unset, .unset, .unset] [(.int (2 : Int32))]))
    refine Go.st (fun _ kk => XS.bipush X72.here hx rfl (hb hby at_111) kk) ?_
    show Go p e below _ (T72.setTop (mkF m 113 #[.val (.int p1), .val (.ref b2), .val (.int (2 : Int32)), .val (.ref w_INVALID_CLIENT_TOKEN_ID), .unset, .unset, .unset] [(.int (13 : Int32)), (.int (2 : Int32))]))
    refine Go.st (fun _ kk => XS.icmpNo X72.here hx rfl (hb hby at_113) rfl (feq (by decide : ¬ ((2 : Int32) = (13 : Int32)))).1 kk) ?_
    show Go p e below _ (T72.setTop (mkF m 116 #[.val (.int p1), .val (.ref b2), .val (.int (2 : Int32)), .val (.ref w_INVALID_CLIENT_TOKEN_ID), .unset, .unset, .unset] []))
    refine Go.st (fun _ kk => XS.iconst X72.here hx rfl (hb hby at_116) kk) ?_
    show Go p e below _ (T72.setTop (mkF m 117 #[.val (.int p1), .val (.ref b2), .val (.int (2 : Int32)), .val (.ref w_INVALID_CLIENT_TOKEN_ID), .unset, .unset, .unset] [(.int (1 : Int32))]))
    refine Go.st (fun _ kk => XS.goto X72.here hx rfl (pc0 := 117) (pc' := 121) rfl (hb hby at_117) (by decide) (by decide) kk) ?_
    show Go p e below _ (T72.setTop (mkF m 121 #[.val (.int p1), .val (.ref b2), .val (.int (2 : Int32)), .val (.ref w_INVALID_CLIENT_TOKEN_ID), .unset, .unset, .unset] [(.int (1 : Int32))]))
    refine Go.st (fun _ kk => XS.istore X72.here hx rfl (hb hby at_121) rfl (l' := #[.val (.int p1), .val (.ref b2), .val (.int (2 : Int32)), .val (.ref w_INVALID_CLIENT_TOKEN_ID), .val (.int (1 : Int32)), .unset, .unset]) rfl kk) ?_
    show Go p e below _ (T72.setTop (mkF m 123 #[.val (.int p1), .val (.ref b2), .val (.int (2 : Int32)), .val (.ref w_INVALID_CLIENT_TOKEN_ID), .val (.int (1 : Int32)), .unset, .unset] []))
    refine Go.st (fun _ kk => XS.aloadN X72.here hx rfl (hb hby at_123) rfl rfl  kk) ?_
    show Go p e below _ (T72.setTop (mkF m 124 #[.val (.int p1), .val (.ref b2), .val (.int (2 : Int32)), .val (.ref w_INVALID_CLIENT_TOKEN_ID), .val (.int (1 : Int32)), .unset, .unset] [(.ref w_INVALID_CLIENT_TOKEN_ID)]))
    have f_98 := (Exa.wr W72 (Exa.wr W67 (Exa.wr W62 (Exa.wr W57 (Exa.wr W52 (Exa.wr W47 (Exa.wr W42 (Exa.wr W37 (Exa.wr W32 (Exa.wr W27 (Exa.wr W22 (Exa.wr W17 f_16))))))))))))
    have f_99 := (F_status_w_INVALID_CLIENT_TOKEN_ID.keep K72 nin0)
    obtain ⟨cq100, kq100, q100a, q100b, q100c⟩ := isOf hZ e72 f_98
    obtain ⟨_, _, ⟨T100, L100, k100, n100⟩, -, X100, ⟨Lc100, hQ100, l100, y100, z100⟩, st100⟩ := X72.virtualBack hx (y := (⟨"com/example/canny_warden/cannywarden/server/IamError", "sender", "()Z"⟩ : MethodName)) (z := (⟨"com/example/canny_warden/cannywarden/server/IamError", "sender", "()Z"⟩ : MethodName)) hown (mvT hZ (hw _ (List.mem_of_getElem? (i := 33) rfl))) (mvT hZ (hw _ (List.mem_of_getElem? (i := 34) rfl))) (notFace_of_selects (args := #[]) (mvT hZ (hw _ (List.mem_of_getElem? (i := 36) rfl)))) (mvT hZ (hw _ (List.mem_of_getElem? (i := 36) rfl))) (mvT hZ (hw _ (List.mem_of_getElem? (i := 35) rfl))) (by decide) (backOf (W := 0) (rm1_t l Z a0 hw [] w_INVALID_CLIENT_TOKEN_ID (403 : Int32) h72 n0 (Nat.le_trans Z0 K72.1) f_99 (by decide : ((403 : Int32) < (500 : Int32)))) hZ (hw _ (List.mem_of_getElem? (i := 37) rfl)) (hw _ (List.mem_of_getElem? (i := 3) rfl)) (by decide) (by decide)) q100a q100c (g := (mkF m 124 #[.val (.int p1), .val (.ref b2), .val (.int (2 : Int32)), .val (.ref w_INVALID_CLIENT_TOKEN_ID), .val (.int (1 : Int32)), .unset, .unset] [(.ref w_INVALID_CLIENT_TOKEN_ID)])) rfl (by rw [hml]; rfl) (Steps.refl _) (argsL := []) (rest := []) (lenOf pd_0 rfl) rfl (by show 2 * 0 + _ ≤ _; exact Nat.le_of_eq rfl) (hb hby at_124) (fun _ _ => ⟨rfl, e72, (by decide : 1 + 0 ≤ _), (by decide : 14 + 0 ≤ _)⟩)
    dsimp only [Pt.U, Pt.locs, Pt.cells, Pt.slots] at X100 l100 y100 z100 st100 hQ100
    subst l100 y100 z100
    obtain ⟨rfl, N100q, eq100⟩ := hQ100
    have N100 := Fr.app N72 N100q
    refine Go.tr st100 ?_
    show Go p e below _ (T100.setTop (mkF m 127 #[.val (.int p1), .val (.ref b2), .val (.int (2 : Int32)), .val (.ref w_INVALID_CLIENT_TOKEN_ID), .val (.int (1 : Int32)), .unset, .unset] [(.int (1 : Int32))]))
    refine Go.st (fun _ kk => XS.istore X100.here hx rfl (hb hby at_127) rfl (l' := #[.val (.int p1), .val (.ref b2), .val (.int (2 : Int32)), .val (.ref w_INVALID_CLIENT_TOKEN_ID), .val (.int (1 : Int32)), .val (.int (1 : Int32)), .unset]) rfl kk) ?_
    show Go p e below _ (T100.setTop (mkF m 129 #[.val (.int p1), .val (.ref b2), .val (.int (2 : Int32)), .val (.ref w_INVALID_CLIENT_TOKEN_ID), .val (.int (1 : Int32)), .val (.int (1 : Int32)), .unset] []))
    refine Go.st (fun _ kk => XS.aloadN X100.here hx rfl (hb hby at_129) rfl rfl  kk) ?_
    show Go p e below _ (T100.setTop (mkF m 130 #[.val (.int p1), .val (.ref b2), .val (.int (2 : Int32)), .val (.ref w_INVALID_CLIENT_TOKEN_ID), .val (.int (1 : Int32)), .val (.int (1 : Int32)), .unset] [(.ref w_INVALID_CLIENT_TOKEN_ID)]))
    obtain ⟨cq101, kq101, q101a, q101b, q101c⟩ := isOf hZ eq100 f_98
    obtain ⟨_, _, ⟨T101, L101, k101, n101⟩, -, X101, ⟨Lc101, hQ101, l101, y101, z101⟩, st101⟩ := X100.virtualBack hx (y := (⟨"com/example/canny_warden/cannywarden/server/IamError", "status", "()I"⟩ : MethodName)) (z := (⟨"com/example/canny_warden/cannywarden/server/IamError", "status", "()I"⟩ : MethodName)) hown (mvT hZ (hw _ (List.mem_of_getElem? (i := 40) rfl))) (mvT hZ (hw _ (List.mem_of_getElem? (i := 41) rfl))) (notFace_of_selects (args := #[]) (mvT hZ (hw _ (List.mem_of_getElem? (i := 43) rfl)))) (mvT hZ (hw _ (List.mem_of_getElem? (i := 43) rfl))) (mvT hZ (hw _ (List.mem_of_getElem? (i := 42) rfl))) (by decide) (backOf (W := 0) (rm2_o l Z a0 hw [] w_INVALID_CLIENT_TOKEN_ID (403 : Int32) h72 n0 (Nat.le_trans Z0 K72.1) f_99) hZ (hw _ (List.mem_of_getElem? (i := 44) rfl)) (hw _ (List.mem_of_getElem? (i := 3) rfl)) (by decide) (by decide)) q101a q101c (g := (mkF m 130 #[.val (.int p1), .val (.ref b2), .val (.int (2 : Int32)), .val (.ref w_INVALID_CLIENT_TOKEN_ID), .val (.int (1 : Int32)), .val (.int (1 : Int32)), .unset] [(.ref w_INVALID_CLIENT_TOKEN_ID)])) rfl (by rw [hml]; rfl) (Steps.refl _) (argsL := []) (rest := []) (lenOf pd_1 rfl) rfl (by show 2 * 0 + _ ≤ _; exact Nat.le_of_eq rfl) (hb hby at_130) (fun _ _ => ⟨rfl, eq100, (by decide : 1 + 0 ≤ _), (by decide : 14 + 0 ≤ _)⟩)
    dsimp only [Pt.U, Pt.locs, Pt.cells, Pt.slots] at X101 l101 y101 z101 st101 hQ101
    subst l101 y101 z101
    obtain ⟨rfl, N101q, eq101⟩ := hQ101
    have N101 := Fr.app N100 N101q
    refine Go.tr st101 ?_
    show Go p e below _ (T101.setTop (mkF m 133 #[.val (.int p1), .val (.ref b2), .val (.int (2 : Int32)), .val (.ref w_INVALID_CLIENT_TOKEN_ID), .val (.int (1 : Int32)), .val (.int (1 : Int32)), .unset] [(.int (403 : Int32))]))
    refine Go.st (fun _ kk => XS.istore X101.here hx rfl (hb hby at_133) rfl (l' := #[.val (.int p1), .val (.ref b2), .val (.int (2 : Int32)), .val (.ref w_INVALID_CLIENT_TOKEN_ID), .val (.int (1 : Int32)), .val (.int (1 : Int32)), .val (.int (403 : Int32))]) rfl kk) ?_
    show Go p e below _ (T101.setTop (mkF m 135 #[.val (.int p1), .val (.ref b2), .val (.int (2 : Int32)), .val (.ref w_INVALID_CLIENT_TOKEN_ID), .val (.int (1 : Int32)), .val (.int (1 : Int32)), .val (.int (403 : Int32))] []))
    refine Go.st (fun _ kk => XS.iload X101.here hx rfl (hb hby at_135) rfl  kk) ?_
    show Go p e below _ (T101.setTop (mkF m 137 #[.val (.int p1), .val (.ref b2), .val (.int (2 : Int32)), .val (.ref w_INVALID_CLIENT_TOKEN_ID), .val (.int (1 : Int32)), .val (.int (1 : Int32)), .val (.int (403 : Int32))] [(.int (1 : Int32))]))
    refine Go.st (fun _ kk => XS.iload X101.here hx rfl (hb hby at_137) rfl  kk) ?_
    show Go p e below _ (T101.setTop (mkF m 139 #[.val (.int p1), .val (.ref b2), .val (.int (2 : Int32)), .val (.ref w_INVALID_CLIENT_TOKEN_ID), .val (.int (1 : Int32)), .val (.int (1 : Int32)), .val (.int (403 : Int32))] [(.int (1 : Int32)), (.int (1 : Int32))]))
    refine Go.st (fun _ kk => XS.icmpNo X101.here hx rfl (hb hby at_139) rfl (teq (by decide : ((1 : Int32) = (1 : Int32)))).2 kk) ?_
    show Go p e below _ (T101.setTop (mkF m 142 #[.val (.int p1), .val (.ref b2), .val (.int (2 : Int32)), .val (.ref w_INVALID_CLIENT_TOKEN_ID), .val (.int (1 : Int32)), .val (.int (1 : Int32)), .val (.int (403 : Int32))] []))
    refine Go.st (fun _ kk => XS.iload X101.here hx rfl (hb hby at_142) rfl  kk) ?_
    show Go p e below _ (T101.setTop (mkF m 144 #[.val (.int p1), .val (.ref b2), .val (.int (2 : Int32)), .val (.ref w_INVALID_CLIENT_TOKEN_ID), .val (.int (1 : Int32)), .val (.int (1 : Int32)), .val (.int (403 : Int32))] [(.int (1 : Int32))]))
    refine Go.st (fun _ kk => XS.iload X101.here hx rfl (hb hby at_144) rfl  kk) ?_
    show Go p e below _ (T101.setTop (mkF m 146 #[.val (.int p1), .val (.ref b2), .val (.int (2 : Int32)), .val (.ref w_INVALID_CLIENT_TOKEN_ID), .val (.int (1 : Int32)), .val (.int (1 : Int32)), .val (.int (403 : Int32))] [(.int (403 : Int32)), (.int (1 : Int32))]))
    refine Go.st (fun _ kk => XS.sipush X101.here hx rfl (hb hby at_146) kk) ?_
    show Go p e below _ (T101.setTop (mkF m 149 #[.val (.int p1), .val (.ref b2), .val (.int (2 : Int32)), .val (.ref w_INVALID_CLIENT_TOKEN_ID), .val (.int (1 : Int32)), .val (.int (1 : Int32)), .val (.int (403 : Int32))] [(.int (500 : Int32)), (.int (403 : Int32)), (.int (1 : Int32))]))
    refine Go.st (fun _ kk => XS.icmpNo X101.here hx rfl (hb hby at_149) rfl (tlt (by decide : ((403 : Int32) < (500 : Int32)))).2.1 kk) ?_
    show Go p e below _ (T101.setTop (mkF m 152 #[.val (.int p1), .val (.ref b2), .val (.int (2 : Int32)), .val (.ref w_INVALID_CLIENT_TOKEN_ID), .val (.int (1 : Int32)), .val (.int (1 : Int32)), .val (.int (403 : Int32))] [(.int (1 : Int32))]))
    refine Go.st (fun _ kk => XS.iconst X101.here hx rfl (hb hby at_152) kk) ?_
    show Go p e below _ (T101.setTop (mkF m 153 #[.val (.int p1), .val (.ref b2), .val (.int (2 : Int32)), .val (.ref w_INVALID_CLIENT_TOKEN_ID), .val (.int (1 : Int32)), .val (.int (1 : Int32)), .val (.int (403 : Int32))] [(.int (1 : Int32)), (.int (1 : Int32))]))
    refine Go.st (fun _ kk => XS.goto X101.here hx rfl (pc0 := 153) (pc' := 157) rfl (hb hby at_153) (by decide) (by decide) kk) ?_
    show Go p e below _ (T101.setTop (mkF m 157 #[.val (.int p1), .val (.ref b2), .val (.int (2 : Int32)), .val (.ref w_INVALID_CLIENT_TOKEN_ID), .val (.int (1 : Int32)), .val (.int (1 : Int32)), .val (.int (403 : Int32))] [(.int (1 : Int32)), (.int (1 : Int32))]))
    refine Go.st (fun _ kk => XS.icmpNo X101.here hx rfl (hb hby at_157) rfl (teq (by decide : ((1 : Int32) = (1 : Int32)))).2 kk) ?_
    show Go p e below _ (T101.setTop (mkF m 160 #[.val (.int p1), .val (.ref b2), .val (.int (2 : Int32)), .val (.ref w_INVALID_CLIENT_TOKEN_ID), .val (.int (1 : Int32)), .val (.int (1 : Int32)), .val (.int (403 : Int32))] []))
    refine Go.st (fun _ kk => XS.iconst X101.here hx rfl (hb hby at_160) kk) ?_
    show Go p e below _ (T101.setTop (mkF m 161 #[.val (.int p1), .val (.ref b2), .val (.int (2 : Int32)), .val (.ref w_INVALID_CLIENT_TOKEN_ID), .val (.int (1 : Int32)), .val (.int (1 : Int32)), .val (.int (403 : Int32))] [(.int (1 : Int32))]))
    refine Go.st (fun _ kk => XS.goto X101.here hx rfl (pc0 := 161) (pc' := 165) rfl (hb hby at_161) (by decide) (by decide) kk) ?_
    show Go p e below _ (T101.setTop (mkF m 165 #[.val (.int p1), .val (.ref b2), .val (.int (2 : Int32)), .val (.ref w_INVALID_CLIENT_TOKEN_ID), .val (.int (1 : Int32)), .val (.int (1 : Int32)), .val (.int (403 : Int32))] [(.int (1 : Int32))]))
    exact Go.ret (Q := Q0 n0) X101 (v := some (.int (1 : Int32))) (fun h => by rw [Bd.returns] at h; cases h) Bd.notSynchronized (fun fs hr => retN X101 hx (t := .boolean) Bd.returns (by simp) (hb hby at_165) hr) eq101 ⟨rfl, N101⟩ (by decide) (by decide)
  · skip
    rw [hk76]
    show Go p e below _ (T72.setTop (mkF m 105 #[.val (.int p1), .val (.ref b2), .unset, .unset, .unset, .unset, .unset] [(.int (3 : Int32))]))
    refine Go.st (fun _ kk => XS.istoreN X72.here hx rfl (hb hby at_105) rfl (l' := #[.val (.int p1), .val (.ref b2), .val (.int (3 : Int32)), .unset, .unset, .unset, .unset]) rfl kk) ?_
    show Go p e below _ (T72.setTop (mkF m 106 #[.val (.int p1), .val (.ref b2), .val (.int (3 : Int32)), .unset, .unset, .unset, .unset] []))
    refine Go.st (fun _ kk => XS.aloadN X72.here hx rfl (hb hby at_106) rfl rfl  kk) ?_
    show Go p e below _ (T72.setTop (mkF m 107 #[.val (.int p1), .val (.ref b2), .val (.int (3 : Int32)), .unset, .unset, .unset, .unset] [(.ref b2)]))
    refine Go.st (fun _ kk => XS.iloadN X72.here hx rfl (hb hby at_107) rfl  kk) ?_
    show Go p e below _ (T72.setTop (mkF m 108 #[.val (.int p1), .val (.ref b2), .val (.int (3 : Int32)), .unset, .unset, .unset, .unset] [(.int (3 : Int32)), (.ref b2)]))
    obtain ⟨clq102, Arq102, caq102, saq102, naq102, haq102, gaq102⟩ := V72
    have inq102 : ¬ ((3 : Int32) < 0 ∨ clq102.slots.size ≤ ((3 : Int32)).toNatClampNeg) := inb_of saq102 ⟨by decide, by decide⟩
    have atq102 : clq102.slots[((3 : Int32)).toNatClampNeg]? = some (.ref w_SIGNATURE_DOES_NOT_MATCH) := haq102.at inq102 rfl
    refine Go.st (fun _ kk => X72.aaload hx (j := (3 : Int32)) (v := (.ref w_SIGNATURE_DOES_NOT_MATCH)) (by rw [e72]; exact Arq102.1) (State.isArrayOf_alike hZ.alike Arq102.2.1) rfl Arq102.2.2 inq102 atq102 (g := (mkF m 108 #[.val (.int p1), .val (.ref b2), .val (.int (3 : Int32)), .unset, .unset, .unset, .unset] [(.int (3 : Int32)), (.ref b2)])) rfl rfl (hb hby at_108) _ kk) ?_
    show Go p e below _ (T72.setTop (mkF m 109 #[.val (.int p1), .val (.ref b2), .val (.int (3 : Int32)), .unset, .unset, .unset, .unset] [(.ref w_SIGNATURE_DOES_NOT_MATCH)]))
    refine Go.st (fun _ kk => XS.astoreN X72.here hx rfl (hb hby at_109) rfl rfl (l' := #[.val (.int p1), .val (.ref b2), .val (.int (3 : Int32)), .val (.ref w_SIGNATURE_DOES_NOT_MATCH), .unset, .unset, .unset]) rfl kk) ?_
    show Go p e below _ (T72.setTop (mkF m 110 #[.val (.int p1), .val (.ref b2), .val (.int (3 : Int32)), .val (.ref w_SIGNATURE_DOES_NOT_MATCH), .unset, .unset, .unset] []))
    refine Go.st (fun _ kk => XS.iloadN X72.here hx rfl (hb hby at_110) rfl  kk) ?_
    show Go p e below _ (T72.setTop (mkF m 111 #[.val (.int p1), .val (.ref b2), .val (.int (3 : Int32)), .val (.ref w_SIGNATURE_DOES_NOT_MATCH), .unset, .unset, .unset] [(.int (3 : Int32))]))
    refine Go.st (fun _ kk => XS.bipush X72.here hx rfl (hb hby at_111) kk) ?_
    show Go p e below _ (T72.setTop (mkF m 113 #[.val (.int p1), .val (.ref b2), .val (.int (3 : Int32)), .val (.ref w_SIGNATURE_DOES_NOT_MATCH), .unset, .unset, .unset] [(.int (13 : Int32)), (.int (3 : Int32))]))
    refine Go.st (fun _ kk => XS.icmpNo X72.here hx rfl (hb hby at_113) rfl (feq (by decide : ¬ ((3 : Int32) = (13 : Int32)))).1 kk) ?_
    show Go p e below _ (T72.setTop (mkF m 116 #[.val (.int p1), .val (.ref b2), .val (.int (3 : Int32)), .val (.ref w_SIGNATURE_DOES_NOT_MATCH), .unset, .unset, .unset] []))
    refine Go.st (fun _ kk => XS.iconst X72.here hx rfl (hb hby at_116) kk) ?_
    show Go p e below _ (T72.setTop (mkF m 117 #[.val (.int p1), .val (.ref b2), .val (.int (3 : Int32)), .val (.ref w_SIGNATURE_DOES_NOT_MATCH), .unset, .unset, .unset] [(.int (1 : Int32))]))
    refine Go.st (fun _ kk => XS.goto X72.here hx rfl (pc0 := 117) (pc' := 121) rfl (hb hby at_117) (by decide) (by decide) kk) ?_
    show Go p e below _ (T72.setTop (mkF m 121 #[.val (.int p1), .val (.ref b2), .val (.int (3 : Int32)), .val (.ref w_SIGNATURE_DOES_NOT_MATCH), .unset, .unset, .unset] [(.int (1 : Int32))]))
    refine Go.st (fun _ kk => XS.istore X72.here hx rfl (hb hby at_121) rfl (l' := #[.val (.int p1), .val (.ref b2), .val (.int (3 : Int32)), .val (.ref w_SIGNATURE_DOES_NOT_MATCH), .val (.int (1 : Int32)), .unset, .unset]) rfl kk) ?_
    show Go p e below _ (T72.setTop (mkF m 123 #[.val (.int p1), .val (.ref b2), .val (.int (3 : Int32)), .val (.ref w_SIGNATURE_DOES_NOT_MATCH), .val (.int (1 : Int32)), .unset, .unset] []))
    refine Go.st (fun _ kk => XS.aloadN X72.here hx rfl (hb hby at_123) rfl rfl  kk) ?_
    show Go p e below _ (T72.setTop (mkF m 124 #[.val (.int p1), .val (.ref b2), .val (.int (3 : Int32)), .val (.ref w_SIGNATURE_DOES_NOT_MATCH), .val (.int (1 : Int32)), .unset, .unset] [(.ref w_SIGNATURE_DOES_NOT_MATCH)]))
    have f_103 := (Exa.wr W72 (Exa.wr W67 (Exa.wr W62 (Exa.wr W57 (Exa.wr W52 (Exa.wr W47 (Exa.wr W42 (Exa.wr W37 (Exa.wr W32 (Exa.wr W27 (Exa.wr W22 f_21)))))))))))
    have f_104 := (F_status_w_SIGNATURE_DOES_NOT_MATCH.keep K72 nin0)
    obtain ⟨cq105, kq105, q105a, q105b, q105c⟩ := isOf hZ e72 f_103
    obtain ⟨_, _, ⟨T105, L105, k105, n105⟩, -, X105, ⟨Lc105, hQ105, l105, y105, z105⟩, st105⟩ := X72.virtualBack hx (y := (⟨"com/example/canny_warden/cannywarden/server/IamError", "sender", "()Z"⟩ : MethodName)) (z := (⟨"com/example/canny_warden/cannywarden/server/IamError", "sender", "()Z"⟩ : MethodName)) hown (mvT hZ (hw _ (List.mem_of_getElem? (i := 33) rfl))) (mvT hZ (hw _ (List.mem_of_getElem? (i := 34) rfl))) (notFace_of_selects (args := #[]) (mvT hZ (hw _ (List.mem_of_getElem? (i := 36) rfl)))) (mvT hZ (hw _ (List.mem_of_getElem? (i := 36) rfl))) (mvT hZ (hw _ (List.mem_of_getElem? (i := 35) rfl))) (by decide) (backOf (W := 0) (rm1_t l Z a0 hw [] w_SIGNATURE_DOES_NOT_MATCH (403 : Int32) h72 n0 (Nat.le_trans Z0 K72.1) f_104 (by decide : ((403 : Int32) < (500 : Int32)))) hZ (hw _ (List.mem_of_getElem? (i := 37) rfl)) (hw _ (List.mem_of_getElem? (i := 3) rfl)) (by decide) (by decide)) q105a q105c (g := (mkF m 124 #[.val (.int p1), .val (.ref b2), .val (.int (3 : Int32)), .val (.ref w_SIGNATURE_DOES_NOT_MATCH), .val (.int (1 : Int32)), .unset, .unset] [(.ref w_SIGNATURE_DOES_NOT_MATCH)])) rfl (by rw [hml]; rfl) (Steps.refl _) (argsL := []) (rest := []) (lenOf pd_0 rfl) rfl (by show 2 * 0 + _ ≤ _; exact Nat.le_of_eq rfl) (hb hby at_124) (fun _ _ => ⟨rfl, e72, (by decide : 1 + 0 ≤ _), (by decide : 14 + 0 ≤ _)⟩)
    dsimp only [Pt.U, Pt.locs, Pt.cells, Pt.slots] at X105 l105 y105 z105 st105 hQ105
    subst l105 y105 z105
    obtain ⟨rfl, N105q, eq105⟩ := hQ105
    have N105 := Fr.app N72 N105q
    refine Go.tr st105 ?_
    show Go p e below _ (T105.setTop (mkF m 127 #[.val (.int p1), .val (.ref b2), .val (.int (3 : Int32)), .val (.ref w_SIGNATURE_DOES_NOT_MATCH), .val (.int (1 : Int32)), .unset, .unset] [(.int (1 : Int32))]))
    refine Go.st (fun _ kk => XS.istore X105.here hx rfl (hb hby at_127) rfl (l' := #[.val (.int p1), .val (.ref b2), .val (.int (3 : Int32)), .val (.ref w_SIGNATURE_DOES_NOT_MATCH), .val (.int (1 : Int32)), .val (.int (1 : Int32)), .unset]) rfl kk) ?_
    show Go p e below _ (T105.setTop (mkF m 129 #[.val (.int p1), .val (.ref b2), .val (.int (3 : Int32)), .val (.ref w_SIGNATURE_DOES_NOT_MATCH), .val (.int (1 : Int32)), .val (.int (1 : Int32)), .unset] []))
    refine Go.st (fun _ kk => XS.aloadN X105.here hx rfl (hb hby at_129) rfl rfl  kk) ?_
    show Go p e below _ (T105.setTop (mkF m 130 #[.val (.int p1), .val (.ref b2), .val (.int (3 : Int32)), .val (.ref w_SIGNATURE_DOES_NOT_MATCH), .val (.int (1 : Int32)), .val (.int (1 : Int32)), .unset] [(.ref w_SIGNATURE_DOES_NOT_MATCH)]))
    obtain ⟨cq106, kq106, q106a, q106b, q106c⟩ := isOf hZ eq105 f_103
    obtain ⟨_, _, ⟨T106, L106, k106, n106⟩, -, X106, ⟨Lc106, hQ106, l106, y106, z106⟩, st106⟩ := X105.virtualBack hx (y := (⟨"com/example/canny_warden/cannywarden/server/IamError", "status", "()I"⟩ : MethodName)) (z := (⟨"com/example/canny_warden/cannywarden/server/IamError", "status", "()I"⟩ : MethodName)) hown (mvT hZ (hw _ (List.mem_of_getElem? (i := 40) rfl))) (mvT hZ (hw _ (List.mem_of_getElem? (i := 41) rfl))) (notFace_of_selects (args := #[]) (mvT hZ (hw _ (List.mem_of_getElem? (i := 43) rfl)))) (mvT hZ (hw _ (List.mem_of_getElem? (i := 43) rfl))) (mvT hZ (hw _ (List.mem_of_getElem? (i := 42) rfl))) (by decide) (backOf (W := 0) (rm2_o l Z a0 hw [] w_SIGNATURE_DOES_NOT_MATCH (403 : Int32) h72 n0 (Nat.le_trans Z0 K72.1) f_104) hZ (hw _ (List.mem_of_getElem? (i := 44) rfl)) (hw _ (List.mem_of_getElem? (i := 3) rfl)) (by decide) (by decide)) q106a q106c (g := (mkF m 130 #[.val (.int p1), .val (.ref b2), .val (.int (3 : Int32)), .val (.ref w_SIGNATURE_DOES_NOT_MATCH), .val (.int (1 : Int32)), .val (.int (1 : Int32)), .unset] [(.ref w_SIGNATURE_DOES_NOT_MATCH)])) rfl (by rw [hml]; rfl) (Steps.refl _) (argsL := []) (rest := []) (lenOf pd_1 rfl) rfl (by show 2 * 0 + _ ≤ _; exact Nat.le_of_eq rfl) (hb hby at_130) (fun _ _ => ⟨rfl, eq105, (by decide : 1 + 0 ≤ _), (by decide : 14 + 0 ≤ _)⟩)
    dsimp only [Pt.U, Pt.locs, Pt.cells, Pt.slots] at X106 l106 y106 z106 st106 hQ106
    subst l106 y106 z106
    obtain ⟨rfl, N106q, eq106⟩ := hQ106
    have N106 := Fr.app N105 N106q
    refine Go.tr st106 ?_
    show Go p e below _ (T106.setTop (mkF m 133 #[.val (.int p1), .val (.ref b2), .val (.int (3 : Int32)), .val (.ref w_SIGNATURE_DOES_NOT_MATCH), .val (.int (1 : Int32)), .val (.int (1 : Int32)), .unset] [(.int (403 : Int32))]))
    refine Go.st (fun _ kk => XS.istore X106.here hx rfl (hb hby at_133) rfl (l' := #[.val (.int p1), .val (.ref b2), .val (.int (3 : Int32)), .val (.ref w_SIGNATURE_DOES_NOT_MATCH), .val (.int (1 : Int32)), .val (.int (1 : Int32)), .val (.int (403 : Int32))]) rfl kk) ?_
    show Go p e below _ (T106.setTop (mkF m 135 #[.val (.int p1), .val (.ref b2), .val (.int (3 : Int32)), .val (.ref w_SIGNATURE_DOES_NOT_MATCH), .val (.int (1 : Int32)), .val (.int (1 : Int32)), .val (.int (403 : Int32))] []))
    refine Go.st (fun _ kk => XS.iload X106.here hx rfl (hb hby at_135) rfl  kk) ?_
    show Go p e below _ (T106.setTop (mkF m 137 #[.val (.int p1), .val (.ref b2), .val (.int (3 : Int32)), .val (.ref w_SIGNATURE_DOES_NOT_MATCH), .val (.int (1 : Int32)), .val (.int (1 : Int32)), .val (.int (403 : Int32))] [(.int (1 : Int32))]))
    refine Go.st (fun _ kk => XS.iload X106.here hx rfl (hb hby at_137) rfl  kk) ?_
    show Go p e below _ (T106.setTop (mkF m 139 #[.val (.int p1), .val (.ref b2), .val (.int (3 : Int32)), .val (.ref w_SIGNATURE_DOES_NOT_MATCH), .val (.int (1 : Int32)), .val (.int (1 : Int32)), .val (.int (403 : Int32))] [(.int (1 : Int32)), (.int (1 : Int32))]))
    refine Go.st (fun _ kk => XS.icmpNo X106.here hx rfl (hb hby at_139) rfl (teq (by decide : ((1 : Int32) = (1 : Int32)))).2 kk) ?_
    show Go p e below _ (T106.setTop (mkF m 142 #[.val (.int p1), .val (.ref b2), .val (.int (3 : Int32)), .val (.ref w_SIGNATURE_DOES_NOT_MATCH), .val (.int (1 : Int32)), .val (.int (1 : Int32)), .val (.int (403 : Int32))] []))
    refine Go.st (fun _ kk => XS.iload X106.here hx rfl (hb hby at_142) rfl  kk) ?_
    show Go p e below _ (T106.setTop (mkF m 144 #[.val (.int p1), .val (.ref b2), .val (.int (3 : Int32)), .val (.ref w_SIGNATURE_DOES_NOT_MATCH), .val (.int (1 : Int32)), .val (.int (1 : Int32)), .val (.int (403 : Int32))] [(.int (1 : Int32))]))
    refine Go.st (fun _ kk => XS.iload X106.here hx rfl (hb hby at_144) rfl  kk) ?_
    show Go p e below _ (T106.setTop (mkF m 146 #[.val (.int p1), .val (.ref b2), .val (.int (3 : Int32)), .val (.ref w_SIGNATURE_DOES_NOT_MATCH), .val (.int (1 : Int32)), .val (.int (1 : Int32)), .val (.int (403 : Int32))] [(.int (403 : Int32)), (.int (1 : Int32))]))
    refine Go.st (fun _ kk => XS.sipush X106.here hx rfl (hb hby at_146) kk) ?_
    show Go p e below _ (T106.setTop (mkF m 149 #[.val (.int p1), .val (.ref b2), .val (.int (3 : Int32)), .val (.ref w_SIGNATURE_DOES_NOT_MATCH), .val (.int (1 : Int32)), .val (.int (1 : Int32)), .val (.int (403 : Int32))] [(.int (500 : Int32)), (.int (403 : Int32)), (.int (1 : Int32))]))
    refine Go.st (fun _ kk => XS.icmpNo X106.here hx rfl (hb hby at_149) rfl (tlt (by decide : ((403 : Int32) < (500 : Int32)))).2.1 kk) ?_
    show Go p e below _ (T106.setTop (mkF m 152 #[.val (.int p1), .val (.ref b2), .val (.int (3 : Int32)), .val (.ref w_SIGNATURE_DOES_NOT_MATCH), .val (.int (1 : Int32)), .val (.int (1 : Int32)), .val (.int (403 : Int32))] [(.int (1 : Int32))]))
    refine Go.st (fun _ kk => XS.iconst X106.here hx rfl (hb hby at_152) kk) ?_
    show Go p e below _ (T106.setTop (mkF m 153 #[.val (.int p1), .val (.ref b2), .val (.int (3 : Int32)), .val (.ref w_SIGNATURE_DOES_NOT_MATCH), .val (.int (1 : Int32)), .val (.int (1 : Int32)), .val (.int (403 : Int32))] [(.int (1 : Int32)), (.int (1 : Int32))]))
    refine Go.st (fun _ kk => XS.goto X106.here hx rfl (pc0 := 153) (pc' := 157) rfl (hb hby at_153) (by decide) (by decide) kk) ?_
    show Go p e below _ (T106.setTop (mkF m 157 #[.val (.int p1), .val (.ref b2), .val (.int (3 : Int32)), .val (.ref w_SIGNATURE_DOES_NOT_MATCH), .val (.int (1 : Int32)), .val (.int (1 : Int32)), .val (.int (403 : Int32))] [(.int (1 : Int32)), (.int (1 : Int32))]))
    refine Go.st (fun _ kk => XS.icmpNo X106.here hx rfl (hb hby at_157) rfl (teq (by decide : ((1 : Int32) = (1 : Int32)))).2 kk) ?_
    show Go p e below _ (T106.setTop (mkF m 160 #[.val (.int p1), .val (.ref b2), .val (.int (3 : Int32)), .val (.ref w_SIGNATURE_DOES_NOT_MATCH), .val (.int (1 : Int32)), .val (.int (1 : Int32)), .val (.int (403 : Int32))] []))
    refine Go.st (fun _ kk => XS.iconst X106.here hx rfl (hb hby at_160) kk) ?_
    show Go p e below _ (T106.setTop (mkF m 161 #[.val (.int p1), .val (.ref b2), .val (.int (3 : Int32)), .val (.ref w_SIGNATURE_DOES_NOT_MATCH), .val (.int (1 : Int32)), .val (.int (1 : Int32)), .val (.int (403 : Int32))] [(.int (1 : Int32))]))
    refine Go.st (fun _ kk => XS.goto X106.here hx rfl (pc0 := 161) (pc' := 165) rfl (hb hby at_161) (by decide) (by decide) kk) ?_
    show Go p e below _ (T106.setTop (mkF m 165 #[.val (.int p1), .val (.ref b2), .val (.int (3 : Int32)), .val (.ref w_SIGNATURE_DOES_NOT_MATCH), .val (.int (1 : Int32)), .val (.int (1 : Int32)), .val (.int (403 : Int32))] [(.int (1 : Int32))]))
    exact Go.ret (Q := Q0 n0) X106 (v := some (.int (1 : Int32))) (fun h => by rw [Bd.returns] at h; cases h) Bd.notSynchronized (fun fs hr => retN X106 hx (t := .boolean) Bd.returns (by simp) (hb hby at_165) hr) eq106 ⟨rfl, N106⟩ (by decide) (by decide)
  · skip
    rw [hk77]
    show Go p e below _ (T72.setTop (mkF m 105 #[.val (.int p1), .val (.ref b2), .unset, .unset, .unset, .unset, .unset] [(.int (4 : Int32))]))
    refine Go.st (fun _ kk => XS.istoreN X72.here hx rfl (hb hby at_105) rfl (l' := #[.val (.int p1), .val (.ref b2), .val (.int (4 : Int32)), .unset, .unset, .unset, .unset]) rfl kk) ?_
    show Go p e below _ (T72.setTop (mkF m 106 #[.val (.int p1), .val (.ref b2), .val (.int (4 : Int32)), .unset, .unset, .unset, .unset] []))
    refine Go.st (fun _ kk => XS.aloadN X72.here hx rfl (hb hby at_106) rfl rfl  kk) ?_
    show Go p e below _ (T72.setTop (mkF m 107 #[.val (.int p1), .val (.ref b2), .val (.int (4 : Int32)), .unset, .unset, .unset, .unset] [(.ref b2)]))
    refine Go.st (fun _ kk => XS.iloadN X72.here hx rfl (hb hby at_107) rfl  kk) ?_
    show Go p e below _ (T72.setTop (mkF m 108 #[.val (.int p1), .val (.ref b2), .val (.int (4 : Int32)), .unset, .unset, .unset, .unset] [(.int (4 : Int32)), (.ref b2)]))
    obtain ⟨clq107, Arq107, caq107, saq107, naq107, haq107, gaq107⟩ := V72
    have inq107 : ¬ ((4 : Int32) < 0 ∨ clq107.slots.size ≤ ((4 : Int32)).toNatClampNeg) := inb_of saq107 ⟨by decide, by decide⟩
    have atq107 : clq107.slots[((4 : Int32)).toNatClampNeg]? = some (.ref w_INCOMPLETE_SIGNATURE) := haq107.at inq107 rfl
    refine Go.st (fun _ kk => X72.aaload hx (j := (4 : Int32)) (v := (.ref w_INCOMPLETE_SIGNATURE)) (by rw [e72]; exact Arq107.1) (State.isArrayOf_alike hZ.alike Arq107.2.1) rfl Arq107.2.2 inq107 atq107 (g := (mkF m 108 #[.val (.int p1), .val (.ref b2), .val (.int (4 : Int32)), .unset, .unset, .unset, .unset] [(.int (4 : Int32)), (.ref b2)])) rfl rfl (hb hby at_108) _ kk) ?_
    show Go p e below _ (T72.setTop (mkF m 109 #[.val (.int p1), .val (.ref b2), .val (.int (4 : Int32)), .unset, .unset, .unset, .unset] [(.ref w_INCOMPLETE_SIGNATURE)]))
    refine Go.st (fun _ kk => XS.astoreN X72.here hx rfl (hb hby at_109) rfl rfl (l' := #[.val (.int p1), .val (.ref b2), .val (.int (4 : Int32)), .val (.ref w_INCOMPLETE_SIGNATURE), .unset, .unset, .unset]) rfl kk) ?_
    show Go p e below _ (T72.setTop (mkF m 110 #[.val (.int p1), .val (.ref b2), .val (.int (4 : Int32)), .val (.ref w_INCOMPLETE_SIGNATURE), .unset, .unset, .unset] []))
    refine Go.st (fun _ kk => XS.iloadN X72.here hx rfl (hb hby at_110) rfl  kk) ?_
    show Go p e below _ (T72.setTop (mkF m 111 #[.val (.int p1), .val (.ref b2), .val (.int (4 : Int32)), .val (.ref w_INCOMPLETE_SIGNATURE), .unset, .unset, .unset] [(.int (4 : Int32))]))
    refine Go.st (fun _ kk => XS.bipush X72.here hx rfl (hb hby at_111) kk) ?_
    show Go p e below _ (T72.setTop (mkF m 113 #[.val (.int p1), .val (.ref b2), .val (.int (4 : Int32)), .val (.ref w_INCOMPLETE_SIGNATURE), .unset, .unset, .unset] [(.int (13 : Int32)), (.int (4 : Int32))]))
    refine Go.st (fun _ kk => XS.icmpNo X72.here hx rfl (hb hby at_113) rfl (feq (by decide : ¬ ((4 : Int32) = (13 : Int32)))).1 kk) ?_
    show Go p e below _ (T72.setTop (mkF m 116 #[.val (.int p1), .val (.ref b2), .val (.int (4 : Int32)), .val (.ref w_INCOMPLETE_SIGNATURE), .unset, .unset, .unset] []))
    refine Go.st (fun _ kk => XS.iconst X72.here hx rfl (hb hby at_116) kk) ?_
    show Go p e below _ (T72.setTop (mkF m 117 #[.val (.int p1), .val (.ref b2), .val (.int (4 : Int32)), .val (.ref w_INCOMPLETE_SIGNATURE), .unset, .unset, .unset] [(.int (1 : Int32))]))
    refine Go.st (fun _ kk => XS.goto X72.here hx rfl (pc0 := 117) (pc' := 121) rfl (hb hby at_117) (by decide) (by decide) kk) ?_
    show Go p e below _ (T72.setTop (mkF m 121 #[.val (.int p1), .val (.ref b2), .val (.int (4 : Int32)), .val (.ref w_INCOMPLETE_SIGNATURE), .unset, .unset, .unset] [(.int (1 : Int32))]))
    refine Go.st (fun _ kk => XS.istore X72.here hx rfl (hb hby at_121) rfl (l' := #[.val (.int p1), .val (.ref b2), .val (.int (4 : Int32)), .val (.ref w_INCOMPLETE_SIGNATURE), .val (.int (1 : Int32)), .unset, .unset]) rfl kk) ?_
    show Go p e below _ (T72.setTop (mkF m 123 #[.val (.int p1), .val (.ref b2), .val (.int (4 : Int32)), .val (.ref w_INCOMPLETE_SIGNATURE), .val (.int (1 : Int32)), .unset, .unset] []))
    refine Go.st (fun _ kk => XS.aloadN X72.here hx rfl (hb hby at_123) rfl rfl  kk) ?_
    show Go p e below _ (T72.setTop (mkF m 124 #[.val (.int p1), .val (.ref b2), .val (.int (4 : Int32)), .val (.ref w_INCOMPLETE_SIGNATURE), .val (.int (1 : Int32)), .unset, .unset] [(.ref w_INCOMPLETE_SIGNATURE)]))
    have f_108 := (Exa.wr W72 (Exa.wr W67 (Exa.wr W62 (Exa.wr W57 (Exa.wr W52 (Exa.wr W47 (Exa.wr W42 (Exa.wr W37 (Exa.wr W32 (Exa.wr W27 f_26))))))))))
    have f_109 := (F_status_w_INCOMPLETE_SIGNATURE.keep K72 nin0)
    obtain ⟨cq110, kq110, q110a, q110b, q110c⟩ := isOf hZ e72 f_108
    obtain ⟨_, _, ⟨T110, L110, k110, n110⟩, -, X110, ⟨Lc110, hQ110, l110, y110, z110⟩, st110⟩ := X72.virtualBack hx (y := (⟨"com/example/canny_warden/cannywarden/server/IamError", "sender", "()Z"⟩ : MethodName)) (z := (⟨"com/example/canny_warden/cannywarden/server/IamError", "sender", "()Z"⟩ : MethodName)) hown (mvT hZ (hw _ (List.mem_of_getElem? (i := 33) rfl))) (mvT hZ (hw _ (List.mem_of_getElem? (i := 34) rfl))) (notFace_of_selects (args := #[]) (mvT hZ (hw _ (List.mem_of_getElem? (i := 36) rfl)))) (mvT hZ (hw _ (List.mem_of_getElem? (i := 36) rfl))) (mvT hZ (hw _ (List.mem_of_getElem? (i := 35) rfl))) (by decide) (backOf (W := 0) (rm1_t l Z a0 hw [] w_INCOMPLETE_SIGNATURE (400 : Int32) h72 n0 (Nat.le_trans Z0 K72.1) f_109 (by decide : ((400 : Int32) < (500 : Int32)))) hZ (hw _ (List.mem_of_getElem? (i := 37) rfl)) (hw _ (List.mem_of_getElem? (i := 3) rfl)) (by decide) (by decide)) q110a q110c (g := (mkF m 124 #[.val (.int p1), .val (.ref b2), .val (.int (4 : Int32)), .val (.ref w_INCOMPLETE_SIGNATURE), .val (.int (1 : Int32)), .unset, .unset] [(.ref w_INCOMPLETE_SIGNATURE)])) rfl (by rw [hml]; rfl) (Steps.refl _) (argsL := []) (rest := []) (lenOf pd_0 rfl) rfl (by show 2 * 0 + _ ≤ _; exact Nat.le_of_eq rfl) (hb hby at_124) (fun _ _ => ⟨rfl, e72, (by decide : 1 + 0 ≤ _), (by decide : 14 + 0 ≤ _)⟩)
    dsimp only [Pt.U, Pt.locs, Pt.cells, Pt.slots] at X110 l110 y110 z110 st110 hQ110
    subst l110 y110 z110
    obtain ⟨rfl, N110q, eq110⟩ := hQ110
    have N110 := Fr.app N72 N110q
    refine Go.tr st110 ?_
    show Go p e below _ (T110.setTop (mkF m 127 #[.val (.int p1), .val (.ref b2), .val (.int (4 : Int32)), .val (.ref w_INCOMPLETE_SIGNATURE), .val (.int (1 : Int32)), .unset, .unset] [(.int (1 : Int32))]))
    refine Go.st (fun _ kk => XS.istore X110.here hx rfl (hb hby at_127) rfl (l' := #[.val (.int p1), .val (.ref b2), .val (.int (4 : Int32)), .val (.ref w_INCOMPLETE_SIGNATURE), .val (.int (1 : Int32)), .val (.int (1 : Int32)), .unset]) rfl kk) ?_
    show Go p e below _ (T110.setTop (mkF m 129 #[.val (.int p1), .val (.ref b2), .val (.int (4 : Int32)), .val (.ref w_INCOMPLETE_SIGNATURE), .val (.int (1 : Int32)), .val (.int (1 : Int32)), .unset] []))
    refine Go.st (fun _ kk => XS.aloadN X110.here hx rfl (hb hby at_129) rfl rfl  kk) ?_
    show Go p e below _ (T110.setTop (mkF m 130 #[.val (.int p1), .val (.ref b2), .val (.int (4 : Int32)), .val (.ref w_INCOMPLETE_SIGNATURE), .val (.int (1 : Int32)), .val (.int (1 : Int32)), .unset] [(.ref w_INCOMPLETE_SIGNATURE)]))
    obtain ⟨cq111, kq111, q111a, q111b, q111c⟩ := isOf hZ eq110 f_108
    obtain ⟨_, _, ⟨T111, L111, k111, n111⟩, -, X111, ⟨Lc111, hQ111, l111, y111, z111⟩, st111⟩ := X110.virtualBack hx (y := (⟨"com/example/canny_warden/cannywarden/server/IamError", "status", "()I"⟩ : MethodName)) (z := (⟨"com/example/canny_warden/cannywarden/server/IamError", "status", "()I"⟩ : MethodName)) hown (mvT hZ (hw _ (List.mem_of_getElem? (i := 40) rfl))) (mvT hZ (hw _ (List.mem_of_getElem? (i := 41) rfl))) (notFace_of_selects (args := #[]) (mvT hZ (hw _ (List.mem_of_getElem? (i := 43) rfl)))) (mvT hZ (hw _ (List.mem_of_getElem? (i := 43) rfl))) (mvT hZ (hw _ (List.mem_of_getElem? (i := 42) rfl))) (by decide) (backOf (W := 0) (rm2_o l Z a0 hw [] w_INCOMPLETE_SIGNATURE (400 : Int32) h72 n0 (Nat.le_trans Z0 K72.1) f_109) hZ (hw _ (List.mem_of_getElem? (i := 44) rfl)) (hw _ (List.mem_of_getElem? (i := 3) rfl)) (by decide) (by decide)) q111a q111c (g := (mkF m 130 #[.val (.int p1), .val (.ref b2), .val (.int (4 : Int32)), .val (.ref w_INCOMPLETE_SIGNATURE), .val (.int (1 : Int32)), .val (.int (1 : Int32)), .unset] [(.ref w_INCOMPLETE_SIGNATURE)])) rfl (by rw [hml]; rfl) (Steps.refl _) (argsL := []) (rest := []) (lenOf pd_1 rfl) rfl (by show 2 * 0 + _ ≤ _; exact Nat.le_of_eq rfl) (hb hby at_130) (fun _ _ => ⟨rfl, eq110, (by decide : 1 + 0 ≤ _), (by decide : 14 + 0 ≤ _)⟩)
    dsimp only [Pt.U, Pt.locs, Pt.cells, Pt.slots] at X111 l111 y111 z111 st111 hQ111
    subst l111 y111 z111
    obtain ⟨rfl, N111q, eq111⟩ := hQ111
    have N111 := Fr.app N110 N111q
    refine Go.tr st111 ?_
    show Go p e below _ (T111.setTop (mkF m 133 #[.val (.int p1), .val (.ref b2), .val (.int (4 : Int32)), .val (.ref w_INCOMPLETE_SIGNATURE), .val (.int (1 : Int32)), .val (.int (1 : Int32)), .unset] [(.int (400 : Int32))]))
    refine Go.st (fun _ kk => XS.istore X111.here hx rfl (hb hby at_133) rfl (l' := #[.val (.int p1), .val (.ref b2), .val (.int (4 : Int32)), .val (.ref w_INCOMPLETE_SIGNATURE), .val (.int (1 : Int32)), .val (.int (1 : Int32)), .val (.int (400 : Int32))]) rfl kk) ?_
    show Go p e below _ (T111.setTop (mkF m 135 #[.val (.int p1), .val (.ref b2), .val (.int (4 : Int32)), .val (.ref w_INCOMPLETE_SIGNATURE), .val (.int (1 : Int32)), .val (.int (1 : Int32)), .val (.int (400 : Int32))] []))
    refine Go.st (fun _ kk => XS.iload X111.here hx rfl (hb hby at_135) rfl  kk) ?_
    show Go p e below _ (T111.setTop (mkF m 137 #[.val (.int p1), .val (.ref b2), .val (.int (4 : Int32)), .val (.ref w_INCOMPLETE_SIGNATURE), .val (.int (1 : Int32)), .val (.int (1 : Int32)), .val (.int (400 : Int32))] [(.int (1 : Int32))]))
    refine Go.st (fun _ kk => XS.iload X111.here hx rfl (hb hby at_137) rfl  kk) ?_
    show Go p e below _ (T111.setTop (mkF m 139 #[.val (.int p1), .val (.ref b2), .val (.int (4 : Int32)), .val (.ref w_INCOMPLETE_SIGNATURE), .val (.int (1 : Int32)), .val (.int (1 : Int32)), .val (.int (400 : Int32))] [(.int (1 : Int32)), (.int (1 : Int32))]))
    refine Go.st (fun _ kk => XS.icmpNo X111.here hx rfl (hb hby at_139) rfl (teq (by decide : ((1 : Int32) = (1 : Int32)))).2 kk) ?_
    show Go p e below _ (T111.setTop (mkF m 142 #[.val (.int p1), .val (.ref b2), .val (.int (4 : Int32)), .val (.ref w_INCOMPLETE_SIGNATURE), .val (.int (1 : Int32)), .val (.int (1 : Int32)), .val (.int (400 : Int32))] []))
    refine Go.st (fun _ kk => XS.iload X111.here hx rfl (hb hby at_142) rfl  kk) ?_
    show Go p e below _ (T111.setTop (mkF m 144 #[.val (.int p1), .val (.ref b2), .val (.int (4 : Int32)), .val (.ref w_INCOMPLETE_SIGNATURE), .val (.int (1 : Int32)), .val (.int (1 : Int32)), .val (.int (400 : Int32))] [(.int (1 : Int32))]))
    refine Go.st (fun _ kk => XS.iload X111.here hx rfl (hb hby at_144) rfl  kk) ?_
    show Go p e below _ (T111.setTop (mkF m 146 #[.val (.int p1), .val (.ref b2), .val (.int (4 : Int32)), .val (.ref w_INCOMPLETE_SIGNATURE), .val (.int (1 : Int32)), .val (.int (1 : Int32)), .val (.int (400 : Int32))] [(.int (400 : Int32)), (.int (1 : Int32))]))
    refine Go.st (fun _ kk => XS.sipush X111.here hx rfl (hb hby at_146) kk) ?_
    show Go p e below _ (T111.setTop (mkF m 149 #[.val (.int p1), .val (.ref b2), .val (.int (4 : Int32)), .val (.ref w_INCOMPLETE_SIGNATURE), .val (.int (1 : Int32)), .val (.int (1 : Int32)), .val (.int (400 : Int32))] [(.int (500 : Int32)), (.int (400 : Int32)), (.int (1 : Int32))]))
    refine Go.st (fun _ kk => XS.icmpNo X111.here hx rfl (hb hby at_149) rfl (tlt (by decide : ((400 : Int32) < (500 : Int32)))).2.1 kk) ?_
    show Go p e below _ (T111.setTop (mkF m 152 #[.val (.int p1), .val (.ref b2), .val (.int (4 : Int32)), .val (.ref w_INCOMPLETE_SIGNATURE), .val (.int (1 : Int32)), .val (.int (1 : Int32)), .val (.int (400 : Int32))] [(.int (1 : Int32))]))
    refine Go.st (fun _ kk => XS.iconst X111.here hx rfl (hb hby at_152) kk) ?_
    show Go p e below _ (T111.setTop (mkF m 153 #[.val (.int p1), .val (.ref b2), .val (.int (4 : Int32)), .val (.ref w_INCOMPLETE_SIGNATURE), .val (.int (1 : Int32)), .val (.int (1 : Int32)), .val (.int (400 : Int32))] [(.int (1 : Int32)), (.int (1 : Int32))]))
    refine Go.st (fun _ kk => XS.goto X111.here hx rfl (pc0 := 153) (pc' := 157) rfl (hb hby at_153) (by decide) (by decide) kk) ?_
    show Go p e below _ (T111.setTop (mkF m 157 #[.val (.int p1), .val (.ref b2), .val (.int (4 : Int32)), .val (.ref w_INCOMPLETE_SIGNATURE), .val (.int (1 : Int32)), .val (.int (1 : Int32)), .val (.int (400 : Int32))] [(.int (1 : Int32)), (.int (1 : Int32))]))
    refine Go.st (fun _ kk => XS.icmpNo X111.here hx rfl (hb hby at_157) rfl (teq (by decide : ((1 : Int32) = (1 : Int32)))).2 kk) ?_
    show Go p e below _ (T111.setTop (mkF m 160 #[.val (.int p1), .val (.ref b2), .val (.int (4 : Int32)), .val (.ref w_INCOMPLETE_SIGNATURE), .val (.int (1 : Int32)), .val (.int (1 : Int32)), .val (.int (400 : Int32))] []))
    refine Go.st (fun _ kk => XS.iconst X111.here hx rfl (hb hby at_160) kk) ?_
    show Go p e below _ (T111.setTop (mkF m 161 #[.val (.int p1), .val (.ref b2), .val (.int (4 : Int32)), .val (.ref w_INCOMPLETE_SIGNATURE), .val (.int (1 : Int32)), .val (.int (1 : Int32)), .val (.int (400 : Int32))] [(.int (1 : Int32))]))
    refine Go.st (fun _ kk => XS.goto X111.here hx rfl (pc0 := 161) (pc' := 165) rfl (hb hby at_161) (by decide) (by decide) kk) ?_
    show Go p e below _ (T111.setTop (mkF m 165 #[.val (.int p1), .val (.ref b2), .val (.int (4 : Int32)), .val (.ref w_INCOMPLETE_SIGNATURE), .val (.int (1 : Int32)), .val (.int (1 : Int32)), .val (.int (400 : Int32))] [(.int (1 : Int32))]))
    exact Go.ret (Q := Q0 n0) X111 (v := some (.int (1 : Int32))) (fun h => by rw [Bd.returns] at h; cases h) Bd.notSynchronized (fun fs hr => retN X111 hx (t := .boolean) Bd.returns (by simp) (hb hby at_165) hr) eq111 ⟨rfl, N111⟩ (by decide) (by decide)
  · skip
    rw [hk78]
    show Go p e below _ (T72.setTop (mkF m 105 #[.val (.int p1), .val (.ref b2), .unset, .unset, .unset, .unset, .unset] [(.int (5 : Int32))]))
    refine Go.st (fun _ kk => XS.istoreN X72.here hx rfl (hb hby at_105) rfl (l' := #[.val (.int p1), .val (.ref b2), .val (.int (5 : Int32)), .unset, .unset, .unset, .unset]) rfl kk) ?_
    show Go p e below _ (T72.setTop (mkF m 106 #[.val (.int p1), .val (.ref b2), .val (.int (5 : Int32)), .unset, .unset, .unset, .unset] []))
    refine Go.st (fun _ kk => XS.aloadN X72.here hx rfl (hb hby at_106) rfl rfl  kk) ?_
    show Go p e below _ (T72.setTop (mkF m 107 #[.val (.int p1), .val (.ref b2), .val (.int (5 : Int32)), .unset, .unset, .unset, .unset] [(.ref b2)]))
    refine Go.st (fun _ kk => XS.iloadN X72.here hx rfl (hb hby at_107) rfl  kk) ?_
    show Go p e below _ (T72.setTop (mkF m 108 #[.val (.int p1), .val (.ref b2), .val (.int (5 : Int32)), .unset, .unset, .unset, .unset] [(.int (5 : Int32)), (.ref b2)]))
    obtain ⟨clq112, Arq112, caq112, saq112, naq112, haq112, gaq112⟩ := V72
    have inq112 : ¬ ((5 : Int32) < 0 ∨ clq112.slots.size ≤ ((5 : Int32)).toNatClampNeg) := inb_of saq112 ⟨by decide, by decide⟩
    have atq112 : clq112.slots[((5 : Int32)).toNatClampNeg]? = some (.ref w_REQUEST_EXPIRED) := haq112.at inq112 rfl
    refine Go.st (fun _ kk => X72.aaload hx (j := (5 : Int32)) (v := (.ref w_REQUEST_EXPIRED)) (by rw [e72]; exact Arq112.1) (State.isArrayOf_alike hZ.alike Arq112.2.1) rfl Arq112.2.2 inq112 atq112 (g := (mkF m 108 #[.val (.int p1), .val (.ref b2), .val (.int (5 : Int32)), .unset, .unset, .unset, .unset] [(.int (5 : Int32)), (.ref b2)])) rfl rfl (hb hby at_108) _ kk) ?_
    show Go p e below _ (T72.setTop (mkF m 109 #[.val (.int p1), .val (.ref b2), .val (.int (5 : Int32)), .unset, .unset, .unset, .unset] [(.ref w_REQUEST_EXPIRED)]))
    refine Go.st (fun _ kk => XS.astoreN X72.here hx rfl (hb hby at_109) rfl rfl (l' := #[.val (.int p1), .val (.ref b2), .val (.int (5 : Int32)), .val (.ref w_REQUEST_EXPIRED), .unset, .unset, .unset]) rfl kk) ?_
    show Go p e below _ (T72.setTop (mkF m 110 #[.val (.int p1), .val (.ref b2), .val (.int (5 : Int32)), .val (.ref w_REQUEST_EXPIRED), .unset, .unset, .unset] []))
    refine Go.st (fun _ kk => XS.iloadN X72.here hx rfl (hb hby at_110) rfl  kk) ?_
    show Go p e below _ (T72.setTop (mkF m 111 #[.val (.int p1), .val (.ref b2), .val (.int (5 : Int32)), .val (.ref w_REQUEST_EXPIRED), .unset, .unset, .unset] [(.int (5 : Int32))]))
    refine Go.st (fun _ kk => XS.bipush X72.here hx rfl (hb hby at_111) kk) ?_
    show Go p e below _ (T72.setTop (mkF m 113 #[.val (.int p1), .val (.ref b2), .val (.int (5 : Int32)), .val (.ref w_REQUEST_EXPIRED), .unset, .unset, .unset] [(.int (13 : Int32)), (.int (5 : Int32))]))
    refine Go.st (fun _ kk => XS.icmpNo X72.here hx rfl (hb hby at_113) rfl (feq (by decide : ¬ ((5 : Int32) = (13 : Int32)))).1 kk) ?_
    show Go p e below _ (T72.setTop (mkF m 116 #[.val (.int p1), .val (.ref b2), .val (.int (5 : Int32)), .val (.ref w_REQUEST_EXPIRED), .unset, .unset, .unset] []))
    refine Go.st (fun _ kk => XS.iconst X72.here hx rfl (hb hby at_116) kk) ?_
    show Go p e below _ (T72.setTop (mkF m 117 #[.val (.int p1), .val (.ref b2), .val (.int (5 : Int32)), .val (.ref w_REQUEST_EXPIRED), .unset, .unset, .unset] [(.int (1 : Int32))]))
    refine Go.st (fun _ kk => XS.goto X72.here hx rfl (pc0 := 117) (pc' := 121) rfl (hb hby at_117) (by decide) (by decide) kk) ?_
    show Go p e below _ (T72.setTop (mkF m 121 #[.val (.int p1), .val (.ref b2), .val (.int (5 : Int32)), .val (.ref w_REQUEST_EXPIRED), .unset, .unset, .unset] [(.int (1 : Int32))]))
    refine Go.st (fun _ kk => XS.istore X72.here hx rfl (hb hby at_121) rfl (l' := #[.val (.int p1), .val (.ref b2), .val (.int (5 : Int32)), .val (.ref w_REQUEST_EXPIRED), .val (.int (1 : Int32)), .unset, .unset]) rfl kk) ?_
    show Go p e below _ (T72.setTop (mkF m 123 #[.val (.int p1), .val (.ref b2), .val (.int (5 : Int32)), .val (.ref w_REQUEST_EXPIRED), .val (.int (1 : Int32)), .unset, .unset] []))
    refine Go.st (fun _ kk => XS.aloadN X72.here hx rfl (hb hby at_123) rfl rfl  kk) ?_
    show Go p e below _ (T72.setTop (mkF m 124 #[.val (.int p1), .val (.ref b2), .val (.int (5 : Int32)), .val (.ref w_REQUEST_EXPIRED), .val (.int (1 : Int32)), .unset, .unset] [(.ref w_REQUEST_EXPIRED)]))
    have f_113 := (Exa.wr W72 (Exa.wr W67 (Exa.wr W62 (Exa.wr W57 (Exa.wr W52 (Exa.wr W47 (Exa.wr W42 (Exa.wr W37 (Exa.wr W32 f_31)))))))))
    have f_114 := (F_status_w_REQUEST_EXPIRED.keep K72 nin0)
    obtain ⟨cq115, kq115, q115a, q115b, q115c⟩ := isOf hZ e72 f_113
    obtain ⟨_, _, ⟨T115, L115, k115, n115⟩, -, X115, ⟨Lc115, hQ115, l115, y115, z115⟩, st115⟩ := X72.virtualBack hx (y := (⟨"com/example/canny_warden/cannywarden/server/IamError", "sender", "()Z"⟩ : MethodName)) (z := (⟨"com/example/canny_warden/cannywarden/server/IamError", "sender", "()Z"⟩ : MethodName)) hown (mvT hZ (hw _ (List.mem_of_getElem? (i := 33) rfl))) (mvT hZ (hw _ (List.mem_of_getElem? (i := 34) rfl))) (notFace_of_selects (args := #[]) (mvT hZ (hw _ (List.mem_of_getElem? (i := 36) rfl)))) (mvT hZ (hw _ (List.mem_of_getElem? (i := 36) rfl))) (mvT hZ (hw _ (List.mem_of_getElem? (i := 35) rfl))) (by decide) (backOf (W := 0) (rm1_t l Z a0 hw [] w_REQUEST_EXPIRED (400 : Int32) h72 n0 (Nat.le_trans Z0 K72.1) f_114 (by decide : ((400 : Int32) < (500 : Int32)))) hZ (hw _ (List.mem_of_getElem? (i := 37) rfl)) (hw _ (List.mem_of_getElem? (i := 3) rfl)) (by decide) (by decide)) q115a q115c (g := (mkF m 124 #[.val (.int p1), .val (.ref b2), .val (.int (5 : Int32)), .val (.ref w_REQUEST_EXPIRED), .val (.int (1 : Int32)), .unset, .unset] [(.ref w_REQUEST_EXPIRED)])) rfl (by rw [hml]; rfl) (Steps.refl _) (argsL := []) (rest := []) (lenOf pd_0 rfl) rfl (by show 2 * 0 + _ ≤ _; exact Nat.le_of_eq rfl) (hb hby at_124) (fun _ _ => ⟨rfl, e72, (by decide : 1 + 0 ≤ _), (by decide : 14 + 0 ≤ _)⟩)
    dsimp only [Pt.U, Pt.locs, Pt.cells, Pt.slots] at X115 l115 y115 z115 st115 hQ115
    subst l115 y115 z115
    obtain ⟨rfl, N115q, eq115⟩ := hQ115
    have N115 := Fr.app N72 N115q
    refine Go.tr st115 ?_
    show Go p e below _ (T115.setTop (mkF m 127 #[.val (.int p1), .val (.ref b2), .val (.int (5 : Int32)), .val (.ref w_REQUEST_EXPIRED), .val (.int (1 : Int32)), .unset, .unset] [(.int (1 : Int32))]))
    refine Go.st (fun _ kk => XS.istore X115.here hx rfl (hb hby at_127) rfl (l' := #[.val (.int p1), .val (.ref b2), .val (.int (5 : Int32)), .val (.ref w_REQUEST_EXPIRED), .val (.int (1 : Int32)), .val (.int (1 : Int32)), .unset]) rfl kk) ?_
    show Go p e below _ (T115.setTop (mkF m 129 #[.val (.int p1), .val (.ref b2), .val (.int (5 : Int32)), .val (.ref w_REQUEST_EXPIRED), .val (.int (1 : Int32)), .val (.int (1 : Int32)), .unset] []))
    refine Go.st (fun _ kk => XS.aloadN X115.here hx rfl (hb hby at_129) rfl rfl  kk) ?_
    show Go p e below _ (T115.setTop (mkF m 130 #[.val (.int p1), .val (.ref b2), .val (.int (5 : Int32)), .val (.ref w_REQUEST_EXPIRED), .val (.int (1 : Int32)), .val (.int (1 : Int32)), .unset] [(.ref w_REQUEST_EXPIRED)]))
    obtain ⟨cq116, kq116, q116a, q116b, q116c⟩ := isOf hZ eq115 f_113
    obtain ⟨_, _, ⟨T116, L116, k116, n116⟩, -, X116, ⟨Lc116, hQ116, l116, y116, z116⟩, st116⟩ := X115.virtualBack hx (y := (⟨"com/example/canny_warden/cannywarden/server/IamError", "status", "()I"⟩ : MethodName)) (z := (⟨"com/example/canny_warden/cannywarden/server/IamError", "status", "()I"⟩ : MethodName)) hown (mvT hZ (hw _ (List.mem_of_getElem? (i := 40) rfl))) (mvT hZ (hw _ (List.mem_of_getElem? (i := 41) rfl))) (notFace_of_selects (args := #[]) (mvT hZ (hw _ (List.mem_of_getElem? (i := 43) rfl)))) (mvT hZ (hw _ (List.mem_of_getElem? (i := 43) rfl))) (mvT hZ (hw _ (List.mem_of_getElem? (i := 42) rfl))) (by decide) (backOf (W := 0) (rm2_o l Z a0 hw [] w_REQUEST_EXPIRED (400 : Int32) h72 n0 (Nat.le_trans Z0 K72.1) f_114) hZ (hw _ (List.mem_of_getElem? (i := 44) rfl)) (hw _ (List.mem_of_getElem? (i := 3) rfl)) (by decide) (by decide)) q116a q116c (g := (mkF m 130 #[.val (.int p1), .val (.ref b2), .val (.int (5 : Int32)), .val (.ref w_REQUEST_EXPIRED), .val (.int (1 : Int32)), .val (.int (1 : Int32)), .unset] [(.ref w_REQUEST_EXPIRED)])) rfl (by rw [hml]; rfl) (Steps.refl _) (argsL := []) (rest := []) (lenOf pd_1 rfl) rfl (by show 2 * 0 + _ ≤ _; exact Nat.le_of_eq rfl) (hb hby at_130) (fun _ _ => ⟨rfl, eq115, (by decide : 1 + 0 ≤ _), (by decide : 14 + 0 ≤ _)⟩)
    dsimp only [Pt.U, Pt.locs, Pt.cells, Pt.slots] at X116 l116 y116 z116 st116 hQ116
    subst l116 y116 z116
    obtain ⟨rfl, N116q, eq116⟩ := hQ116
    have N116 := Fr.app N115 N116q
    refine Go.tr st116 ?_
    show Go p e below _ (T116.setTop (mkF m 133 #[.val (.int p1), .val (.ref b2), .val (.int (5 : Int32)), .val (.ref w_REQUEST_EXPIRED), .val (.int (1 : Int32)), .val (.int (1 : Int32)), .unset] [(.int (400 : Int32))]))
    refine Go.st (fun _ kk => XS.istore X116.here hx rfl (hb hby at_133) rfl (l' := #[.val (.int p1), .val (.ref b2), .val (.int (5 : Int32)), .val (.ref w_REQUEST_EXPIRED), .val (.int (1 : Int32)), .val (.int (1 : Int32)), .val (.int (400 : Int32))]) rfl kk) ?_
    show Go p e below _ (T116.setTop (mkF m 135 #[.val (.int p1), .val (.ref b2), .val (.int (5 : Int32)), .val (.ref w_REQUEST_EXPIRED), .val (.int (1 : Int32)), .val (.int (1 : Int32)), .val (.int (400 : Int32))] []))
    refine Go.st (fun _ kk => XS.iload X116.here hx rfl (hb hby at_135) rfl  kk) ?_
    show Go p e below _ (T116.setTop (mkF m 137 #[.val (.int p1), .val (.ref b2), .val (.int (5 : Int32)), .val (.ref w_REQUEST_EXPIRED), .val (.int (1 : Int32)), .val (.int (1 : Int32)), .val (.int (400 : Int32))] [(.int (1 : Int32))]))
    refine Go.st (fun _ kk => XS.iload X116.here hx rfl (hb hby at_137) rfl  kk) ?_
    show Go p e below _ (T116.setTop (mkF m 139 #[.val (.int p1), .val (.ref b2), .val (.int (5 : Int32)), .val (.ref w_REQUEST_EXPIRED), .val (.int (1 : Int32)), .val (.int (1 : Int32)), .val (.int (400 : Int32))] [(.int (1 : Int32)), (.int (1 : Int32))]))
    refine Go.st (fun _ kk => XS.icmpNo X116.here hx rfl (hb hby at_139) rfl (teq (by decide : ((1 : Int32) = (1 : Int32)))).2 kk) ?_
    show Go p e below _ (T116.setTop (mkF m 142 #[.val (.int p1), .val (.ref b2), .val (.int (5 : Int32)), .val (.ref w_REQUEST_EXPIRED), .val (.int (1 : Int32)), .val (.int (1 : Int32)), .val (.int (400 : Int32))] []))
    refine Go.st (fun _ kk => XS.iload X116.here hx rfl (hb hby at_142) rfl  kk) ?_
    show Go p e below _ (T116.setTop (mkF m 144 #[.val (.int p1), .val (.ref b2), .val (.int (5 : Int32)), .val (.ref w_REQUEST_EXPIRED), .val (.int (1 : Int32)), .val (.int (1 : Int32)), .val (.int (400 : Int32))] [(.int (1 : Int32))]))
    refine Go.st (fun _ kk => XS.iload X116.here hx rfl (hb hby at_144) rfl  kk) ?_
    show Go p e below _ (T116.setTop (mkF m 146 #[.val (.int p1), .val (.ref b2), .val (.int (5 : Int32)), .val (.ref w_REQUEST_EXPIRED), .val (.int (1 : Int32)), .val (.int (1 : Int32)), .val (.int (400 : Int32))] [(.int (400 : Int32)), (.int (1 : Int32))]))
    refine Go.st (fun _ kk => XS.sipush X116.here hx rfl (hb hby at_146) kk) ?_
    show Go p e below _ (T116.setTop (mkF m 149 #[.val (.int p1), .val (.ref b2), .val (.int (5 : Int32)), .val (.ref w_REQUEST_EXPIRED), .val (.int (1 : Int32)), .val (.int (1 : Int32)), .val (.int (400 : Int32))] [(.int (500 : Int32)), (.int (400 : Int32)), (.int (1 : Int32))]))
    refine Go.st (fun _ kk => XS.icmpNo X116.here hx rfl (hb hby at_149) rfl (tlt (by decide : ((400 : Int32) < (500 : Int32)))).2.1 kk) ?_
    show Go p e below _ (T116.setTop (mkF m 152 #[.val (.int p1), .val (.ref b2), .val (.int (5 : Int32)), .val (.ref w_REQUEST_EXPIRED), .val (.int (1 : Int32)), .val (.int (1 : Int32)), .val (.int (400 : Int32))] [(.int (1 : Int32))]))
    refine Go.st (fun _ kk => XS.iconst X116.here hx rfl (hb hby at_152) kk) ?_
    show Go p e below _ (T116.setTop (mkF m 153 #[.val (.int p1), .val (.ref b2), .val (.int (5 : Int32)), .val (.ref w_REQUEST_EXPIRED), .val (.int (1 : Int32)), .val (.int (1 : Int32)), .val (.int (400 : Int32))] [(.int (1 : Int32)), (.int (1 : Int32))]))
    refine Go.st (fun _ kk => XS.goto X116.here hx rfl (pc0 := 153) (pc' := 157) rfl (hb hby at_153) (by decide) (by decide) kk) ?_
    show Go p e below _ (T116.setTop (mkF m 157 #[.val (.int p1), .val (.ref b2), .val (.int (5 : Int32)), .val (.ref w_REQUEST_EXPIRED), .val (.int (1 : Int32)), .val (.int (1 : Int32)), .val (.int (400 : Int32))] [(.int (1 : Int32)), (.int (1 : Int32))]))
    refine Go.st (fun _ kk => XS.icmpNo X116.here hx rfl (hb hby at_157) rfl (teq (by decide : ((1 : Int32) = (1 : Int32)))).2 kk) ?_
    show Go p e below _ (T116.setTop (mkF m 160 #[.val (.int p1), .val (.ref b2), .val (.int (5 : Int32)), .val (.ref w_REQUEST_EXPIRED), .val (.int (1 : Int32)), .val (.int (1 : Int32)), .val (.int (400 : Int32))] []))
    refine Go.st (fun _ kk => XS.iconst X116.here hx rfl (hb hby at_160) kk) ?_
    show Go p e below _ (T116.setTop (mkF m 161 #[.val (.int p1), .val (.ref b2), .val (.int (5 : Int32)), .val (.ref w_REQUEST_EXPIRED), .val (.int (1 : Int32)), .val (.int (1 : Int32)), .val (.int (400 : Int32))] [(.int (1 : Int32))]))
    refine Go.st (fun _ kk => XS.goto X116.here hx rfl (pc0 := 161) (pc' := 165) rfl (hb hby at_161) (by decide) (by decide) kk) ?_
    show Go p e below _ (T116.setTop (mkF m 165 #[.val (.int p1), .val (.ref b2), .val (.int (5 : Int32)), .val (.ref w_REQUEST_EXPIRED), .val (.int (1 : Int32)), .val (.int (1 : Int32)), .val (.int (400 : Int32))] [(.int (1 : Int32))]))
    exact Go.ret (Q := Q0 n0) X116 (v := some (.int (1 : Int32))) (fun h => by rw [Bd.returns] at h; cases h) Bd.notSynchronized (fun fs hr => retN X116 hx (t := .boolean) Bd.returns (by simp) (hb hby at_165) hr) eq116 ⟨rfl, N116⟩ (by decide) (by decide)
  · skip
    rw [hk79]
    show Go p e below _ (T72.setTop (mkF m 105 #[.val (.int p1), .val (.ref b2), .unset, .unset, .unset, .unset, .unset] [(.int (6 : Int32))]))
    refine Go.st (fun _ kk => XS.istoreN X72.here hx rfl (hb hby at_105) rfl (l' := #[.val (.int p1), .val (.ref b2), .val (.int (6 : Int32)), .unset, .unset, .unset, .unset]) rfl kk) ?_
    show Go p e below _ (T72.setTop (mkF m 106 #[.val (.int p1), .val (.ref b2), .val (.int (6 : Int32)), .unset, .unset, .unset, .unset] []))
    refine Go.st (fun _ kk => XS.aloadN X72.here hx rfl (hb hby at_106) rfl rfl  kk) ?_
    show Go p e below _ (T72.setTop (mkF m 107 #[.val (.int p1), .val (.ref b2), .val (.int (6 : Int32)), .unset, .unset, .unset, .unset] [(.ref b2)]))
    refine Go.st (fun _ kk => XS.iloadN X72.here hx rfl (hb hby at_107) rfl  kk) ?_
    show Go p e below _ (T72.setTop (mkF m 108 #[.val (.int p1), .val (.ref b2), .val (.int (6 : Int32)), .unset, .unset, .unset, .unset] [(.int (6 : Int32)), (.ref b2)]))
    obtain ⟨clq117, Arq117, caq117, saq117, naq117, haq117, gaq117⟩ := V72
    have inq117 : ¬ ((6 : Int32) < 0 ∨ clq117.slots.size ≤ ((6 : Int32)).toNatClampNeg) := inb_of saq117 ⟨by decide, by decide⟩
    have atq117 : clq117.slots[((6 : Int32)).toNatClampNeg]? = some (.ref w_MISSING_ACTION) := haq117.at inq117 rfl
    refine Go.st (fun _ kk => X72.aaload hx (j := (6 : Int32)) (v := (.ref w_MISSING_ACTION)) (by rw [e72]; exact Arq117.1) (State.isArrayOf_alike hZ.alike Arq117.2.1) rfl Arq117.2.2 inq117 atq117 (g := (mkF m 108 #[.val (.int p1), .val (.ref b2), .val (.int (6 : Int32)), .unset, .unset, .unset, .unset] [(.int (6 : Int32)), (.ref b2)])) rfl rfl (hb hby at_108) _ kk) ?_
    show Go p e below _ (T72.setTop (mkF m 109 #[.val (.int p1), .val (.ref b2), .val (.int (6 : Int32)), .unset, .unset, .unset, .unset] [(.ref w_MISSING_ACTION)]))
    refine Go.st (fun _ kk => XS.astoreN X72.here hx rfl (hb hby at_109) rfl rfl (l' := #[.val (.int p1), .val (.ref b2), .val (.int (6 : Int32)), .val (.ref w_MISSING_ACTION), .unset, .unset, .unset]) rfl kk) ?_
    show Go p e below _ (T72.setTop (mkF m 110 #[.val (.int p1), .val (.ref b2), .val (.int (6 : Int32)), .val (.ref w_MISSING_ACTION), .unset, .unset, .unset] []))
    refine Go.st (fun _ kk => XS.iloadN X72.here hx rfl (hb hby at_110) rfl  kk) ?_
    show Go p e below _ (T72.setTop (mkF m 111 #[.val (.int p1), .val (.ref b2), .val (.int (6 : Int32)), .val (.ref w_MISSING_ACTION), .unset, .unset, .unset] [(.int (6 : Int32))]))
    refine Go.st (fun _ kk => XS.bipush X72.here hx rfl (hb hby at_111) kk) ?_
    show Go p e below _ (T72.setTop (mkF m 113 #[.val (.int p1), .val (.ref b2), .val (.int (6 : Int32)), .val (.ref w_MISSING_ACTION), .unset, .unset, .unset] [(.int (13 : Int32)), (.int (6 : Int32))]))
    refine Go.st (fun _ kk => XS.icmpNo X72.here hx rfl (hb hby at_113) rfl (feq (by decide : ¬ ((6 : Int32) = (13 : Int32)))).1 kk) ?_
    show Go p e below _ (T72.setTop (mkF m 116 #[.val (.int p1), .val (.ref b2), .val (.int (6 : Int32)), .val (.ref w_MISSING_ACTION), .unset, .unset, .unset] []))
    refine Go.st (fun _ kk => XS.iconst X72.here hx rfl (hb hby at_116) kk) ?_
    show Go p e below _ (T72.setTop (mkF m 117 #[.val (.int p1), .val (.ref b2), .val (.int (6 : Int32)), .val (.ref w_MISSING_ACTION), .unset, .unset, .unset] [(.int (1 : Int32))]))
    refine Go.st (fun _ kk => XS.goto X72.here hx rfl (pc0 := 117) (pc' := 121) rfl (hb hby at_117) (by decide) (by decide) kk) ?_
    show Go p e below _ (T72.setTop (mkF m 121 #[.val (.int p1), .val (.ref b2), .val (.int (6 : Int32)), .val (.ref w_MISSING_ACTION), .unset, .unset, .unset] [(.int (1 : Int32))]))
    refine Go.st (fun _ kk => XS.istore X72.here hx rfl (hb hby at_121) rfl (l' := #[.val (.int p1), .val (.ref b2), .val (.int (6 : Int32)), .val (.ref w_MISSING_ACTION), .val (.int (1 : Int32)), .unset, .unset]) rfl kk) ?_
    show Go p e below _ (T72.setTop (mkF m 123 #[.val (.int p1), .val (.ref b2), .val (.int (6 : Int32)), .val (.ref w_MISSING_ACTION), .val (.int (1 : Int32)), .unset, .unset] []))
    refine Go.st (fun _ kk => XS.aloadN X72.here hx rfl (hb hby at_123) rfl rfl  kk) ?_
    show Go p e below _ (T72.setTop (mkF m 124 #[.val (.int p1), .val (.ref b2), .val (.int (6 : Int32)), .val (.ref w_MISSING_ACTION), .val (.int (1 : Int32)), .unset, .unset] [(.ref w_MISSING_ACTION)]))
    have f_118 := (Exa.wr W72 (Exa.wr W67 (Exa.wr W62 (Exa.wr W57 (Exa.wr W52 (Exa.wr W47 (Exa.wr W42 (Exa.wr W37 f_36))))))))
    have f_119 := (F_status_w_MISSING_ACTION.keep K72 nin0)
    obtain ⟨cq120, kq120, q120a, q120b, q120c⟩ := isOf hZ e72 f_118
    obtain ⟨_, _, ⟨T120, L120, k120, n120⟩, -, X120, ⟨Lc120, hQ120, l120, y120, z120⟩, st120⟩ := X72.virtualBack hx (y := (⟨"com/example/canny_warden/cannywarden/server/IamError", "sender", "()Z"⟩ : MethodName)) (z := (⟨"com/example/canny_warden/cannywarden/server/IamError", "sender", "()Z"⟩ : MethodName)) hown (mvT hZ (hw _ (List.mem_of_getElem? (i := 33) rfl))) (mvT hZ (hw _ (List.mem_of_getElem? (i := 34) rfl))) (notFace_of_selects (args := #[]) (mvT hZ (hw _ (List.mem_of_getElem? (i := 36) rfl)))) (mvT hZ (hw _ (List.mem_of_getElem? (i := 36) rfl))) (mvT hZ (hw _ (List.mem_of_getElem? (i := 35) rfl))) (by decide) (backOf (W := 0) (rm1_t l Z a0 hw [] w_MISSING_ACTION (400 : Int32) h72 n0 (Nat.le_trans Z0 K72.1) f_119 (by decide : ((400 : Int32) < (500 : Int32)))) hZ (hw _ (List.mem_of_getElem? (i := 37) rfl)) (hw _ (List.mem_of_getElem? (i := 3) rfl)) (by decide) (by decide)) q120a q120c (g := (mkF m 124 #[.val (.int p1), .val (.ref b2), .val (.int (6 : Int32)), .val (.ref w_MISSING_ACTION), .val (.int (1 : Int32)), .unset, .unset] [(.ref w_MISSING_ACTION)])) rfl (by rw [hml]; rfl) (Steps.refl _) (argsL := []) (rest := []) (lenOf pd_0 rfl) rfl (by show 2 * 0 + _ ≤ _; exact Nat.le_of_eq rfl) (hb hby at_124) (fun _ _ => ⟨rfl, e72, (by decide : 1 + 0 ≤ _), (by decide : 14 + 0 ≤ _)⟩)
    dsimp only [Pt.U, Pt.locs, Pt.cells, Pt.slots] at X120 l120 y120 z120 st120 hQ120
    subst l120 y120 z120
    obtain ⟨rfl, N120q, eq120⟩ := hQ120
    have N120 := Fr.app N72 N120q
    refine Go.tr st120 ?_
    show Go p e below _ (T120.setTop (mkF m 127 #[.val (.int p1), .val (.ref b2), .val (.int (6 : Int32)), .val (.ref w_MISSING_ACTION), .val (.int (1 : Int32)), .unset, .unset] [(.int (1 : Int32))]))
    refine Go.st (fun _ kk => XS.istore X120.here hx rfl (hb hby at_127) rfl (l' := #[.val (.int p1), .val (.ref b2), .val (.int (6 : Int32)), .val (.ref w_MISSING_ACTION), .val (.int (1 : Int32)), .val (.int (1 : Int32)), .unset]) rfl kk) ?_
    show Go p e below _ (T120.setTop (mkF m 129 #[.val (.int p1), .val (.ref b2), .val (.int (6 : Int32)), .val (.ref w_MISSING_ACTION), .val (.int (1 : Int32)), .val (.int (1 : Int32)), .unset] []))
    refine Go.st (fun _ kk => XS.aloadN X120.here hx rfl (hb hby at_129) rfl rfl  kk) ?_
    show Go p e below _ (T120.setTop (mkF m 130 #[.val (.int p1), .val (.ref b2), .val (.int (6 : Int32)), .val (.ref w_MISSING_ACTION), .val (.int (1 : Int32)), .val (.int (1 : Int32)), .unset] [(.ref w_MISSING_ACTION)]))
    obtain ⟨cq121, kq121, q121a, q121b, q121c⟩ := isOf hZ eq120 f_118
    obtain ⟨_, _, ⟨T121, L121, k121, n121⟩, -, X121, ⟨Lc121, hQ121, l121, y121, z121⟩, st121⟩ := X120.virtualBack hx (y := (⟨"com/example/canny_warden/cannywarden/server/IamError", "status", "()I"⟩ : MethodName)) (z := (⟨"com/example/canny_warden/cannywarden/server/IamError", "status", "()I"⟩ : MethodName)) hown (mvT hZ (hw _ (List.mem_of_getElem? (i := 40) rfl))) (mvT hZ (hw _ (List.mem_of_getElem? (i := 41) rfl))) (notFace_of_selects (args := #[]) (mvT hZ (hw _ (List.mem_of_getElem? (i := 43) rfl)))) (mvT hZ (hw _ (List.mem_of_getElem? (i := 43) rfl))) (mvT hZ (hw _ (List.mem_of_getElem? (i := 42) rfl))) (by decide) (backOf (W := 0) (rm2_o l Z a0 hw [] w_MISSING_ACTION (400 : Int32) h72 n0 (Nat.le_trans Z0 K72.1) f_119) hZ (hw _ (List.mem_of_getElem? (i := 44) rfl)) (hw _ (List.mem_of_getElem? (i := 3) rfl)) (by decide) (by decide)) q121a q121c (g := (mkF m 130 #[.val (.int p1), .val (.ref b2), .val (.int (6 : Int32)), .val (.ref w_MISSING_ACTION), .val (.int (1 : Int32)), .val (.int (1 : Int32)), .unset] [(.ref w_MISSING_ACTION)])) rfl (by rw [hml]; rfl) (Steps.refl _) (argsL := []) (rest := []) (lenOf pd_1 rfl) rfl (by show 2 * 0 + _ ≤ _; exact Nat.le_of_eq rfl) (hb hby at_130) (fun _ _ => ⟨rfl, eq120, (by decide : 1 + 0 ≤ _), (by decide : 14 + 0 ≤ _)⟩)
    dsimp only [Pt.U, Pt.locs, Pt.cells, Pt.slots] at X121 l121 y121 z121 st121 hQ121
    subst l121 y121 z121
    obtain ⟨rfl, N121q, eq121⟩ := hQ121
    have N121 := Fr.app N120 N121q
    refine Go.tr st121 ?_
    show Go p e below _ (T121.setTop (mkF m 133 #[.val (.int p1), .val (.ref b2), .val (.int (6 : Int32)), .val (.ref w_MISSING_ACTION), .val (.int (1 : Int32)), .val (.int (1 : Int32)), .unset] [(.int (400 : Int32))]))
    refine Go.st (fun _ kk => XS.istore X121.here hx rfl (hb hby at_133) rfl (l' := #[.val (.int p1), .val (.ref b2), .val (.int (6 : Int32)), .val (.ref w_MISSING_ACTION), .val (.int (1 : Int32)), .val (.int (1 : Int32)), .val (.int (400 : Int32))]) rfl kk) ?_
    show Go p e below _ (T121.setTop (mkF m 135 #[.val (.int p1), .val (.ref b2), .val (.int (6 : Int32)), .val (.ref w_MISSING_ACTION), .val (.int (1 : Int32)), .val (.int (1 : Int32)), .val (.int (400 : Int32))] []))
    refine Go.st (fun _ kk => XS.iload X121.here hx rfl (hb hby at_135) rfl  kk) ?_
    show Go p e below _ (T121.setTop (mkF m 137 #[.val (.int p1), .val (.ref b2), .val (.int (6 : Int32)), .val (.ref w_MISSING_ACTION), .val (.int (1 : Int32)), .val (.int (1 : Int32)), .val (.int (400 : Int32))] [(.int (1 : Int32))]))
    refine Go.st (fun _ kk => XS.iload X121.here hx rfl (hb hby at_137) rfl  kk) ?_
    show Go p e below _ (T121.setTop (mkF m 139 #[.val (.int p1), .val (.ref b2), .val (.int (6 : Int32)), .val (.ref w_MISSING_ACTION), .val (.int (1 : Int32)), .val (.int (1 : Int32)), .val (.int (400 : Int32))] [(.int (1 : Int32)), (.int (1 : Int32))]))
    refine Go.st (fun _ kk => XS.icmpNo X121.here hx rfl (hb hby at_139) rfl (teq (by decide : ((1 : Int32) = (1 : Int32)))).2 kk) ?_
    show Go p e below _ (T121.setTop (mkF m 142 #[.val (.int p1), .val (.ref b2), .val (.int (6 : Int32)), .val (.ref w_MISSING_ACTION), .val (.int (1 : Int32)), .val (.int (1 : Int32)), .val (.int (400 : Int32))] []))
    refine Go.st (fun _ kk => XS.iload X121.here hx rfl (hb hby at_142) rfl  kk) ?_
    show Go p e below _ (T121.setTop (mkF m 144 #[.val (.int p1), .val (.ref b2), .val (.int (6 : Int32)), .val (.ref w_MISSING_ACTION), .val (.int (1 : Int32)), .val (.int (1 : Int32)), .val (.int (400 : Int32))] [(.int (1 : Int32))]))
    refine Go.st (fun _ kk => XS.iload X121.here hx rfl (hb hby at_144) rfl  kk) ?_
    show Go p e below _ (T121.setTop (mkF m 146 #[.val (.int p1), .val (.ref b2), .val (.int (6 : Int32)), .val (.ref w_MISSING_ACTION), .val (.int (1 : Int32)), .val (.int (1 : Int32)), .val (.int (400 : Int32))] [(.int (400 : Int32)), (.int (1 : Int32))]))
    refine Go.st (fun _ kk => XS.sipush X121.here hx rfl (hb hby at_146) kk) ?_
    show Go p e below _ (T121.setTop (mkF m 149 #[.val (.int p1), .val (.ref b2), .val (.int (6 : Int32)), .val (.ref w_MISSING_ACTION), .val (.int (1 : Int32)), .val (.int (1 : Int32)), .val (.int (400 : Int32))] [(.int (500 : Int32)), (.int (400 : Int32)), (.int (1 : Int32))]))
    refine Go.st (fun _ kk => XS.icmpNo X121.here hx rfl (hb hby at_149) rfl (tlt (by decide : ((400 : Int32) < (500 : Int32)))).2.1 kk) ?_
    show Go p e below _ (T121.setTop (mkF m 152 #[.val (.int p1), .val (.ref b2), .val (.int (6 : Int32)), .val (.ref w_MISSING_ACTION), .val (.int (1 : Int32)), .val (.int (1 : Int32)), .val (.int (400 : Int32))] [(.int (1 : Int32))]))
    refine Go.st (fun _ kk => XS.iconst X121.here hx rfl (hb hby at_152) kk) ?_
    show Go p e below _ (T121.setTop (mkF m 153 #[.val (.int p1), .val (.ref b2), .val (.int (6 : Int32)), .val (.ref w_MISSING_ACTION), .val (.int (1 : Int32)), .val (.int (1 : Int32)), .val (.int (400 : Int32))] [(.int (1 : Int32)), (.int (1 : Int32))]))
    refine Go.st (fun _ kk => XS.goto X121.here hx rfl (pc0 := 153) (pc' := 157) rfl (hb hby at_153) (by decide) (by decide) kk) ?_
    show Go p e below _ (T121.setTop (mkF m 157 #[.val (.int p1), .val (.ref b2), .val (.int (6 : Int32)), .val (.ref w_MISSING_ACTION), .val (.int (1 : Int32)), .val (.int (1 : Int32)), .val (.int (400 : Int32))] [(.int (1 : Int32)), (.int (1 : Int32))]))
    refine Go.st (fun _ kk => XS.icmpNo X121.here hx rfl (hb hby at_157) rfl (teq (by decide : ((1 : Int32) = (1 : Int32)))).2 kk) ?_
    show Go p e below _ (T121.setTop (mkF m 160 #[.val (.int p1), .val (.ref b2), .val (.int (6 : Int32)), .val (.ref w_MISSING_ACTION), .val (.int (1 : Int32)), .val (.int (1 : Int32)), .val (.int (400 : Int32))] []))
    refine Go.st (fun _ kk => XS.iconst X121.here hx rfl (hb hby at_160) kk) ?_
    show Go p e below _ (T121.setTop (mkF m 161 #[.val (.int p1), .val (.ref b2), .val (.int (6 : Int32)), .val (.ref w_MISSING_ACTION), .val (.int (1 : Int32)), .val (.int (1 : Int32)), .val (.int (400 : Int32))] [(.int (1 : Int32))]))
    refine Go.st (fun _ kk => XS.goto X121.here hx rfl (pc0 := 161) (pc' := 165) rfl (hb hby at_161) (by decide) (by decide) kk) ?_
    show Go p e below _ (T121.setTop (mkF m 165 #[.val (.int p1), .val (.ref b2), .val (.int (6 : Int32)), .val (.ref w_MISSING_ACTION), .val (.int (1 : Int32)), .val (.int (1 : Int32)), .val (.int (400 : Int32))] [(.int (1 : Int32))]))
    exact Go.ret (Q := Q0 n0) X121 (v := some (.int (1 : Int32))) (fun h => by rw [Bd.returns] at h; cases h) Bd.notSynchronized (fun fs hr => retN X121 hx (t := .boolean) Bd.returns (by simp) (hb hby at_165) hr) eq121 ⟨rfl, N121⟩ (by decide) (by decide)
  · skip
    rw [hk80]
    show Go p e below _ (T72.setTop (mkF m 105 #[.val (.int p1), .val (.ref b2), .unset, .unset, .unset, .unset, .unset] [(.int (7 : Int32))]))
    refine Go.st (fun _ kk => XS.istoreN X72.here hx rfl (hb hby at_105) rfl (l' := #[.val (.int p1), .val (.ref b2), .val (.int (7 : Int32)), .unset, .unset, .unset, .unset]) rfl kk) ?_
    show Go p e below _ (T72.setTop (mkF m 106 #[.val (.int p1), .val (.ref b2), .val (.int (7 : Int32)), .unset, .unset, .unset, .unset] []))
    refine Go.st (fun _ kk => XS.aloadN X72.here hx rfl (hb hby at_106) rfl rfl  kk) ?_
    show Go p e below _ (T72.setTop (mkF m 107 #[.val (.int p1), .val (.ref b2), .val (.int (7 : Int32)), .unset, .unset, .unset, .unset] [(.ref b2)]))
    refine Go.st (fun _ kk => XS.iloadN X72.here hx rfl (hb hby at_107) rfl  kk) ?_
    show Go p e below _ (T72.setTop (mkF m 108 #[.val (.int p1), .val (.ref b2), .val (.int (7 : Int32)), .unset, .unset, .unset, .unset] [(.int (7 : Int32)), (.ref b2)]))
    obtain ⟨clq122, Arq122, caq122, saq122, naq122, haq122, gaq122⟩ := V72
    have inq122 : ¬ ((7 : Int32) < 0 ∨ clq122.slots.size ≤ ((7 : Int32)).toNatClampNeg) := inb_of saq122 ⟨by decide, by decide⟩
    have atq122 : clq122.slots[((7 : Int32)).toNatClampNeg]? = some (.ref w_INVALID_ACTION) := haq122.at inq122 rfl
    refine Go.st (fun _ kk => X72.aaload hx (j := (7 : Int32)) (v := (.ref w_INVALID_ACTION)) (by rw [e72]; exact Arq122.1) (State.isArrayOf_alike hZ.alike Arq122.2.1) rfl Arq122.2.2 inq122 atq122 (g := (mkF m 108 #[.val (.int p1), .val (.ref b2), .val (.int (7 : Int32)), .unset, .unset, .unset, .unset] [(.int (7 : Int32)), (.ref b2)])) rfl rfl (hb hby at_108) _ kk) ?_
    show Go p e below _ (T72.setTop (mkF m 109 #[.val (.int p1), .val (.ref b2), .val (.int (7 : Int32)), .unset, .unset, .unset, .unset] [(.ref w_INVALID_ACTION)]))
    refine Go.st (fun _ kk => XS.astoreN X72.here hx rfl (hb hby at_109) rfl rfl (l' := #[.val (.int p1), .val (.ref b2), .val (.int (7 : Int32)), .val (.ref w_INVALID_ACTION), .unset, .unset, .unset]) rfl kk) ?_
    show Go p e below _ (T72.setTop (mkF m 110 #[.val (.int p1), .val (.ref b2), .val (.int (7 : Int32)), .val (.ref w_INVALID_ACTION), .unset, .unset, .unset] []))
    refine Go.st (fun _ kk => XS.iloadN X72.here hx rfl (hb hby at_110) rfl  kk) ?_
    show Go p e below _ (T72.setTop (mkF m 111 #[.val (.int p1), .val (.ref b2), .val (.int (7 : Int32)), .val (.ref w_INVALID_ACTION), .unset, .unset, .unset] [(.int (7 : Int32))]))
    refine Go.st (fun _ kk => XS.bipush X72.here hx rfl (hb hby at_111) kk) ?_
    show Go p e below _ (T72.setTop (mkF m 113 #[.val (.int p1), .val (.ref b2), .val (.int (7 : Int32)), .val (.ref w_INVALID_ACTION), .unset, .unset, .unset] [(.int (13 : Int32)), (.int (7 : Int32))]))
    refine Go.st (fun _ kk => XS.icmpNo X72.here hx rfl (hb hby at_113) rfl (feq (by decide : ¬ ((7 : Int32) = (13 : Int32)))).1 kk) ?_
    show Go p e below _ (T72.setTop (mkF m 116 #[.val (.int p1), .val (.ref b2), .val (.int (7 : Int32)), .val (.ref w_INVALID_ACTION), .unset, .unset, .unset] []))
    refine Go.st (fun _ kk => XS.iconst X72.here hx rfl (hb hby at_116) kk) ?_
    show Go p e below _ (T72.setTop (mkF m 117 #[.val (.int p1), .val (.ref b2), .val (.int (7 : Int32)), .val (.ref w_INVALID_ACTION), .unset, .unset, .unset] [(.int (1 : Int32))]))
    refine Go.st (fun _ kk => XS.goto X72.here hx rfl (pc0 := 117) (pc' := 121) rfl (hb hby at_117) (by decide) (by decide) kk) ?_
    show Go p e below _ (T72.setTop (mkF m 121 #[.val (.int p1), .val (.ref b2), .val (.int (7 : Int32)), .val (.ref w_INVALID_ACTION), .unset, .unset, .unset] [(.int (1 : Int32))]))
    refine Go.st (fun _ kk => XS.istore X72.here hx rfl (hb hby at_121) rfl (l' := #[.val (.int p1), .val (.ref b2), .val (.int (7 : Int32)), .val (.ref w_INVALID_ACTION), .val (.int (1 : Int32)), .unset, .unset]) rfl kk) ?_
    show Go p e below _ (T72.setTop (mkF m 123 #[.val (.int p1), .val (.ref b2), .val (.int (7 : Int32)), .val (.ref w_INVALID_ACTION), .val (.int (1 : Int32)), .unset, .unset] []))
    refine Go.st (fun _ kk => XS.aloadN X72.here hx rfl (hb hby at_123) rfl rfl  kk) ?_
    show Go p e below _ (T72.setTop (mkF m 124 #[.val (.int p1), .val (.ref b2), .val (.int (7 : Int32)), .val (.ref w_INVALID_ACTION), .val (.int (1 : Int32)), .unset, .unset] [(.ref w_INVALID_ACTION)]))
    have f_123 := (Exa.wr W72 (Exa.wr W67 (Exa.wr W62 (Exa.wr W57 (Exa.wr W52 (Exa.wr W47 (Exa.wr W42 f_41)))))))
    have f_124 := (F_status_w_INVALID_ACTION.keep K72 nin0)
    obtain ⟨cq125, kq125, q125a, q125b, q125c⟩ := isOf hZ e72 f_123
    obtain ⟨_, _, ⟨T125, L125, k125, n125⟩, -, X125, ⟨Lc125, hQ125, l125, y125, z125⟩, st125⟩ := X72.virtualBack hx (y := (⟨"com/example/canny_warden/cannywarden/server/IamError", "sender", "()Z"⟩ : MethodName)) (z := (⟨"com/example/canny_warden/cannywarden/server/IamError", "sender", "()Z"⟩ : MethodName)) hown (mvT hZ (hw _ (List.mem_of_getElem? (i := 33) rfl))) (mvT hZ (hw _ (List.mem_of_getElem? (i := 34) rfl))) (notFace_of_selects (args := #[]) (mvT hZ (hw _ (List.mem_of_getElem? (i := 36) rfl)))) (mvT hZ (hw _ (List.mem_of_getElem? (i := 36) rfl))) (mvT hZ (hw _ (List.mem_of_getElem? (i := 35) rfl))) (by decide) (backOf (W := 0) (rm1_t l Z a0 hw [] w_INVALID_ACTION (400 : Int32) h72 n0 (Nat.le_trans Z0 K72.1) f_124 (by decide : ((400 : Int32) < (500 : Int32)))) hZ (hw _ (List.mem_of_getElem? (i := 37) rfl)) (hw _ (List.mem_of_getElem? (i := 3) rfl)) (by decide) (by decide)) q125a q125c (g := (mkF m 124 #[.val (.int p1), .val (.ref b2), .val (.int (7 : Int32)), .val (.ref w_INVALID_ACTION), .val (.int (1 : Int32)), .unset, .unset] [(.ref w_INVALID_ACTION)])) rfl (by rw [hml]; rfl) (Steps.refl _) (argsL := []) (rest := []) (lenOf pd_0 rfl) rfl (by show 2 * 0 + _ ≤ _; exact Nat.le_of_eq rfl) (hb hby at_124) (fun _ _ => ⟨rfl, e72, (by decide : 1 + 0 ≤ _), (by decide : 14 + 0 ≤ _)⟩)
    dsimp only [Pt.U, Pt.locs, Pt.cells, Pt.slots] at X125 l125 y125 z125 st125 hQ125
    subst l125 y125 z125
    obtain ⟨rfl, N125q, eq125⟩ := hQ125
    have N125 := Fr.app N72 N125q
    refine Go.tr st125 ?_
    show Go p e below _ (T125.setTop (mkF m 127 #[.val (.int p1), .val (.ref b2), .val (.int (7 : Int32)), .val (.ref w_INVALID_ACTION), .val (.int (1 : Int32)), .unset, .unset] [(.int (1 : Int32))]))
    refine Go.st (fun _ kk => XS.istore X125.here hx rfl (hb hby at_127) rfl (l' := #[.val (.int p1), .val (.ref b2), .val (.int (7 : Int32)), .val (.ref w_INVALID_ACTION), .val (.int (1 : Int32)), .val (.int (1 : Int32)), .unset]) rfl kk) ?_
    show Go p e below _ (T125.setTop (mkF m 129 #[.val (.int p1), .val (.ref b2), .val (.int (7 : Int32)), .val (.ref w_INVALID_ACTION), .val (.int (1 : Int32)), .val (.int (1 : Int32)), .unset] []))
    refine Go.st (fun _ kk => XS.aloadN X125.here hx rfl (hb hby at_129) rfl rfl  kk) ?_
    show Go p e below _ (T125.setTop (mkF m 130 #[.val (.int p1), .val (.ref b2), .val (.int (7 : Int32)), .val (.ref w_INVALID_ACTION), .val (.int (1 : Int32)), .val (.int (1 : Int32)), .unset] [(.ref w_INVALID_ACTION)]))
    obtain ⟨cq126, kq126, q126a, q126b, q126c⟩ := isOf hZ eq125 f_123
    obtain ⟨_, _, ⟨T126, L126, k126, n126⟩, -, X126, ⟨Lc126, hQ126, l126, y126, z126⟩, st126⟩ := X125.virtualBack hx (y := (⟨"com/example/canny_warden/cannywarden/server/IamError", "status", "()I"⟩ : MethodName)) (z := (⟨"com/example/canny_warden/cannywarden/server/IamError", "status", "()I"⟩ : MethodName)) hown (mvT hZ (hw _ (List.mem_of_getElem? (i := 40) rfl))) (mvT hZ (hw _ (List.mem_of_getElem? (i := 41) rfl))) (notFace_of_selects (args := #[]) (mvT hZ (hw _ (List.mem_of_getElem? (i := 43) rfl)))) (mvT hZ (hw _ (List.mem_of_getElem? (i := 43) rfl))) (mvT hZ (hw _ (List.mem_of_getElem? (i := 42) rfl))) (by decide) (backOf (W := 0) (rm2_o l Z a0 hw [] w_INVALID_ACTION (400 : Int32) h72 n0 (Nat.le_trans Z0 K72.1) f_124) hZ (hw _ (List.mem_of_getElem? (i := 44) rfl)) (hw _ (List.mem_of_getElem? (i := 3) rfl)) (by decide) (by decide)) q126a q126c (g := (mkF m 130 #[.val (.int p1), .val (.ref b2), .val (.int (7 : Int32)), .val (.ref w_INVALID_ACTION), .val (.int (1 : Int32)), .val (.int (1 : Int32)), .unset] [(.ref w_INVALID_ACTION)])) rfl (by rw [hml]; rfl) (Steps.refl _) (argsL := []) (rest := []) (lenOf pd_1 rfl) rfl (by show 2 * 0 + _ ≤ _; exact Nat.le_of_eq rfl) (hb hby at_130) (fun _ _ => ⟨rfl, eq125, (by decide : 1 + 0 ≤ _), (by decide : 14 + 0 ≤ _)⟩)
    dsimp only [Pt.U, Pt.locs, Pt.cells, Pt.slots] at X126 l126 y126 z126 st126 hQ126
    subst l126 y126 z126
    obtain ⟨rfl, N126q, eq126⟩ := hQ126
    have N126 := Fr.app N125 N126q
    refine Go.tr st126 ?_
    show Go p e below _ (T126.setTop (mkF m 133 #[.val (.int p1), .val (.ref b2), .val (.int (7 : Int32)), .val (.ref w_INVALID_ACTION), .val (.int (1 : Int32)), .val (.int (1 : Int32)), .unset] [(.int (400 : Int32))]))
    refine Go.st (fun _ kk => XS.istore X126.here hx rfl (hb hby at_133) rfl (l' := #[.val (.int p1), .val (.ref b2), .val (.int (7 : Int32)), .val (.ref w_INVALID_ACTION), .val (.int (1 : Int32)), .val (.int (1 : Int32)), .val (.int (400 : Int32))]) rfl kk) ?_
    show Go p e below _ (T126.setTop (mkF m 135 #[.val (.int p1), .val (.ref b2), .val (.int (7 : Int32)), .val (.ref w_INVALID_ACTION), .val (.int (1 : Int32)), .val (.int (1 : Int32)), .val (.int (400 : Int32))] []))
    refine Go.st (fun _ kk => XS.iload X126.here hx rfl (hb hby at_135) rfl  kk) ?_
    show Go p e below _ (T126.setTop (mkF m 137 #[.val (.int p1), .val (.ref b2), .val (.int (7 : Int32)), .val (.ref w_INVALID_ACTION), .val (.int (1 : Int32)), .val (.int (1 : Int32)), .val (.int (400 : Int32))] [(.int (1 : Int32))]))
    refine Go.st (fun _ kk => XS.iload X126.here hx rfl (hb hby at_137) rfl  kk) ?_
    show Go p e below _ (T126.setTop (mkF m 139 #[.val (.int p1), .val (.ref b2), .val (.int (7 : Int32)), .val (.ref w_INVALID_ACTION), .val (.int (1 : Int32)), .val (.int (1 : Int32)), .val (.int (400 : Int32))] [(.int (1 : Int32)), (.int (1 : Int32))]))
    refine Go.st (fun _ kk => XS.icmpNo X126.here hx rfl (hb hby at_139) rfl (teq (by decide : ((1 : Int32) = (1 : Int32)))).2 kk) ?_
    show Go p e below _ (T126.setTop (mkF m 142 #[.val (.int p1), .val (.ref b2), .val (.int (7 : Int32)), .val (.ref w_INVALID_ACTION), .val (.int (1 : Int32)), .val (.int (1 : Int32)), .val (.int (400 : Int32))] []))
    refine Go.st (fun _ kk => XS.iload X126.here hx rfl (hb hby at_142) rfl  kk) ?_
    show Go p e below _ (T126.setTop (mkF m 144 #[.val (.int p1), .val (.ref b2), .val (.int (7 : Int32)), .val (.ref w_INVALID_ACTION), .val (.int (1 : Int32)), .val (.int (1 : Int32)), .val (.int (400 : Int32))] [(.int (1 : Int32))]))
    refine Go.st (fun _ kk => XS.iload X126.here hx rfl (hb hby at_144) rfl  kk) ?_
    show Go p e below _ (T126.setTop (mkF m 146 #[.val (.int p1), .val (.ref b2), .val (.int (7 : Int32)), .val (.ref w_INVALID_ACTION), .val (.int (1 : Int32)), .val (.int (1 : Int32)), .val (.int (400 : Int32))] [(.int (400 : Int32)), (.int (1 : Int32))]))
    refine Go.st (fun _ kk => XS.sipush X126.here hx rfl (hb hby at_146) kk) ?_
    show Go p e below _ (T126.setTop (mkF m 149 #[.val (.int p1), .val (.ref b2), .val (.int (7 : Int32)), .val (.ref w_INVALID_ACTION), .val (.int (1 : Int32)), .val (.int (1 : Int32)), .val (.int (400 : Int32))] [(.int (500 : Int32)), (.int (400 : Int32)), (.int (1 : Int32))]))
    refine Go.st (fun _ kk => XS.icmpNo X126.here hx rfl (hb hby at_149) rfl (tlt (by decide : ((400 : Int32) < (500 : Int32)))).2.1 kk) ?_
    show Go p e below _ (T126.setTop (mkF m 152 #[.val (.int p1), .val (.ref b2), .val (.int (7 : Int32)), .val (.ref w_INVALID_ACTION), .val (.int (1 : Int32)), .val (.int (1 : Int32)), .val (.int (400 : Int32))] [(.int (1 : Int32))]))
    refine Go.st (fun _ kk => XS.iconst X126.here hx rfl (hb hby at_152) kk) ?_
    show Go p e below _ (T126.setTop (mkF m 153 #[.val (.int p1), .val (.ref b2), .val (.int (7 : Int32)), .val (.ref w_INVALID_ACTION), .val (.int (1 : Int32)), .val (.int (1 : Int32)), .val (.int (400 : Int32))] [(.int (1 : Int32)), (.int (1 : Int32))]))
    refine Go.st (fun _ kk => XS.goto X126.here hx rfl (pc0 := 153) (pc' := 157) rfl (hb hby at_153) (by decide) (by decide) kk) ?_
    show Go p e below _ (T126.setTop (mkF m 157 #[.val (.int p1), .val (.ref b2), .val (.int (7 : Int32)), .val (.ref w_INVALID_ACTION), .val (.int (1 : Int32)), .val (.int (1 : Int32)), .val (.int (400 : Int32))] [(.int (1 : Int32)), (.int (1 : Int32))]))
    refine Go.st (fun _ kk => XS.icmpNo X126.here hx rfl (hb hby at_157) rfl (teq (by decide : ((1 : Int32) = (1 : Int32)))).2 kk) ?_
    show Go p e below _ (T126.setTop (mkF m 160 #[.val (.int p1), .val (.ref b2), .val (.int (7 : Int32)), .val (.ref w_INVALID_ACTION), .val (.int (1 : Int32)), .val (.int (1 : Int32)), .val (.int (400 : Int32))] []))
    refine Go.st (fun _ kk => XS.iconst X126.here hx rfl (hb hby at_160) kk) ?_
    show Go p e below _ (T126.setTop (mkF m 161 #[.val (.int p1), .val (.ref b2), .val (.int (7 : Int32)), .val (.ref w_INVALID_ACTION), .val (.int (1 : Int32)), .val (.int (1 : Int32)), .val (.int (400 : Int32))] [(.int (1 : Int32))]))
    refine Go.st (fun _ kk => XS.goto X126.here hx rfl (pc0 := 161) (pc' := 165) rfl (hb hby at_161) (by decide) (by decide) kk) ?_
    show Go p e below _ (T126.setTop (mkF m 165 #[.val (.int p1), .val (.ref b2), .val (.int (7 : Int32)), .val (.ref w_INVALID_ACTION), .val (.int (1 : Int32)), .val (.int (1 : Int32)), .val (.int (400 : Int32))] [(.int (1 : Int32))]))
    exact Go.ret (Q := Q0 n0) X126 (v := some (.int (1 : Int32))) (fun h => by rw [Bd.returns] at h; cases h) Bd.notSynchronized (fun fs hr => retN X126 hx (t := .boolean) Bd.returns (by simp) (hb hby at_165) hr) eq126 ⟨rfl, N126⟩ (by decide) (by decide)
  · skip
    rw [hk81]
    show Go p e below _ (T72.setTop (mkF m 105 #[.val (.int p1), .val (.ref b2), .unset, .unset, .unset, .unset, .unset] [(.int (8 : Int32))]))
    refine Go.st (fun _ kk => XS.istoreN X72.here hx rfl (hb hby at_105) rfl (l' := #[.val (.int p1), .val (.ref b2), .val (.int (8 : Int32)), .unset, .unset, .unset, .unset]) rfl kk) ?_
    show Go p e below _ (T72.setTop (mkF m 106 #[.val (.int p1), .val (.ref b2), .val (.int (8 : Int32)), .unset, .unset, .unset, .unset] []))
    refine Go.st (fun _ kk => XS.aloadN X72.here hx rfl (hb hby at_106) rfl rfl  kk) ?_
    show Go p e below _ (T72.setTop (mkF m 107 #[.val (.int p1), .val (.ref b2), .val (.int (8 : Int32)), .unset, .unset, .unset, .unset] [(.ref b2)]))
    refine Go.st (fun _ kk => XS.iloadN X72.here hx rfl (hb hby at_107) rfl  kk) ?_
    show Go p e below _ (T72.setTop (mkF m 108 #[.val (.int p1), .val (.ref b2), .val (.int (8 : Int32)), .unset, .unset, .unset, .unset] [(.int (8 : Int32)), (.ref b2)]))
    obtain ⟨clq127, Arq127, caq127, saq127, naq127, haq127, gaq127⟩ := V72
    have inq127 : ¬ ((8 : Int32) < 0 ∨ clq127.slots.size ≤ ((8 : Int32)).toNatClampNeg) := inb_of saq127 ⟨by decide, by decide⟩
    have atq127 : clq127.slots[((8 : Int32)).toNatClampNeg]? = some (.ref w_VALIDATION_ERROR) := haq127.at inq127 rfl
    refine Go.st (fun _ kk => X72.aaload hx (j := (8 : Int32)) (v := (.ref w_VALIDATION_ERROR)) (by rw [e72]; exact Arq127.1) (State.isArrayOf_alike hZ.alike Arq127.2.1) rfl Arq127.2.2 inq127 atq127 (g := (mkF m 108 #[.val (.int p1), .val (.ref b2), .val (.int (8 : Int32)), .unset, .unset, .unset, .unset] [(.int (8 : Int32)), (.ref b2)])) rfl rfl (hb hby at_108) _ kk) ?_
    show Go p e below _ (T72.setTop (mkF m 109 #[.val (.int p1), .val (.ref b2), .val (.int (8 : Int32)), .unset, .unset, .unset, .unset] [(.ref w_VALIDATION_ERROR)]))
    refine Go.st (fun _ kk => XS.astoreN X72.here hx rfl (hb hby at_109) rfl rfl (l' := #[.val (.int p1), .val (.ref b2), .val (.int (8 : Int32)), .val (.ref w_VALIDATION_ERROR), .unset, .unset, .unset]) rfl kk) ?_
    show Go p e below _ (T72.setTop (mkF m 110 #[.val (.int p1), .val (.ref b2), .val (.int (8 : Int32)), .val (.ref w_VALIDATION_ERROR), .unset, .unset, .unset] []))
    refine Go.st (fun _ kk => XS.iloadN X72.here hx rfl (hb hby at_110) rfl  kk) ?_
    show Go p e below _ (T72.setTop (mkF m 111 #[.val (.int p1), .val (.ref b2), .val (.int (8 : Int32)), .val (.ref w_VALIDATION_ERROR), .unset, .unset, .unset] [(.int (8 : Int32))]))
    refine Go.st (fun _ kk => XS.bipush X72.here hx rfl (hb hby at_111) kk) ?_
    show Go p e below _ (T72.setTop (mkF m 113 #[.val (.int p1), .val (.ref b2), .val (.int (8 : Int32)), .val (.ref w_VALIDATION_ERROR), .unset, .unset, .unset] [(.int (13 : Int32)), (.int (8 : Int32))]))
    refine Go.st (fun _ kk => XS.icmpNo X72.here hx rfl (hb hby at_113) rfl (feq (by decide : ¬ ((8 : Int32) = (13 : Int32)))).1 kk) ?_
    show Go p e below _ (T72.setTop (mkF m 116 #[.val (.int p1), .val (.ref b2), .val (.int (8 : Int32)), .val (.ref w_VALIDATION_ERROR), .unset, .unset, .unset] []))
    refine Go.st (fun _ kk => XS.iconst X72.here hx rfl (hb hby at_116) kk) ?_
    show Go p e below _ (T72.setTop (mkF m 117 #[.val (.int p1), .val (.ref b2), .val (.int (8 : Int32)), .val (.ref w_VALIDATION_ERROR), .unset, .unset, .unset] [(.int (1 : Int32))]))
    refine Go.st (fun _ kk => XS.goto X72.here hx rfl (pc0 := 117) (pc' := 121) rfl (hb hby at_117) (by decide) (by decide) kk) ?_
    show Go p e below _ (T72.setTop (mkF m 121 #[.val (.int p1), .val (.ref b2), .val (.int (8 : Int32)), .val (.ref w_VALIDATION_ERROR), .unset, .unset, .unset] [(.int (1 : Int32))]))
    refine Go.st (fun _ kk => XS.istore X72.here hx rfl (hb hby at_121) rfl (l' := #[.val (.int p1), .val (.ref b2), .val (.int (8 : Int32)), .val (.ref w_VALIDATION_ERROR), .val (.int (1 : Int32)), .unset, .unset]) rfl kk) ?_
    show Go p e below _ (T72.setTop (mkF m 123 #[.val (.int p1), .val (.ref b2), .val (.int (8 : Int32)), .val (.ref w_VALIDATION_ERROR), .val (.int (1 : Int32)), .unset, .unset] []))
    refine Go.st (fun _ kk => XS.aloadN X72.here hx rfl (hb hby at_123) rfl rfl  kk) ?_
    show Go p e below _ (T72.setTop (mkF m 124 #[.val (.int p1), .val (.ref b2), .val (.int (8 : Int32)), .val (.ref w_VALIDATION_ERROR), .val (.int (1 : Int32)), .unset, .unset] [(.ref w_VALIDATION_ERROR)]))
    have f_128 := (Exa.wr W72 (Exa.wr W67 (Exa.wr W62 (Exa.wr W57 (Exa.wr W52 (Exa.wr W47 f_46))))))
    have f_129 := (F_status_w_VALIDATION_ERROR.keep K72 nin0)
    obtain ⟨cq130, kq130, q130a, q130b, q130c⟩ := isOf hZ e72 f_128
    obtain ⟨_, _, ⟨T130, L130, k130, n130⟩, -, X130, ⟨Lc130, hQ130, l130, y130, z130⟩, st130⟩ := X72.virtualBack hx (y := (⟨"com/example/canny_warden/cannywarden/server/IamError", "sender", "()Z"⟩ : MethodName)) (z := (⟨"com/example/canny_warden/cannywarden/server/IamError", "sender", "()Z"⟩ : MethodName)) hown (mvT hZ (hw _ (List.mem_of_getElem? (i := 33) rfl))) (mvT hZ (hw _ (List.mem_of_getElem? (i := 34) rfl))) (notFace_of_selects (args := #[]) (mvT hZ (hw _ (List.mem_of_getElem? (i := 36) rfl)))) (mvT hZ (hw _ (List.mem_of_getElem? (i := 36) rfl))) (mvT hZ (hw _ (List.mem_of_getElem? (i := 35) rfl))) (by decide) (backOf (W := 0) (rm1_t l Z a0 hw [] w_VALIDATION_ERROR (400 : Int32) h72 n0 (Nat.le_trans Z0 K72.1) f_129 (by decide : ((400 : Int32) < (500 : Int32)))) hZ (hw _ (List.mem_of_getElem? (i := 37) rfl)) (hw _ (List.mem_of_getElem? (i := 3) rfl)) (by decide) (by decide)) q130a q130c (g := (mkF m 124 #[.val (.int p1), .val (.ref b2), .val (.int (8 : Int32)), .val (.ref w_VALIDATION_ERROR), .val (.int (1 : Int32)), .unset, .unset] [(.ref w_VALIDATION_ERROR)])) rfl (by rw [hml]; rfl) (Steps.refl _) (argsL := []) (rest := []) (lenOf pd_0 rfl) rfl (by show 2 * 0 + _ ≤ _; exact Nat.le_of_eq rfl) (hb hby at_124) (fun _ _ => ⟨rfl, e72, (by decide : 1 + 0 ≤ _), (by decide : 14 + 0 ≤ _)⟩)
    dsimp only [Pt.U, Pt.locs, Pt.cells, Pt.slots] at X130 l130 y130 z130 st130 hQ130
    subst l130 y130 z130
    obtain ⟨rfl, N130q, eq130⟩ := hQ130
    have N130 := Fr.app N72 N130q
    refine Go.tr st130 ?_
    show Go p e below _ (T130.setTop (mkF m 127 #[.val (.int p1), .val (.ref b2), .val (.int (8 : Int32)), .val (.ref w_VALIDATION_ERROR), .val (.int (1 : Int32)), .unset, .unset] [(.int (1 : Int32))]))
    refine Go.st (fun _ kk => XS.istore X130.here hx rfl (hb hby at_127) rfl (l' := #[.val (.int p1), .val (.ref b2), .val (.int (8 : Int32)), .val (.ref w_VALIDATION_ERROR), .val (.int (1 : Int32)), .val (.int (1 : Int32)), .unset]) rfl kk) ?_
    show Go p e below _ (T130.setTop (mkF m 129 #[.val (.int p1), .val (.ref b2), .val (.int (8 : Int32)), .val (.ref w_VALIDATION_ERROR), .val (.int (1 : Int32)), .val (.int (1 : Int32)), .unset] []))
    refine Go.st (fun _ kk => XS.aloadN X130.here hx rfl (hb hby at_129) rfl rfl  kk) ?_
    show Go p e below _ (T130.setTop (mkF m 130 #[.val (.int p1), .val (.ref b2), .val (.int (8 : Int32)), .val (.ref w_VALIDATION_ERROR), .val (.int (1 : Int32)), .val (.int (1 : Int32)), .unset] [(.ref w_VALIDATION_ERROR)]))
    obtain ⟨cq131, kq131, q131a, q131b, q131c⟩ := isOf hZ eq130 f_128
    obtain ⟨_, _, ⟨T131, L131, k131, n131⟩, -, X131, ⟨Lc131, hQ131, l131, y131, z131⟩, st131⟩ := X130.virtualBack hx (y := (⟨"com/example/canny_warden/cannywarden/server/IamError", "status", "()I"⟩ : MethodName)) (z := (⟨"com/example/canny_warden/cannywarden/server/IamError", "status", "()I"⟩ : MethodName)) hown (mvT hZ (hw _ (List.mem_of_getElem? (i := 40) rfl))) (mvT hZ (hw _ (List.mem_of_getElem? (i := 41) rfl))) (notFace_of_selects (args := #[]) (mvT hZ (hw _ (List.mem_of_getElem? (i := 43) rfl)))) (mvT hZ (hw _ (List.mem_of_getElem? (i := 43) rfl))) (mvT hZ (hw _ (List.mem_of_getElem? (i := 42) rfl))) (by decide) (backOf (W := 0) (rm2_o l Z a0 hw [] w_VALIDATION_ERROR (400 : Int32) h72 n0 (Nat.le_trans Z0 K72.1) f_129) hZ (hw _ (List.mem_of_getElem? (i := 44) rfl)) (hw _ (List.mem_of_getElem? (i := 3) rfl)) (by decide) (by decide)) q131a q131c (g := (mkF m 130 #[.val (.int p1), .val (.ref b2), .val (.int (8 : Int32)), .val (.ref w_VALIDATION_ERROR), .val (.int (1 : Int32)), .val (.int (1 : Int32)), .unset] [(.ref w_VALIDATION_ERROR)])) rfl (by rw [hml]; rfl) (Steps.refl _) (argsL := []) (rest := []) (lenOf pd_1 rfl) rfl (by show 2 * 0 + _ ≤ _; exact Nat.le_of_eq rfl) (hb hby at_130) (fun _ _ => ⟨rfl, eq130, (by decide : 1 + 0 ≤ _), (by decide : 14 + 0 ≤ _)⟩)
    dsimp only [Pt.U, Pt.locs, Pt.cells, Pt.slots] at X131 l131 y131 z131 st131 hQ131
    subst l131 y131 z131
    obtain ⟨rfl, N131q, eq131⟩ := hQ131
    have N131 := Fr.app N130 N131q
    refine Go.tr st131 ?_
    show Go p e below _ (T131.setTop (mkF m 133 #[.val (.int p1), .val (.ref b2), .val (.int (8 : Int32)), .val (.ref w_VALIDATION_ERROR), .val (.int (1 : Int32)), .val (.int (1 : Int32)), .unset] [(.int (400 : Int32))]))
    refine Go.st (fun _ kk => XS.istore X131.here hx rfl (hb hby at_133) rfl (l' := #[.val (.int p1), .val (.ref b2), .val (.int (8 : Int32)), .val (.ref w_VALIDATION_ERROR), .val (.int (1 : Int32)), .val (.int (1 : Int32)), .val (.int (400 : Int32))]) rfl kk) ?_
    show Go p e below _ (T131.setTop (mkF m 135 #[.val (.int p1), .val (.ref b2), .val (.int (8 : Int32)), .val (.ref w_VALIDATION_ERROR), .val (.int (1 : Int32)), .val (.int (1 : Int32)), .val (.int (400 : Int32))] []))
    refine Go.st (fun _ kk => XS.iload X131.here hx rfl (hb hby at_135) rfl  kk) ?_
    show Go p e below _ (T131.setTop (mkF m 137 #[.val (.int p1), .val (.ref b2), .val (.int (8 : Int32)), .val (.ref w_VALIDATION_ERROR), .val (.int (1 : Int32)), .val (.int (1 : Int32)), .val (.int (400 : Int32))] [(.int (1 : Int32))]))
    refine Go.st (fun _ kk => XS.iload X131.here hx rfl (hb hby at_137) rfl  kk) ?_
    show Go p e below _ (T131.setTop (mkF m 139 #[.val (.int p1), .val (.ref b2), .val (.int (8 : Int32)), .val (.ref w_VALIDATION_ERROR), .val (.int (1 : Int32)), .val (.int (1 : Int32)), .val (.int (400 : Int32))] [(.int (1 : Int32)), (.int (1 : Int32))]))
    refine Go.st (fun _ kk => XS.icmpNo X131.here hx rfl (hb hby at_139) rfl (teq (by decide : ((1 : Int32) = (1 : Int32)))).2 kk) ?_
    show Go p e below _ (T131.setTop (mkF m 142 #[.val (.int p1), .val (.ref b2), .val (.int (8 : Int32)), .val (.ref w_VALIDATION_ERROR), .val (.int (1 : Int32)), .val (.int (1 : Int32)), .val (.int (400 : Int32))] []))
    refine Go.st (fun _ kk => XS.iload X131.here hx rfl (hb hby at_142) rfl  kk) ?_
    show Go p e below _ (T131.setTop (mkF m 144 #[.val (.int p1), .val (.ref b2), .val (.int (8 : Int32)), .val (.ref w_VALIDATION_ERROR), .val (.int (1 : Int32)), .val (.int (1 : Int32)), .val (.int (400 : Int32))] [(.int (1 : Int32))]))
    refine Go.st (fun _ kk => XS.iload X131.here hx rfl (hb hby at_144) rfl  kk) ?_
    show Go p e below _ (T131.setTop (mkF m 146 #[.val (.int p1), .val (.ref b2), .val (.int (8 : Int32)), .val (.ref w_VALIDATION_ERROR), .val (.int (1 : Int32)), .val (.int (1 : Int32)), .val (.int (400 : Int32))] [(.int (400 : Int32)), (.int (1 : Int32))]))
    refine Go.st (fun _ kk => XS.sipush X131.here hx rfl (hb hby at_146) kk) ?_
    show Go p e below _ (T131.setTop (mkF m 149 #[.val (.int p1), .val (.ref b2), .val (.int (8 : Int32)), .val (.ref w_VALIDATION_ERROR), .val (.int (1 : Int32)), .val (.int (1 : Int32)), .val (.int (400 : Int32))] [(.int (500 : Int32)), (.int (400 : Int32)), (.int (1 : Int32))]))
    refine Go.st (fun _ kk => XS.icmpNo X131.here hx rfl (hb hby at_149) rfl (tlt (by decide : ((400 : Int32) < (500 : Int32)))).2.1 kk) ?_
    show Go p e below _ (T131.setTop (mkF m 152 #[.val (.int p1), .val (.ref b2), .val (.int (8 : Int32)), .val (.ref w_VALIDATION_ERROR), .val (.int (1 : Int32)), .val (.int (1 : Int32)), .val (.int (400 : Int32))] [(.int (1 : Int32))]))
    refine Go.st (fun _ kk => XS.iconst X131.here hx rfl (hb hby at_152) kk) ?_
    show Go p e below _ (T131.setTop (mkF m 153 #[.val (.int p1), .val (.ref b2), .val (.int (8 : Int32)), .val (.ref w_VALIDATION_ERROR), .val (.int (1 : Int32)), .val (.int (1 : Int32)), .val (.int (400 : Int32))] [(.int (1 : Int32)), (.int (1 : Int32))]))
    refine Go.st (fun _ kk => XS.goto X131.here hx rfl (pc0 := 153) (pc' := 157) rfl (hb hby at_153) (by decide) (by decide) kk) ?_
    show Go p e below _ (T131.setTop (mkF m 157 #[.val (.int p1), .val (.ref b2), .val (.int (8 : Int32)), .val (.ref w_VALIDATION_ERROR), .val (.int (1 : Int32)), .val (.int (1 : Int32)), .val (.int (400 : Int32))] [(.int (1 : Int32)), (.int (1 : Int32))]))
    refine Go.st (fun _ kk => XS.icmpNo X131.here hx rfl (hb hby at_157) rfl (teq (by decide : ((1 : Int32) = (1 : Int32)))).2 kk) ?_
    show Go p e below _ (T131.setTop (mkF m 160 #[.val (.int p1), .val (.ref b2), .val (.int (8 : Int32)), .val (.ref w_VALIDATION_ERROR), .val (.int (1 : Int32)), .val (.int (1 : Int32)), .val (.int (400 : Int32))] []))
    refine Go.st (fun _ kk => XS.iconst X131.here hx rfl (hb hby at_160) kk) ?_
    show Go p e below _ (T131.setTop (mkF m 161 #[.val (.int p1), .val (.ref b2), .val (.int (8 : Int32)), .val (.ref w_VALIDATION_ERROR), .val (.int (1 : Int32)), .val (.int (1 : Int32)), .val (.int (400 : Int32))] [(.int (1 : Int32))]))
    refine Go.st (fun _ kk => XS.goto X131.here hx rfl (pc0 := 161) (pc' := 165) rfl (hb hby at_161) (by decide) (by decide) kk) ?_
    show Go p e below _ (T131.setTop (mkF m 165 #[.val (.int p1), .val (.ref b2), .val (.int (8 : Int32)), .val (.ref w_VALIDATION_ERROR), .val (.int (1 : Int32)), .val (.int (1 : Int32)), .val (.int (400 : Int32))] [(.int (1 : Int32))]))
    exact Go.ret (Q := Q0 n0) X131 (v := some (.int (1 : Int32))) (fun h => by rw [Bd.returns] at h; cases h) Bd.notSynchronized (fun fs hr => retN X131 hx (t := .boolean) Bd.returns (by simp) (hb hby at_165) hr) eq131 ⟨rfl, N131⟩ (by decide) (by decide)
  · skip
    rw [hk82]
    show Go p e below _ (T72.setTop (mkF m 105 #[.val (.int p1), .val (.ref b2), .unset, .unset, .unset, .unset, .unset] [(.int (9 : Int32))]))
    refine Go.st (fun _ kk => XS.istoreN X72.here hx rfl (hb hby at_105) rfl (l' := #[.val (.int p1), .val (.ref b2), .val (.int (9 : Int32)), .unset, .unset, .unset, .unset]) rfl kk) ?_
    show Go p e below _ (T72.setTop (mkF m 106 #[.val (.int p1), .val (.ref b2), .val (.int (9 : Int32)), .unset, .unset, .unset, .unset] []))
    refine Go.st (fun _ kk => XS.aloadN X72.here hx rfl (hb hby at_106) rfl rfl  kk) ?_
    show Go p e below _ (T72.setTop (mkF m 107 #[.val (.int p1), .val (.ref b2), .val (.int (9 : Int32)), .unset, .unset, .unset, .unset] [(.ref b2)]))
    refine Go.st (fun _ kk => XS.iloadN X72.here hx rfl (hb hby at_107) rfl  kk) ?_
    show Go p e below _ (T72.setTop (mkF m 108 #[.val (.int p1), .val (.ref b2), .val (.int (9 : Int32)), .unset, .unset, .unset, .unset] [(.int (9 : Int32)), (.ref b2)]))
    obtain ⟨clq132, Arq132, caq132, saq132, naq132, haq132, gaq132⟩ := V72
    have inq132 : ¬ ((9 : Int32) < 0 ∨ clq132.slots.size ≤ ((9 : Int32)).toNatClampNeg) := inb_of saq132 ⟨by decide, by decide⟩
    have atq132 : clq132.slots[((9 : Int32)).toNatClampNeg]? = some (.ref w_NO_SUCH_ENTITY) := haq132.at inq132 rfl
    refine Go.st (fun _ kk => X72.aaload hx (j := (9 : Int32)) (v := (.ref w_NO_SUCH_ENTITY)) (by rw [e72]; exact Arq132.1) (State.isArrayOf_alike hZ.alike Arq132.2.1) rfl Arq132.2.2 inq132 atq132 (g := (mkF m 108 #[.val (.int p1), .val (.ref b2), .val (.int (9 : Int32)), .unset, .unset, .unset, .unset] [(.int (9 : Int32)), (.ref b2)])) rfl rfl (hb hby at_108) _ kk) ?_
    show Go p e below _ (T72.setTop (mkF m 109 #[.val (.int p1), .val (.ref b2), .val (.int (9 : Int32)), .unset, .unset, .unset, .unset] [(.ref w_NO_SUCH_ENTITY)]))
    refine Go.st (fun _ kk => XS.astoreN X72.here hx rfl (hb hby at_109) rfl rfl (l' := #[.val (.int p1), .val (.ref b2), .val (.int (9 : Int32)), .val (.ref w_NO_SUCH_ENTITY), .unset, .unset, .unset]) rfl kk) ?_
    show Go p e below _ (T72.setTop (mkF m 110 #[.val (.int p1), .val (.ref b2), .val (.int (9 : Int32)), .val (.ref w_NO_SUCH_ENTITY), .unset, .unset, .unset] []))
    refine Go.st (fun _ kk => XS.iloadN X72.here hx rfl (hb hby at_110) rfl  kk) ?_
    show Go p e below _ (T72.setTop (mkF m 111 #[.val (.int p1), .val (.ref b2), .val (.int (9 : Int32)), .val (.ref w_NO_SUCH_ENTITY), .unset, .unset, .unset] [(.int (9 : Int32))]))
    refine Go.st (fun _ kk => XS.bipush X72.here hx rfl (hb hby at_111) kk) ?_
    show Go p e below _ (T72.setTop (mkF m 113 #[.val (.int p1), .val (.ref b2), .val (.int (9 : Int32)), .val (.ref w_NO_SUCH_ENTITY), .unset, .unset, .unset] [(.int (13 : Int32)), (.int (9 : Int32))]))
    refine Go.st (fun _ kk => XS.icmpNo X72.here hx rfl (hb hby at_113) rfl (feq (by decide : ¬ ((9 : Int32) = (13 : Int32)))).1 kk) ?_
    show Go p e below _ (T72.setTop (mkF m 116 #[.val (.int p1), .val (.ref b2), .val (.int (9 : Int32)), .val (.ref w_NO_SUCH_ENTITY), .unset, .unset, .unset] []))
    refine Go.st (fun _ kk => XS.iconst X72.here hx rfl (hb hby at_116) kk) ?_
    show Go p e below _ (T72.setTop (mkF m 117 #[.val (.int p1), .val (.ref b2), .val (.int (9 : Int32)), .val (.ref w_NO_SUCH_ENTITY), .unset, .unset, .unset] [(.int (1 : Int32))]))
    refine Go.st (fun _ kk => XS.goto X72.here hx rfl (pc0 := 117) (pc' := 121) rfl (hb hby at_117) (by decide) (by decide) kk) ?_
    show Go p e below _ (T72.setTop (mkF m 121 #[.val (.int p1), .val (.ref b2), .val (.int (9 : Int32)), .val (.ref w_NO_SUCH_ENTITY), .unset, .unset, .unset] [(.int (1 : Int32))]))
    refine Go.st (fun _ kk => XS.istore X72.here hx rfl (hb hby at_121) rfl (l' := #[.val (.int p1), .val (.ref b2), .val (.int (9 : Int32)), .val (.ref w_NO_SUCH_ENTITY), .val (.int (1 : Int32)), .unset, .unset]) rfl kk) ?_
    show Go p e below _ (T72.setTop (mkF m 123 #[.val (.int p1), .val (.ref b2), .val (.int (9 : Int32)), .val (.ref w_NO_SUCH_ENTITY), .val (.int (1 : Int32)), .unset, .unset] []))
    refine Go.st (fun _ kk => XS.aloadN X72.here hx rfl (hb hby at_123) rfl rfl  kk) ?_
    show Go p e below _ (T72.setTop (mkF m 124 #[.val (.int p1), .val (.ref b2), .val (.int (9 : Int32)), .val (.ref w_NO_SUCH_ENTITY), .val (.int (1 : Int32)), .unset, .unset] [(.ref w_NO_SUCH_ENTITY)]))
    have f_133 := (Exa.wr W72 (Exa.wr W67 (Exa.wr W62 (Exa.wr W57 (Exa.wr W52 f_51)))))
    have f_134 := (F_status_w_NO_SUCH_ENTITY.keep K72 nin0)
    obtain ⟨cq135, kq135, q135a, q135b, q135c⟩ := isOf hZ e72 f_133
    obtain ⟨_, _, ⟨T135, L135, k135, n135⟩, -, X135, ⟨Lc135, hQ135, l135, y135, z135⟩, st135⟩ := X72.virtualBack hx (y := (⟨"com/example/canny_warden/cannywarden/server/IamError", "sender", "()Z"⟩ : MethodName)) (z := (⟨"com/example/canny_warden/cannywarden/server/IamError", "sender", "()Z"⟩ : MethodName)) hown (mvT hZ (hw _ (List.mem_of_getElem? (i := 33) rfl))) (mvT hZ (hw _ (List.mem_of_getElem? (i := 34) rfl))) (notFace_of_selects (args := #[]) (mvT hZ (hw _ (List.mem_of_getElem? (i := 36) rfl)))) (mvT hZ (hw _ (List.mem_of_getElem? (i := 36) rfl))) (mvT hZ (hw _ (List.mem_of_getElem? (i := 35) rfl))) (by decide) (backOf (W := 0) (rm1_t l Z a0 hw [] w_NO_SUCH_ENTITY (404 : Int32) h72 n0 (Nat.le_trans Z0 K72.1) f_134 (by decide : ((404 : Int32) < (500 : Int32)))) hZ (hw _ (List.mem_of_getElem? (i := 37) rfl)) (hw _ (List.mem_of_getElem? (i := 3) rfl)) (by decide) (by decide)) q135a q135c (g := (mkF m 124 #[.val (.int p1), .val (.ref b2), .val (.int (9 : Int32)), .val (.ref w_NO_SUCH_ENTITY), .val (.int (1 : Int32)), .unset, .unset] [(.ref w_NO_SUCH_ENTITY)])) rfl (by rw [hml]; rfl) (Steps.refl _) (argsL := []) (rest := []) (lenOf pd_0 rfl) rfl (by show 2 * 0 + _ ≤ _; exact Nat.le_of_eq rfl) (hb hby at_124) (fun _ _ => ⟨rfl, e72, (by decide : 1 + 0 ≤ _), (by decide : 14 + 0 ≤ _)⟩)
    dsimp only [Pt.U, Pt.locs, Pt.cells, Pt.slots] at X135 l135 y135 z135 st135 hQ135
    subst l135 y135 z135
    obtain ⟨rfl, N135q, eq135⟩ := hQ135
    have N135 := Fr.app N72 N135q
    refine Go.tr st135 ?_
    show Go p e below _ (T135.setTop (mkF m 127 #[.val (.int p1), .val (.ref b2), .val (.int (9 : Int32)), .val (.ref w_NO_SUCH_ENTITY), .val (.int (1 : Int32)), .unset, .unset] [(.int (1 : Int32))]))
    refine Go.st (fun _ kk => XS.istore X135.here hx rfl (hb hby at_127) rfl (l' := #[.val (.int p1), .val (.ref b2), .val (.int (9 : Int32)), .val (.ref w_NO_SUCH_ENTITY), .val (.int (1 : Int32)), .val (.int (1 : Int32)), .unset]) rfl kk) ?_
    show Go p e below _ (T135.setTop (mkF m 129 #[.val (.int p1), .val (.ref b2), .val (.int (9 : Int32)), .val (.ref w_NO_SUCH_ENTITY), .val (.int (1 : Int32)), .val (.int (1 : Int32)), .unset] []))
    refine Go.st (fun _ kk => XS.aloadN X135.here hx rfl (hb hby at_129) rfl rfl  kk) ?_
    show Go p e below _ (T135.setTop (mkF m 130 #[.val (.int p1), .val (.ref b2), .val (.int (9 : Int32)), .val (.ref w_NO_SUCH_ENTITY), .val (.int (1 : Int32)), .val (.int (1 : Int32)), .unset] [(.ref w_NO_SUCH_ENTITY)]))
    obtain ⟨cq136, kq136, q136a, q136b, q136c⟩ := isOf hZ eq135 f_133
    obtain ⟨_, _, ⟨T136, L136, k136, n136⟩, -, X136, ⟨Lc136, hQ136, l136, y136, z136⟩, st136⟩ := X135.virtualBack hx (y := (⟨"com/example/canny_warden/cannywarden/server/IamError", "status", "()I"⟩ : MethodName)) (z := (⟨"com/example/canny_warden/cannywarden/server/IamError", "status", "()I"⟩ : MethodName)) hown (mvT hZ (hw _ (List.mem_of_getElem? (i := 40) rfl))) (mvT hZ (hw _ (List.mem_of_getElem? (i := 41) rfl))) (notFace_of_selects (args := #[]) (mvT hZ (hw _ (List.mem_of_getElem? (i := 43) rfl)))) (mvT hZ (hw _ (List.mem_of_getElem? (i := 43) rfl))) (mvT hZ (hw _ (List.mem_of_getElem? (i := 42) rfl))) (by decide) (backOf (W := 0) (rm2_o l Z a0 hw [] w_NO_SUCH_ENTITY (404 : Int32) h72 n0 (Nat.le_trans Z0 K72.1) f_134) hZ (hw _ (List.mem_of_getElem? (i := 44) rfl)) (hw _ (List.mem_of_getElem? (i := 3) rfl)) (by decide) (by decide)) q136a q136c (g := (mkF m 130 #[.val (.int p1), .val (.ref b2), .val (.int (9 : Int32)), .val (.ref w_NO_SUCH_ENTITY), .val (.int (1 : Int32)), .val (.int (1 : Int32)), .unset] [(.ref w_NO_SUCH_ENTITY)])) rfl (by rw [hml]; rfl) (Steps.refl _) (argsL := []) (rest := []) (lenOf pd_1 rfl) rfl (by show 2 * 0 + _ ≤ _; exact Nat.le_of_eq rfl) (hb hby at_130) (fun _ _ => ⟨rfl, eq135, (by decide : 1 + 0 ≤ _), (by decide : 14 + 0 ≤ _)⟩)
    dsimp only [Pt.U, Pt.locs, Pt.cells, Pt.slots] at X136 l136 y136 z136 st136 hQ136
    subst l136 y136 z136
    obtain ⟨rfl, N136q, eq136⟩ := hQ136
    have N136 := Fr.app N135 N136q
    refine Go.tr st136 ?_
    show Go p e below _ (T136.setTop (mkF m 133 #[.val (.int p1), .val (.ref b2), .val (.int (9 : Int32)), .val (.ref w_NO_SUCH_ENTITY), .val (.int (1 : Int32)), .val (.int (1 : Int32)), .unset] [(.int (404 : Int32))]))
    refine Go.st (fun _ kk => XS.istore X136.here hx rfl (hb hby at_133) rfl (l' := #[.val (.int p1), .val (.ref b2), .val (.int (9 : Int32)), .val (.ref w_NO_SUCH_ENTITY), .val (.int (1 : Int32)), .val (.int (1 : Int32)), .val (.int (404 : Int32))]) rfl kk) ?_
    show Go p e below _ (T136.setTop (mkF m 135 #[.val (.int p1), .val (.ref b2), .val (.int (9 : Int32)), .val (.ref w_NO_SUCH_ENTITY), .val (.int (1 : Int32)), .val (.int (1 : Int32)), .val (.int (404 : Int32))] []))
    refine Go.st (fun _ kk => XS.iload X136.here hx rfl (hb hby at_135) rfl  kk) ?_
    show Go p e below _ (T136.setTop (mkF m 137 #[.val (.int p1), .val (.ref b2), .val (.int (9 : Int32)), .val (.ref w_NO_SUCH_ENTITY), .val (.int (1 : Int32)), .val (.int (1 : Int32)), .val (.int (404 : Int32))] [(.int (1 : Int32))]))
    refine Go.st (fun _ kk => XS.iload X136.here hx rfl (hb hby at_137) rfl  kk) ?_
    show Go p e below _ (T136.setTop (mkF m 139 #[.val (.int p1), .val (.ref b2), .val (.int (9 : Int32)), .val (.ref w_NO_SUCH_ENTITY), .val (.int (1 : Int32)), .val (.int (1 : Int32)), .val (.int (404 : Int32))] [(.int (1 : Int32)), (.int (1 : Int32))]))
    refine Go.st (fun _ kk => XS.icmpNo X136.here hx rfl (hb hby at_139) rfl (teq (by decide : ((1 : Int32) = (1 : Int32)))).2 kk) ?_
    show Go p e below _ (T136.setTop (mkF m 142 #[.val (.int p1), .val (.ref b2), .val (.int (9 : Int32)), .val (.ref w_NO_SUCH_ENTITY), .val (.int (1 : Int32)), .val (.int (1 : Int32)), .val (.int (404 : Int32))] []))
    refine Go.st (fun _ kk => XS.iload X136.here hx rfl (hb hby at_142) rfl  kk) ?_
    show Go p e below _ (T136.setTop (mkF m 144 #[.val (.int p1), .val (.ref b2), .val (.int (9 : Int32)), .val (.ref w_NO_SUCH_ENTITY), .val (.int (1 : Int32)), .val (.int (1 : Int32)), .val (.int (404 : Int32))] [(.int (1 : Int32))]))
    refine Go.st (fun _ kk => XS.iload X136.here hx rfl (hb hby at_144) rfl  kk) ?_
    show Go p e below _ (T136.setTop (mkF m 146 #[.val (.int p1), .val (.ref b2), .val (.int (9 : Int32)), .val (.ref w_NO_SUCH_ENTITY), .val (.int (1 : Int32)), .val (.int (1 : Int32)), .val (.int (404 : Int32))] [(.int (404 : Int32)), (.int (1 : Int32))]))
    refine Go.st (fun _ kk => XS.sipush X136.here hx rfl (hb hby at_146) kk) ?_
    show Go p e below _ (T136.setTop (mkF m 149 #[.val (.int p1), .val (.ref b2), .val (.int (9 : Int32)), .val (.ref w_NO_SUCH_ENTITY), .val (.int (1 : Int32)), .val (.int (1 : Int32)), .val (.int (404 : Int32))] [(.int (500 : Int32)), (.int (404 : Int32)), (.int (1 : Int32))]))
    refine Go.st (fun _ kk => XS.icmpNo X136.here hx rfl (hb hby at_149) rfl (tlt (by decide : ((404 : Int32) < (500 : Int32)))).2.1 kk) ?_
    show Go p e below _ (T136.setTop (mkF m 152 #[.val (.int p1), .val (.ref b2), .val (.int (9 : Int32)), .val (.ref w_NO_SUCH_ENTITY), .val (.int (1 : Int32)), .val (.int (1 : Int32)), .val (.int (404 : Int32))] [(.int (1 : Int32))]))
    refine Go.st (fun _ kk => XS.iconst X136.here hx rfl (hb hby at_152) kk) ?_
    show Go p e below _ (T136.setTop (mkF m 153 #[.val (.int p1), .val (.ref b2), .val (.int (9 : Int32)), .val (.ref w_NO_SUCH_ENTITY), .val (.int (1 : Int32)), .val (.int (1 : Int32)), .val (.int (404 : Int32))] [(.int (1 : Int32)), (.int (1 : Int32))]))
    refine Go.st (fun _ kk => XS.goto X136.here hx rfl (pc0 := 153) (pc' := 157) rfl (hb hby at_153) (by decide) (by decide) kk) ?_
    show Go p e below _ (T136.setTop (mkF m 157 #[.val (.int p1), .val (.ref b2), .val (.int (9 : Int32)), .val (.ref w_NO_SUCH_ENTITY), .val (.int (1 : Int32)), .val (.int (1 : Int32)), .val (.int (404 : Int32))] [(.int (1 : Int32)), (.int (1 : Int32))]))
    refine Go.st (fun _ kk => XS.icmpNo X136.here hx rfl (hb hby at_157) rfl (teq (by decide : ((1 : Int32) = (1 : Int32)))).2 kk) ?_
    show Go p e below _ (T136.setTop (mkF m 160 #[.val (.int p1), .val (.ref b2), .val (.int (9 : Int32)), .val (.ref w_NO_SUCH_ENTITY), .val (.int (1 : Int32)), .val (.int (1 : Int32)), .val (.int (404 : Int32))] []))
    refine Go.st (fun _ kk => XS.iconst X136.here hx rfl (hb hby at_160) kk) ?_
    show Go p e below _ (T136.setTop (mkF m 161 #[.val (.int p1), .val (.ref b2), .val (.int (9 : Int32)), .val (.ref w_NO_SUCH_ENTITY), .val (.int (1 : Int32)), .val (.int (1 : Int32)), .val (.int (404 : Int32))] [(.int (1 : Int32))]))
    refine Go.st (fun _ kk => XS.goto X136.here hx rfl (pc0 := 161) (pc' := 165) rfl (hb hby at_161) (by decide) (by decide) kk) ?_
    show Go p e below _ (T136.setTop (mkF m 165 #[.val (.int p1), .val (.ref b2), .val (.int (9 : Int32)), .val (.ref w_NO_SUCH_ENTITY), .val (.int (1 : Int32)), .val (.int (1 : Int32)), .val (.int (404 : Int32))] [(.int (1 : Int32))]))
    exact Go.ret (Q := Q0 n0) X136 (v := some (.int (1 : Int32))) (fun h => by rw [Bd.returns] at h; cases h) Bd.notSynchronized (fun fs hr => retN X136 hx (t := .boolean) Bd.returns (by simp) (hb hby at_165) hr) eq136 ⟨rfl, N136⟩ (by decide) (by decide)
  · skip
    rw [hk83]
    show Go p e below _ (T72.setTop (mkF m 105 #[.val (.int p1), .val (.ref b2), .unset, .unset, .unset, .unset, .unset] [(.int (10 : Int32))]))
    refine Go.st (fun _ kk => XS.istoreN X72.here hx rfl (hb hby at_105) rfl (l' := #[.val (.int p1), .val (.ref b2), .val (.int (10 : Int32)), .unset, .unset, .unset, .unset]) rfl kk) ?_
    show Go p e below _ (T72.setTop (mkF m 106 #[.val (.int p1), .val (.ref b2), .val (.int (10 : Int32)), .unset, .unset, .unset, .unset] []))
    refine Go.st (fun _ kk => XS.aloadN X72.here hx rfl (hb hby at_106) rfl rfl  kk) ?_
    show Go p e below _ (T72.setTop (mkF m 107 #[.val (.int p1), .val (.ref b2), .val (.int (10 : Int32)), .unset, .unset, .unset, .unset] [(.ref b2)]))
    refine Go.st (fun _ kk => XS.iloadN X72.here hx rfl (hb hby at_107) rfl  kk) ?_
    show Go p e below _ (T72.setTop (mkF m 108 #[.val (.int p1), .val (.ref b2), .val (.int (10 : Int32)), .unset, .unset, .unset, .unset] [(.int (10 : Int32)), (.ref b2)]))
    obtain ⟨clq137, Arq137, caq137, saq137, naq137, haq137, gaq137⟩ := V72
    have inq137 : ¬ ((10 : Int32) < 0 ∨ clq137.slots.size ≤ ((10 : Int32)).toNatClampNeg) := inb_of saq137 ⟨by decide, by decide⟩
    have atq137 : clq137.slots[((10 : Int32)).toNatClampNeg]? = some (.ref w_ENTITY_ALREADY_EXISTS) := haq137.at inq137 rfl
    refine Go.st (fun _ kk => X72.aaload hx (j := (10 : Int32)) (v := (.ref w_ENTITY_ALREADY_EXISTS)) (by rw [e72]; exact Arq137.1) (State.isArrayOf_alike hZ.alike Arq137.2.1) rfl Arq137.2.2 inq137 atq137 (g := (mkF m 108 #[.val (.int p1), .val (.ref b2), .val (.int (10 : Int32)), .unset, .unset, .unset, .unset] [(.int (10 : Int32)), (.ref b2)])) rfl rfl (hb hby at_108) _ kk) ?_
    show Go p e below _ (T72.setTop (mkF m 109 #[.val (.int p1), .val (.ref b2), .val (.int (10 : Int32)), .unset, .unset, .unset, .unset] [(.ref w_ENTITY_ALREADY_EXISTS)]))
    refine Go.st (fun _ kk => XS.astoreN X72.here hx rfl (hb hby at_109) rfl rfl (l' := #[.val (.int p1), .val (.ref b2), .val (.int (10 : Int32)), .val (.ref w_ENTITY_ALREADY_EXISTS), .unset, .unset, .unset]) rfl kk) ?_
    show Go p e below _ (T72.setTop (mkF m 110 #[.val (.int p1), .val (.ref b2), .val (.int (10 : Int32)), .val (.ref w_ENTITY_ALREADY_EXISTS), .unset, .unset, .unset] []))
    refine Go.st (fun _ kk => XS.iloadN X72.here hx rfl (hb hby at_110) rfl  kk) ?_
    show Go p e below _ (T72.setTop (mkF m 111 #[.val (.int p1), .val (.ref b2), .val (.int (10 : Int32)), .val (.ref w_ENTITY_ALREADY_EXISTS), .unset, .unset, .unset] [(.int (10 : Int32))]))
    refine Go.st (fun _ kk => XS.bipush X72.here hx rfl (hb hby at_111) kk) ?_
    show Go p e below _ (T72.setTop (mkF m 113 #[.val (.int p1), .val (.ref b2), .val (.int (10 : Int32)), .val (.ref w_ENTITY_ALREADY_EXISTS), .unset, .unset, .unset] [(.int (13 : Int32)), (.int (10 : Int32))]))
    refine Go.st (fun _ kk => XS.icmpNo X72.here hx rfl (hb hby at_113) rfl (feq (by decide : ¬ ((10 : Int32) = (13 : Int32)))).1 kk) ?_
    show Go p e below _ (T72.setTop (mkF m 116 #[.val (.int p1), .val (.ref b2), .val (.int (10 : Int32)), .val (.ref w_ENTITY_ALREADY_EXISTS), .unset, .unset, .unset] []))
    refine Go.st (fun _ kk => XS.iconst X72.here hx rfl (hb hby at_116) kk) ?_
    show Go p e below _ (T72.setTop (mkF m 117 #[.val (.int p1), .val (.ref b2), .val (.int (10 : Int32)), .val (.ref w_ENTITY_ALREADY_EXISTS), .unset, .unset, .unset] [(.int (1 : Int32))]))
    refine Go.st (fun _ kk => XS.goto X72.here hx rfl (pc0 := 117) (pc' := 121) rfl (hb hby at_117) (by decide) (by decide) kk) ?_
    show Go p e below _ (T72.setTop (mkF m 121 #[.val (.int p1), .val (.ref b2), .val (.int (10 : Int32)), .val (.ref w_ENTITY_ALREADY_EXISTS), .unset, .unset, .unset] [(.int (1 : Int32))]))
    refine Go.st (fun _ kk => XS.istore X72.here hx rfl (hb hby at_121) rfl (l' := #[.val (.int p1), .val (.ref b2), .val (.int (10 : Int32)), .val (.ref w_ENTITY_ALREADY_EXISTS), .val (.int (1 : Int32)), .unset, .unset]) rfl kk) ?_
    show Go p e below _ (T72.setTop (mkF m 123 #[.val (.int p1), .val (.ref b2), .val (.int (10 : Int32)), .val (.ref w_ENTITY_ALREADY_EXISTS), .val (.int (1 : Int32)), .unset, .unset] []))
    refine Go.st (fun _ kk => XS.aloadN X72.here hx rfl (hb hby at_123) rfl rfl  kk) ?_
    show Go p e below _ (T72.setTop (mkF m 124 #[.val (.int p1), .val (.ref b2), .val (.int (10 : Int32)), .val (.ref w_ENTITY_ALREADY_EXISTS), .val (.int (1 : Int32)), .unset, .unset] [(.ref w_ENTITY_ALREADY_EXISTS)]))
    have f_138 := (Exa.wr W72 (Exa.wr W67 (Exa.wr W62 (Exa.wr W57 f_56))))
    have f_139 := (F_status_w_ENTITY_ALREADY_EXISTS.keep K72 nin0)
    obtain ⟨cq140, kq140, q140a, q140b, q140c⟩ := isOf hZ e72 f_138
    obtain ⟨_, _, ⟨T140, L140, k140, n140⟩, -, X140, ⟨Lc140, hQ140, l140, y140, z140⟩, st140⟩ := X72.virtualBack hx (y := (⟨"com/example/canny_warden/cannywarden/server/IamError", "sender", "()Z"⟩ : MethodName)) (z := (⟨"com/example/canny_warden/cannywarden/server/IamError", "sender", "()Z"⟩ : MethodName)) hown (mvT hZ (hw _ (List.mem_of_getElem? (i := 33) rfl))) (mvT hZ (hw _ (List.mem_of_getElem? (i := 34) rfl))) (notFace_of_selects (args := #[]) (mvT hZ (hw _ (List.mem_of_getElem? (i := 36) rfl)))) (mvT hZ (hw _ (List.mem_of_getElem? (i := 36) rfl))) (mvT hZ (hw _ (List.mem_of_getElem? (i := 35) rfl))) (by decide) (backOf (W := 0) (rm1_t l Z a0 hw [] w_ENTITY_ALREADY_EXISTS (409 : Int32) h72 n0 (Nat.le_trans Z0 K72.1) f_139 (by decide : ((409 : Int32) < (500 : Int32)))) hZ (hw _ (List.mem_of_getElem? (i := 37) rfl)) (hw _ (List.mem_of_getElem? (i := 3) rfl)) (by decide) (by decide)) q140a q140c (g := (mkF m 124 #[.val (.int p1), .val (.ref b2), .val (.int (10 : Int32)), .val (.ref w_ENTITY_ALREADY_EXISTS), .val (.int (1 : Int32)), .unset, .unset] [(.ref w_ENTITY_ALREADY_EXISTS)])) rfl (by rw [hml]; rfl) (Steps.refl _) (argsL := []) (rest := []) (lenOf pd_0 rfl) rfl (by show 2 * 0 + _ ≤ _; exact Nat.le_of_eq rfl) (hb hby at_124) (fun _ _ => ⟨rfl, e72, (by decide : 1 + 0 ≤ _), (by decide : 14 + 0 ≤ _)⟩)
    dsimp only [Pt.U, Pt.locs, Pt.cells, Pt.slots] at X140 l140 y140 z140 st140 hQ140
    subst l140 y140 z140
    obtain ⟨rfl, N140q, eq140⟩ := hQ140
    have N140 := Fr.app N72 N140q
    refine Go.tr st140 ?_
    show Go p e below _ (T140.setTop (mkF m 127 #[.val (.int p1), .val (.ref b2), .val (.int (10 : Int32)), .val (.ref w_ENTITY_ALREADY_EXISTS), .val (.int (1 : Int32)), .unset, .unset] [(.int (1 : Int32))]))
    refine Go.st (fun _ kk => XS.istore X140.here hx rfl (hb hby at_127) rfl (l' := #[.val (.int p1), .val (.ref b2), .val (.int (10 : Int32)), .val (.ref w_ENTITY_ALREADY_EXISTS), .val (.int (1 : Int32)), .val (.int (1 : Int32)), .unset]) rfl kk) ?_
    show Go p e below _ (T140.setTop (mkF m 129 #[.val (.int p1), .val (.ref b2), .val (.int (10 : Int32)), .val (.ref w_ENTITY_ALREADY_EXISTS), .val (.int (1 : Int32)), .val (.int (1 : Int32)), .unset] []))
    refine Go.st (fun _ kk => XS.aloadN X140.here hx rfl (hb hby at_129) rfl rfl  kk) ?_
    show Go p e below _ (T140.setTop (mkF m 130 #[.val (.int p1), .val (.ref b2), .val (.int (10 : Int32)), .val (.ref w_ENTITY_ALREADY_EXISTS), .val (.int (1 : Int32)), .val (.int (1 : Int32)), .unset] [(.ref w_ENTITY_ALREADY_EXISTS)]))
    obtain ⟨cq141, kq141, q141a, q141b, q141c⟩ := isOf hZ eq140 f_138
    obtain ⟨_, _, ⟨T141, L141, k141, n141⟩, -, X141, ⟨Lc141, hQ141, l141, y141, z141⟩, st141⟩ := X140.virtualBack hx (y := (⟨"com/example/canny_warden/cannywarden/server/IamError", "status", "()I"⟩ : MethodName)) (z := (⟨"com/example/canny_warden/cannywarden/server/IamError", "status", "()I"⟩ : MethodName)) hown (mvT hZ (hw _ (List.mem_of_getElem? (i := 40) rfl))) (mvT hZ (hw _ (List.mem_of_getElem? (i := 41) rfl))) (notFace_of_selects (args := #[]) (mvT hZ (hw _ (List.mem_of_getElem? (i := 43) rfl)))) (mvT hZ (hw _ (List.mem_of_getElem? (i := 43) rfl))) (mvT hZ (hw _ (List.mem_of_getElem? (i := 42) rfl))) (by decide) (backOf (W := 0) (rm2_o l Z a0 hw [] w_ENTITY_ALREADY_EXISTS (409 : Int32) h72 n0 (Nat.le_trans Z0 K72.1) f_139) hZ (hw _ (List.mem_of_getElem? (i := 44) rfl)) (hw _ (List.mem_of_getElem? (i := 3) rfl)) (by decide) (by decide)) q141a q141c (g := (mkF m 130 #[.val (.int p1), .val (.ref b2), .val (.int (10 : Int32)), .val (.ref w_ENTITY_ALREADY_EXISTS), .val (.int (1 : Int32)), .val (.int (1 : Int32)), .unset] [(.ref w_ENTITY_ALREADY_EXISTS)])) rfl (by rw [hml]; rfl) (Steps.refl _) (argsL := []) (rest := []) (lenOf pd_1 rfl) rfl (by show 2 * 0 + _ ≤ _; exact Nat.le_of_eq rfl) (hb hby at_130) (fun _ _ => ⟨rfl, eq140, (by decide : 1 + 0 ≤ _), (by decide : 14 + 0 ≤ _)⟩)
    dsimp only [Pt.U, Pt.locs, Pt.cells, Pt.slots] at X141 l141 y141 z141 st141 hQ141
    subst l141 y141 z141
    obtain ⟨rfl, N141q, eq141⟩ := hQ141
    have N141 := Fr.app N140 N141q
    refine Go.tr st141 ?_
    show Go p e below _ (T141.setTop (mkF m 133 #[.val (.int p1), .val (.ref b2), .val (.int (10 : Int32)), .val (.ref w_ENTITY_ALREADY_EXISTS), .val (.int (1 : Int32)), .val (.int (1 : Int32)), .unset] [(.int (409 : Int32))]))
    refine Go.st (fun _ kk => XS.istore X141.here hx rfl (hb hby at_133) rfl (l' := #[.val (.int p1), .val (.ref b2), .val (.int (10 : Int32)), .val (.ref w_ENTITY_ALREADY_EXISTS), .val (.int (1 : Int32)), .val (.int (1 : Int32)), .val (.int (409 : Int32))]) rfl kk) ?_
    show Go p e below _ (T141.setTop (mkF m 135 #[.val (.int p1), .val (.ref b2), .val (.int (10 : Int32)), .val (.ref w_ENTITY_ALREADY_EXISTS), .val (.int (1 : Int32)), .val (.int (1 : Int32)), .val (.int (409 : Int32))] []))
    refine Go.st (fun _ kk => XS.iload X141.here hx rfl (hb hby at_135) rfl  kk) ?_
    show Go p e below _ (T141.setTop (mkF m 137 #[.val (.int p1), .val (.ref b2), .val (.int (10 : Int32)), .val (.ref w_ENTITY_ALREADY_EXISTS), .val (.int (1 : Int32)), .val (.int (1 : Int32)), .val (.int (409 : Int32))] [(.int (1 : Int32))]))
    refine Go.st (fun _ kk => XS.iload X141.here hx rfl (hb hby at_137) rfl  kk) ?_
    show Go p e below _ (T141.setTop (mkF m 139 #[.val (.int p1), .val (.ref b2), .val (.int (10 : Int32)), .val (.ref w_ENTITY_ALREADY_EXISTS), .val (.int (1 : Int32)), .val (.int (1 : Int32)), .val (.int (409 : Int32))] [(.int (1 : Int32)), (.int (1 : Int32))]))
    refine Go.st (fun _ kk => XS.icmpNo X141.here hx rfl (hb hby at_139) rfl (teq (by decide : ((1 : Int32) = (1 : Int32)))).2 kk) ?_
    show Go p e below _ (T141.setTop (mkF m 142 #[.val (.int p1), .val (.ref b2), .val (.int (10 : Int32)), .val (.ref w_ENTITY_ALREADY_EXISTS), .val (.int (1 : Int32)), .val (.int (1 : Int32)), .val (.int (409 : Int32))] []))
    refine Go.st (fun _ kk => XS.iload X141.here hx rfl (hb hby at_142) rfl  kk) ?_
    show Go p e below _ (T141.setTop (mkF m 144 #[.val (.int p1), .val (.ref b2), .val (.int (10 : Int32)), .val (.ref w_ENTITY_ALREADY_EXISTS), .val (.int (1 : Int32)), .val (.int (1 : Int32)), .val (.int (409 : Int32))] [(.int (1 : Int32))]))
    refine Go.st (fun _ kk => XS.iload X141.here hx rfl (hb hby at_144) rfl  kk) ?_
    show Go p e below _ (T141.setTop (mkF m 146 #[.val (.int p1), .val (.ref b2), .val (.int (10 : Int32)), .val (.ref w_ENTITY_ALREADY_EXISTS), .val (.int (1 : Int32)), .val (.int (1 : Int32)), .val (.int (409 : Int32))] [(.int (409 : Int32)), (.int (1 : Int32))]))
    refine Go.st (fun _ kk => XS.sipush X141.here hx rfl (hb hby at_146) kk) ?_
    show Go p e below _ (T141.setTop (mkF m 149 #[.val (.int p1), .val (.ref b2), .val (.int (10 : Int32)), .val (.ref w_ENTITY_ALREADY_EXISTS), .val (.int (1 : Int32)), .val (.int (1 : Int32)), .val (.int (409 : Int32))] [(.int (500 : Int32)), (.int (409 : Int32)), (.int (1 : Int32))]))
    refine Go.st (fun _ kk => XS.icmpNo X141.here hx rfl (hb hby at_149) rfl (tlt (by decide : ((409 : Int32) < (500 : Int32)))).2.1 kk) ?_
    show Go p e below _ (T141.setTop (mkF m 152 #[.val (.int p1), .val (.ref b2), .val (.int (10 : Int32)), .val (.ref w_ENTITY_ALREADY_EXISTS), .val (.int (1 : Int32)), .val (.int (1 : Int32)), .val (.int (409 : Int32))] [(.int (1 : Int32))]))
    refine Go.st (fun _ kk => XS.iconst X141.here hx rfl (hb hby at_152) kk) ?_
    show Go p e below _ (T141.setTop (mkF m 153 #[.val (.int p1), .val (.ref b2), .val (.int (10 : Int32)), .val (.ref w_ENTITY_ALREADY_EXISTS), .val (.int (1 : Int32)), .val (.int (1 : Int32)), .val (.int (409 : Int32))] [(.int (1 : Int32)), (.int (1 : Int32))]))
    refine Go.st (fun _ kk => XS.goto X141.here hx rfl (pc0 := 153) (pc' := 157) rfl (hb hby at_153) (by decide) (by decide) kk) ?_
    show Go p e below _ (T141.setTop (mkF m 157 #[.val (.int p1), .val (.ref b2), .val (.int (10 : Int32)), .val (.ref w_ENTITY_ALREADY_EXISTS), .val (.int (1 : Int32)), .val (.int (1 : Int32)), .val (.int (409 : Int32))] [(.int (1 : Int32)), (.int (1 : Int32))]))
    refine Go.st (fun _ kk => XS.icmpNo X141.here hx rfl (hb hby at_157) rfl (teq (by decide : ((1 : Int32) = (1 : Int32)))).2 kk) ?_
    show Go p e below _ (T141.setTop (mkF m 160 #[.val (.int p1), .val (.ref b2), .val (.int (10 : Int32)), .val (.ref w_ENTITY_ALREADY_EXISTS), .val (.int (1 : Int32)), .val (.int (1 : Int32)), .val (.int (409 : Int32))] []))
    refine Go.st (fun _ kk => XS.iconst X141.here hx rfl (hb hby at_160) kk) ?_
    show Go p e below _ (T141.setTop (mkF m 161 #[.val (.int p1), .val (.ref b2), .val (.int (10 : Int32)), .val (.ref w_ENTITY_ALREADY_EXISTS), .val (.int (1 : Int32)), .val (.int (1 : Int32)), .val (.int (409 : Int32))] [(.int (1 : Int32))]))
    refine Go.st (fun _ kk => XS.goto X141.here hx rfl (pc0 := 161) (pc' := 165) rfl (hb hby at_161) (by decide) (by decide) kk) ?_
    show Go p e below _ (T141.setTop (mkF m 165 #[.val (.int p1), .val (.ref b2), .val (.int (10 : Int32)), .val (.ref w_ENTITY_ALREADY_EXISTS), .val (.int (1 : Int32)), .val (.int (1 : Int32)), .val (.int (409 : Int32))] [(.int (1 : Int32))]))
    exact Go.ret (Q := Q0 n0) X141 (v := some (.int (1 : Int32))) (fun h => by rw [Bd.returns] at h; cases h) Bd.notSynchronized (fun fs hr => retN X141 hx (t := .boolean) Bd.returns (by simp) (hb hby at_165) hr) eq141 ⟨rfl, N141⟩ (by decide) (by decide)
  · skip
    rw [hk84]
    show Go p e below _ (T72.setTop (mkF m 105 #[.val (.int p1), .val (.ref b2), .unset, .unset, .unset, .unset, .unset] [(.int (11 : Int32))]))
    refine Go.st (fun _ kk => XS.istoreN X72.here hx rfl (hb hby at_105) rfl (l' := #[.val (.int p1), .val (.ref b2), .val (.int (11 : Int32)), .unset, .unset, .unset, .unset]) rfl kk) ?_
    show Go p e below _ (T72.setTop (mkF m 106 #[.val (.int p1), .val (.ref b2), .val (.int (11 : Int32)), .unset, .unset, .unset, .unset] []))
    refine Go.st (fun _ kk => XS.aloadN X72.here hx rfl (hb hby at_106) rfl rfl  kk) ?_
    show Go p e below _ (T72.setTop (mkF m 107 #[.val (.int p1), .val (.ref b2), .val (.int (11 : Int32)), .unset, .unset, .unset, .unset] [(.ref b2)]))
    refine Go.st (fun _ kk => XS.iloadN X72.here hx rfl (hb hby at_107) rfl  kk) ?_
    show Go p e below _ (T72.setTop (mkF m 108 #[.val (.int p1), .val (.ref b2), .val (.int (11 : Int32)), .unset, .unset, .unset, .unset] [(.int (11 : Int32)), (.ref b2)]))
    obtain ⟨clq142, Arq142, caq142, saq142, naq142, haq142, gaq142⟩ := V72
    have inq142 : ¬ ((11 : Int32) < 0 ∨ clq142.slots.size ≤ ((11 : Int32)).toNatClampNeg) := inb_of saq142 ⟨by decide, by decide⟩
    have atq142 : clq142.slots[((11 : Int32)).toNatClampNeg]? = some (.ref w_DELETE_CONFLICT) := haq142.at inq142 rfl
    refine Go.st (fun _ kk => X72.aaload hx (j := (11 : Int32)) (v := (.ref w_DELETE_CONFLICT)) (by rw [e72]; exact Arq142.1) (State.isArrayOf_alike hZ.alike Arq142.2.1) rfl Arq142.2.2 inq142 atq142 (g := (mkF m 108 #[.val (.int p1), .val (.ref b2), .val (.int (11 : Int32)), .unset, .unset, .unset, .unset] [(.int (11 : Int32)), (.ref b2)])) rfl rfl (hb hby at_108) _ kk) ?_
    show Go p e below _ (T72.setTop (mkF m 109 #[.val (.int p1), .val (.ref b2), .val (.int (11 : Int32)), .unset, .unset, .unset, .unset] [(.ref w_DELETE_CONFLICT)]))
    refine Go.st (fun _ kk => XS.astoreN X72.here hx rfl (hb hby at_109) rfl rfl (l' := #[.val (.int p1), .val (.ref b2), .val (.int (11 : Int32)), .val (.ref w_DELETE_CONFLICT), .unset, .unset, .unset]) rfl kk) ?_
    show Go p e below _ (T72.setTop (mkF m 110 #[.val (.int p1), .val (.ref b2), .val (.int (11 : Int32)), .val (.ref w_DELETE_CONFLICT), .unset, .unset, .unset] []))
    refine Go.st (fun _ kk => XS.iloadN X72.here hx rfl (hb hby at_110) rfl  kk) ?_
    show Go p e below _ (T72.setTop (mkF m 111 #[.val (.int p1), .val (.ref b2), .val (.int (11 : Int32)), .val (.ref w_DELETE_CONFLICT), .unset, .unset, .unset] [(.int (11 : Int32))]))
    refine Go.st (fun _ kk => XS.bipush X72.here hx rfl (hb hby at_111) kk) ?_
    show Go p e below _ (T72.setTop (mkF m 113 #[.val (.int p1), .val (.ref b2), .val (.int (11 : Int32)), .val (.ref w_DELETE_CONFLICT), .unset, .unset, .unset] [(.int (13 : Int32)), (.int (11 : Int32))]))
    refine Go.st (fun _ kk => XS.icmpNo X72.here hx rfl (hb hby at_113) rfl (feq (by decide : ¬ ((11 : Int32) = (13 : Int32)))).1 kk) ?_
    show Go p e below _ (T72.setTop (mkF m 116 #[.val (.int p1), .val (.ref b2), .val (.int (11 : Int32)), .val (.ref w_DELETE_CONFLICT), .unset, .unset, .unset] []))
    refine Go.st (fun _ kk => XS.iconst X72.here hx rfl (hb hby at_116) kk) ?_
    show Go p e below _ (T72.setTop (mkF m 117 #[.val (.int p1), .val (.ref b2), .val (.int (11 : Int32)), .val (.ref w_DELETE_CONFLICT), .unset, .unset, .unset] [(.int (1 : Int32))]))
    refine Go.st (fun _ kk => XS.goto X72.here hx rfl (pc0 := 117) (pc' := 121) rfl (hb hby at_117) (by decide) (by decide) kk) ?_
    show Go p e below _ (T72.setTop (mkF m 121 #[.val (.int p1), .val (.ref b2), .val (.int (11 : Int32)), .val (.ref w_DELETE_CONFLICT), .unset, .unset, .unset] [(.int (1 : Int32))]))
    refine Go.st (fun _ kk => XS.istore X72.here hx rfl (hb hby at_121) rfl (l' := #[.val (.int p1), .val (.ref b2), .val (.int (11 : Int32)), .val (.ref w_DELETE_CONFLICT), .val (.int (1 : Int32)), .unset, .unset]) rfl kk) ?_
    show Go p e below _ (T72.setTop (mkF m 123 #[.val (.int p1), .val (.ref b2), .val (.int (11 : Int32)), .val (.ref w_DELETE_CONFLICT), .val (.int (1 : Int32)), .unset, .unset] []))
    refine Go.st (fun _ kk => XS.aloadN X72.here hx rfl (hb hby at_123) rfl rfl  kk) ?_
    show Go p e below _ (T72.setTop (mkF m 124 #[.val (.int p1), .val (.ref b2), .val (.int (11 : Int32)), .val (.ref w_DELETE_CONFLICT), .val (.int (1 : Int32)), .unset, .unset] [(.ref w_DELETE_CONFLICT)]))
    have f_143 := (Exa.wr W72 (Exa.wr W67 (Exa.wr W62 f_61)))
    have f_144 := (F_status_w_DELETE_CONFLICT.keep K72 nin0)
    obtain ⟨cq145, kq145, q145a, q145b, q145c⟩ := isOf hZ e72 f_143
    obtain ⟨_, _, ⟨T145, L145, k145, n145⟩, -, X145, ⟨Lc145, hQ145, l145, y145, z145⟩, st145⟩ := X72.virtualBack hx (y := (⟨"com/example/canny_warden/cannywarden/server/IamError", "sender", "()Z"⟩ : MethodName)) (z := (⟨"com/example/canny_warden/cannywarden/server/IamError", "sender", "()Z"⟩ : MethodName)) hown (mvT hZ (hw _ (List.mem_of_getElem? (i := 33) rfl))) (mvT hZ (hw _ (List.mem_of_getElem? (i := 34) rfl))) (notFace_of_selects (args := #[]) (mvT hZ (hw _ (List.mem_of_getElem? (i := 36) rfl)))) (mvT hZ (hw _ (List.mem_of_getElem? (i := 36) rfl))) (mvT hZ (hw _ (List.mem_of_getElem? (i := 35) rfl))) (by decide) (backOf (W := 0) (rm1_t l Z a0 hw [] w_DELETE_CONFLICT (409 : Int32) h72 n0 (Nat.le_trans Z0 K72.1) f_144 (by decide : ((409 : Int32) < (500 : Int32)))) hZ (hw _ (List.mem_of_getElem? (i := 37) rfl)) (hw _ (List.mem_of_getElem? (i := 3) rfl)) (by decide) (by decide)) q145a q145c (g := (mkF m 124 #[.val (.int p1), .val (.ref b2), .val (.int (11 : Int32)), .val (.ref w_DELETE_CONFLICT), .val (.int (1 : Int32)), .unset, .unset] [(.ref w_DELETE_CONFLICT)])) rfl (by rw [hml]; rfl) (Steps.refl _) (argsL := []) (rest := []) (lenOf pd_0 rfl) rfl (by show 2 * 0 + _ ≤ _; exact Nat.le_of_eq rfl) (hb hby at_124) (fun _ _ => ⟨rfl, e72, (by decide : 1 + 0 ≤ _), (by decide : 14 + 0 ≤ _)⟩)
    dsimp only [Pt.U, Pt.locs, Pt.cells, Pt.slots] at X145 l145 y145 z145 st145 hQ145
    subst l145 y145 z145
    obtain ⟨rfl, N145q, eq145⟩ := hQ145
    have N145 := Fr.app N72 N145q
    refine Go.tr st145 ?_
    show Go p e below _ (T145.setTop (mkF m 127 #[.val (.int p1), .val (.ref b2), .val (.int (11 : Int32)), .val (.ref w_DELETE_CONFLICT), .val (.int (1 : Int32)), .unset, .unset] [(.int (1 : Int32))]))
    refine Go.st (fun _ kk => XS.istore X145.here hx rfl (hb hby at_127) rfl (l' := #[.val (.int p1), .val (.ref b2), .val (.int (11 : Int32)), .val (.ref w_DELETE_CONFLICT), .val (.int (1 : Int32)), .val (.int (1 : Int32)), .unset]) rfl kk) ?_
    show Go p e below _ (T145.setTop (mkF m 129 #[.val (.int p1), .val (.ref b2), .val (.int (11 : Int32)), .val (.ref w_DELETE_CONFLICT), .val (.int (1 : Int32)), .val (.int (1 : Int32)), .unset] []))
    refine Go.st (fun _ kk => XS.aloadN X145.here hx rfl (hb hby at_129) rfl rfl  kk) ?_
    show Go p e below _ (T145.setTop (mkF m 130 #[.val (.int p1), .val (.ref b2), .val (.int (11 : Int32)), .val (.ref w_DELETE_CONFLICT), .val (.int (1 : Int32)), .val (.int (1 : Int32)), .unset] [(.ref w_DELETE_CONFLICT)]))
    obtain ⟨cq146, kq146, q146a, q146b, q146c⟩ := isOf hZ eq145 f_143
    obtain ⟨_, _, ⟨T146, L146, k146, n146⟩, -, X146, ⟨Lc146, hQ146, l146, y146, z146⟩, st146⟩ := X145.virtualBack hx (y := (⟨"com/example/canny_warden/cannywarden/server/IamError", "status", "()I"⟩ : MethodName)) (z := (⟨"com/example/canny_warden/cannywarden/server/IamError", "status", "()I"⟩ : MethodName)) hown (mvT hZ (hw _ (List.mem_of_getElem? (i := 40) rfl))) (mvT hZ (hw _ (List.mem_of_getElem? (i := 41) rfl))) (notFace_of_selects (args := #[]) (mvT hZ (hw _ (List.mem_of_getElem? (i := 43) rfl)))) (mvT hZ (hw _ (List.mem_of_getElem? (i := 43) rfl))) (mvT hZ (hw _ (List.mem_of_getElem? (i := 42) rfl))) (by decide) (backOf (W := 0) (rm2_o l Z a0 hw [] w_DELETE_CONFLICT (409 : Int32) h72 n0 (Nat.le_trans Z0 K72.1) f_144) hZ (hw _ (List.mem_of_getElem? (i := 44) rfl)) (hw _ (List.mem_of_getElem? (i := 3) rfl)) (by decide) (by decide)) q146a q146c (g := (mkF m 130 #[.val (.int p1), .val (.ref b2), .val (.int (11 : Int32)), .val (.ref w_DELETE_CONFLICT), .val (.int (1 : Int32)), .val (.int (1 : Int32)), .unset] [(.ref w_DELETE_CONFLICT)])) rfl (by rw [hml]; rfl) (Steps.refl _) (argsL := []) (rest := []) (lenOf pd_1 rfl) rfl (by show 2 * 0 + _ ≤ _; exact Nat.le_of_eq rfl) (hb hby at_130) (fun _ _ => ⟨rfl, eq145, (by decide : 1 + 0 ≤ _), (by decide : 14 + 0 ≤ _)⟩)
    dsimp only [Pt.U, Pt.locs, Pt.cells, Pt.slots] at X146 l146 y146 z146 st146 hQ146
    subst l146 y146 z146
    obtain ⟨rfl, N146q, eq146⟩ := hQ146
    have N146 := Fr.app N145 N146q
    refine Go.tr st146 ?_
    show Go p e below _ (T146.setTop (mkF m 133 #[.val (.int p1), .val (.ref b2), .val (.int (11 : Int32)), .val (.ref w_DELETE_CONFLICT), .val (.int (1 : Int32)), .val (.int (1 : Int32)), .unset] [(.int (409 : Int32))]))
    refine Go.st (fun _ kk => XS.istore X146.here hx rfl (hb hby at_133) rfl (l' := #[.val (.int p1), .val (.ref b2), .val (.int (11 : Int32)), .val (.ref w_DELETE_CONFLICT), .val (.int (1 : Int32)), .val (.int (1 : Int32)), .val (.int (409 : Int32))]) rfl kk) ?_
    show Go p e below _ (T146.setTop (mkF m 135 #[.val (.int p1), .val (.ref b2), .val (.int (11 : Int32)), .val (.ref w_DELETE_CONFLICT), .val (.int (1 : Int32)), .val (.int (1 : Int32)), .val (.int (409 : Int32))] []))
    refine Go.st (fun _ kk => XS.iload X146.here hx rfl (hb hby at_135) rfl  kk) ?_
    show Go p e below _ (T146.setTop (mkF m 137 #[.val (.int p1), .val (.ref b2), .val (.int (11 : Int32)), .val (.ref w_DELETE_CONFLICT), .val (.int (1 : Int32)), .val (.int (1 : Int32)), .val (.int (409 : Int32))] [(.int (1 : Int32))]))
    refine Go.st (fun _ kk => XS.iload X146.here hx rfl (hb hby at_137) rfl  kk) ?_
    show Go p e below _ (T146.setTop (mkF m 139 #[.val (.int p1), .val (.ref b2), .val (.int (11 : Int32)), .val (.ref w_DELETE_CONFLICT), .val (.int (1 : Int32)), .val (.int (1 : Int32)), .val (.int (409 : Int32))] [(.int (1 : Int32)), (.int (1 : Int32))]))
    refine Go.st (fun _ kk => XS.icmpNo X146.here hx rfl (hb hby at_139) rfl (teq (by decide : ((1 : Int32) = (1 : Int32)))).2 kk) ?_
    show Go p e below _ (T146.setTop (mkF m 142 #[.val (.int p1), .val (.ref b2), .val (.int (11 : Int32)), .val (.ref w_DELETE_CONFLICT), .val (.int (1 : Int32)), .val (.int (1 : Int32)), .val (.int (409 : Int32))] []))
    refine Go.st (fun _ kk => XS.iload X146.here hx rfl (hb hby at_142) rfl  kk) ?_
    show Go p e below _ (T146.setTop (mkF m 144 #[.val (.int p1), .val (.ref b2), .val (.int (11 : Int32)), .val (.ref w_DELETE_CONFLICT), .val (.int (1 : Int32)), .val (.int (1 : Int32)), .val (.int (409 : Int32))] [(.int (1 : Int32))]))
    refine Go.st (fun _ kk => XS.iload X146.here hx rfl (hb hby at_144) rfl  kk) ?_
    show Go p e below _ (T146.setTop (mkF m 146 #[.val (.int p1), .val (.ref b2), .val (.int (11 : Int32)), .val (.ref w_DELETE_CONFLICT), .val (.int (1 : Int32)), .val (.int (1 : Int32)), .val (.int (409 : Int32))] [(.int (409 : Int32)), (.int (1 : Int32))]))
    refine Go.st (fun _ kk => XS.sipush X146.here hx rfl (hb hby at_146) kk) ?_
    show Go p e below _ (T146.setTop (mkF m 149 #[.val (.int p1), .val (.ref b2), .val (.int (11 : Int32)), .val (.ref w_DELETE_CONFLICT), .val (.int (1 : Int32)), .val (.int (1 : Int32)), .val (.int (409 : Int32))] [(.int (500 : Int32)), (.int (409 : Int32)), (.int (1 : Int32))]))
    refine Go.st (fun _ kk => XS.icmpNo X146.here hx rfl (hb hby at_149) rfl (tlt (by decide : ((409 : Int32) < (500 : Int32)))).2.1 kk) ?_
    show Go p e below _ (T146.setTop (mkF m 152 #[.val (.int p1), .val (.ref b2), .val (.int (11 : Int32)), .val (.ref w_DELETE_CONFLICT), .val (.int (1 : Int32)), .val (.int (1 : Int32)), .val (.int (409 : Int32))] [(.int (1 : Int32))]))
    refine Go.st (fun _ kk => XS.iconst X146.here hx rfl (hb hby at_152) kk) ?_
    show Go p e below _ (T146.setTop (mkF m 153 #[.val (.int p1), .val (.ref b2), .val (.int (11 : Int32)), .val (.ref w_DELETE_CONFLICT), .val (.int (1 : Int32)), .val (.int (1 : Int32)), .val (.int (409 : Int32))] [(.int (1 : Int32)), (.int (1 : Int32))]))
    refine Go.st (fun _ kk => XS.goto X146.here hx rfl (pc0 := 153) (pc' := 157) rfl (hb hby at_153) (by decide) (by decide) kk) ?_
    show Go p e below _ (T146.setTop (mkF m 157 #[.val (.int p1), .val (.ref b2), .val (.int (11 : Int32)), .val (.ref w_DELETE_CONFLICT), .val (.int (1 : Int32)), .val (.int (1 : Int32)), .val (.int (409 : Int32))] [(.int (1 : Int32)), (.int (1 : Int32))]))
    refine Go.st (fun _ kk => XS.icmpNo X146.here hx rfl (hb hby at_157) rfl (teq (by decide : ((1 : Int32) = (1 : Int32)))).2 kk) ?_
    show Go p e below _ (T146.setTop (mkF m 160 #[.val (.int p1), .val (.ref b2), .val (.int (11 : Int32)), .val (.ref w_DELETE_CONFLICT), .val (.int (1 : Int32)), .val (.int (1 : Int32)), .val (.int (409 : Int32))] []))
    refine Go.st (fun _ kk => XS.iconst X146.here hx rfl (hb hby at_160) kk) ?_
    show Go p e below _ (T146.setTop (mkF m 161 #[.val (.int p1), .val (.ref b2), .val (.int (11 : Int32)), .val (.ref w_DELETE_CONFLICT), .val (.int (1 : Int32)), .val (.int (1 : Int32)), .val (.int (409 : Int32))] [(.int (1 : Int32))]))
    refine Go.st (fun _ kk => XS.goto X146.here hx rfl (pc0 := 161) (pc' := 165) rfl (hb hby at_161) (by decide) (by decide) kk) ?_
    show Go p e below _ (T146.setTop (mkF m 165 #[.val (.int p1), .val (.ref b2), .val (.int (11 : Int32)), .val (.ref w_DELETE_CONFLICT), .val (.int (1 : Int32)), .val (.int (1 : Int32)), .val (.int (409 : Int32))] [(.int (1 : Int32))]))
    exact Go.ret (Q := Q0 n0) X146 (v := some (.int (1 : Int32))) (fun h => by rw [Bd.returns] at h; cases h) Bd.notSynchronized (fun fs hr => retN X146 hx (t := .boolean) Bd.returns (by simp) (hb hby at_165) hr) eq146 ⟨rfl, N146⟩ (by decide) (by decide)
  · skip
    rw [hk85]
    show Go p e below _ (T72.setTop (mkF m 105 #[.val (.int p1), .val (.ref b2), .unset, .unset, .unset, .unset, .unset] [(.int (12 : Int32))]))
    refine Go.st (fun _ kk => XS.istoreN X72.here hx rfl (hb hby at_105) rfl (l' := #[.val (.int p1), .val (.ref b2), .val (.int (12 : Int32)), .unset, .unset, .unset, .unset]) rfl kk) ?_
    show Go p e below _ (T72.setTop (mkF m 106 #[.val (.int p1), .val (.ref b2), .val (.int (12 : Int32)), .unset, .unset, .unset, .unset] []))
    refine Go.st (fun _ kk => XS.aloadN X72.here hx rfl (hb hby at_106) rfl rfl  kk) ?_
    show Go p e below _ (T72.setTop (mkF m 107 #[.val (.int p1), .val (.ref b2), .val (.int (12 : Int32)), .unset, .unset, .unset, .unset] [(.ref b2)]))
    refine Go.st (fun _ kk => XS.iloadN X72.here hx rfl (hb hby at_107) rfl  kk) ?_
    show Go p e below _ (T72.setTop (mkF m 108 #[.val (.int p1), .val (.ref b2), .val (.int (12 : Int32)), .unset, .unset, .unset, .unset] [(.int (12 : Int32)), (.ref b2)]))
    obtain ⟨clq147, Arq147, caq147, saq147, naq147, haq147, gaq147⟩ := V72
    have inq147 : ¬ ((12 : Int32) < 0 ∨ clq147.slots.size ≤ ((12 : Int32)).toNatClampNeg) := inb_of saq147 ⟨by decide, by decide⟩
    have atq147 : clq147.slots[((12 : Int32)).toNatClampNeg]? = some (.ref w_LIMIT_EXCEEDED) := haq147.at inq147 rfl
    refine Go.st (fun _ kk => X72.aaload hx (j := (12 : Int32)) (v := (.ref w_LIMIT_EXCEEDED)) (by rw [e72]; exact Arq147.1) (State.isArrayOf_alike hZ.alike Arq147.2.1) rfl Arq147.2.2 inq147 atq147 (g := (mkF m 108 #[.val (.int p1), .val (.ref b2), .val (.int (12 : Int32)), .unset, .unset, .unset, .unset] [(.int (12 : Int32)), (.ref b2)])) rfl rfl (hb hby at_108) _ kk) ?_
    show Go p e below _ (T72.setTop (mkF m 109 #[.val (.int p1), .val (.ref b2), .val (.int (12 : Int32)), .unset, .unset, .unset, .unset] [(.ref w_LIMIT_EXCEEDED)]))
    refine Go.st (fun _ kk => XS.astoreN X72.here hx rfl (hb hby at_109) rfl rfl (l' := #[.val (.int p1), .val (.ref b2), .val (.int (12 : Int32)), .val (.ref w_LIMIT_EXCEEDED), .unset, .unset, .unset]) rfl kk) ?_
    show Go p e below _ (T72.setTop (mkF m 110 #[.val (.int p1), .val (.ref b2), .val (.int (12 : Int32)), .val (.ref w_LIMIT_EXCEEDED), .unset, .unset, .unset] []))
    refine Go.st (fun _ kk => XS.iloadN X72.here hx rfl (hb hby at_110) rfl  kk) ?_
    show Go p e below _ (T72.setTop (mkF m 111 #[.val (.int p1), .val (.ref b2), .val (.int (12 : Int32)), .val (.ref w_LIMIT_EXCEEDED), .unset, .unset, .unset] [(.int (12 : Int32))]))
    refine Go.st (fun _ kk => XS.bipush X72.here hx rfl (hb hby at_111) kk) ?_
    show Go p e below _ (T72.setTop (mkF m 113 #[.val (.int p1), .val (.ref b2), .val (.int (12 : Int32)), .val (.ref w_LIMIT_EXCEEDED), .unset, .unset, .unset] [(.int (13 : Int32)), (.int (12 : Int32))]))
    refine Go.st (fun _ kk => XS.icmpNo X72.here hx rfl (hb hby at_113) rfl (feq (by decide : ¬ ((12 : Int32) = (13 : Int32)))).1 kk) ?_
    show Go p e below _ (T72.setTop (mkF m 116 #[.val (.int p1), .val (.ref b2), .val (.int (12 : Int32)), .val (.ref w_LIMIT_EXCEEDED), .unset, .unset, .unset] []))
    refine Go.st (fun _ kk => XS.iconst X72.here hx rfl (hb hby at_116) kk) ?_
    show Go p e below _ (T72.setTop (mkF m 117 #[.val (.int p1), .val (.ref b2), .val (.int (12 : Int32)), .val (.ref w_LIMIT_EXCEEDED), .unset, .unset, .unset] [(.int (1 : Int32))]))
    refine Go.st (fun _ kk => XS.goto X72.here hx rfl (pc0 := 117) (pc' := 121) rfl (hb hby at_117) (by decide) (by decide) kk) ?_
    show Go p e below _ (T72.setTop (mkF m 121 #[.val (.int p1), .val (.ref b2), .val (.int (12 : Int32)), .val (.ref w_LIMIT_EXCEEDED), .unset, .unset, .unset] [(.int (1 : Int32))]))
    refine Go.st (fun _ kk => XS.istore X72.here hx rfl (hb hby at_121) rfl (l' := #[.val (.int p1), .val (.ref b2), .val (.int (12 : Int32)), .val (.ref w_LIMIT_EXCEEDED), .val (.int (1 : Int32)), .unset, .unset]) rfl kk) ?_
    show Go p e below _ (T72.setTop (mkF m 123 #[.val (.int p1), .val (.ref b2), .val (.int (12 : Int32)), .val (.ref w_LIMIT_EXCEEDED), .val (.int (1 : Int32)), .unset, .unset] []))
    refine Go.st (fun _ kk => XS.aloadN X72.here hx rfl (hb hby at_123) rfl rfl  kk) ?_
    show Go p e below _ (T72.setTop (mkF m 124 #[.val (.int p1), .val (.ref b2), .val (.int (12 : Int32)), .val (.ref w_LIMIT_EXCEEDED), .val (.int (1 : Int32)), .unset, .unset] [(.ref w_LIMIT_EXCEEDED)]))
    have f_148 := (Exa.wr W72 (Exa.wr W67 f_66))
    have f_149 := (F_status_w_LIMIT_EXCEEDED.keep K72 nin0)
    obtain ⟨cq150, kq150, q150a, q150b, q150c⟩ := isOf hZ e72 f_148
    obtain ⟨_, _, ⟨T150, L150, k150, n150⟩, -, X150, ⟨Lc150, hQ150, l150, y150, z150⟩, st150⟩ := X72.virtualBack hx (y := (⟨"com/example/canny_warden/cannywarden/server/IamError", "sender", "()Z"⟩ : MethodName)) (z := (⟨"com/example/canny_warden/cannywarden/server/IamError", "sender", "()Z"⟩ : MethodName)) hown (mvT hZ (hw _ (List.mem_of_getElem? (i := 33) rfl))) (mvT hZ (hw _ (List.mem_of_getElem? (i := 34) rfl))) (notFace_of_selects (args := #[]) (mvT hZ (hw _ (List.mem_of_getElem? (i := 36) rfl)))) (mvT hZ (hw _ (List.mem_of_getElem? (i := 36) rfl))) (mvT hZ (hw _ (List.mem_of_getElem? (i := 35) rfl))) (by decide) (backOf (W := 0) (rm1_t l Z a0 hw [] w_LIMIT_EXCEEDED (409 : Int32) h72 n0 (Nat.le_trans Z0 K72.1) f_149 (by decide : ((409 : Int32) < (500 : Int32)))) hZ (hw _ (List.mem_of_getElem? (i := 37) rfl)) (hw _ (List.mem_of_getElem? (i := 3) rfl)) (by decide) (by decide)) q150a q150c (g := (mkF m 124 #[.val (.int p1), .val (.ref b2), .val (.int (12 : Int32)), .val (.ref w_LIMIT_EXCEEDED), .val (.int (1 : Int32)), .unset, .unset] [(.ref w_LIMIT_EXCEEDED)])) rfl (by rw [hml]; rfl) (Steps.refl _) (argsL := []) (rest := []) (lenOf pd_0 rfl) rfl (by show 2 * 0 + _ ≤ _; exact Nat.le_of_eq rfl) (hb hby at_124) (fun _ _ => ⟨rfl, e72, (by decide : 1 + 0 ≤ _), (by decide : 14 + 0 ≤ _)⟩)
    dsimp only [Pt.U, Pt.locs, Pt.cells, Pt.slots] at X150 l150 y150 z150 st150 hQ150
    subst l150 y150 z150
    obtain ⟨rfl, N150q, eq150⟩ := hQ150
    have N150 := Fr.app N72 N150q
    refine Go.tr st150 ?_
    show Go p e below _ (T150.setTop (mkF m 127 #[.val (.int p1), .val (.ref b2), .val (.int (12 : Int32)), .val (.ref w_LIMIT_EXCEEDED), .val (.int (1 : Int32)), .unset, .unset] [(.int (1 : Int32))]))
    refine Go.st (fun _ kk => XS.istore X150.here hx rfl (hb hby at_127) rfl (l' := #[.val (.int p1), .val (.ref b2), .val (.int (12 : Int32)), .val (.ref w_LIMIT_EXCEEDED), .val (.int (1 : Int32)), .val (.int (1 : Int32)), .unset]) rfl kk) ?_
    show Go p e below _ (T150.setTop (mkF m 129 #[.val (.int p1), .val (.ref b2), .val (.int (12 : Int32)), .val (.ref w_LIMIT_EXCEEDED), .val (.int (1 : Int32)), .val (.int (1 : Int32)), .unset] []))
    refine Go.st (fun _ kk => XS.aloadN X150.here hx rfl (hb hby at_129) rfl rfl  kk) ?_
    show Go p e below _ (T150.setTop (mkF m 130 #[.val (.int p1), .val (.ref b2), .val (.int (12 : Int32)), .val (.ref w_LIMIT_EXCEEDED), .val (.int (1 : Int32)), .val (.int (1 : Int32)), .unset] [(.ref w_LIMIT_EXCEEDED)]))
    obtain ⟨cq151, kq151, q151a, q151b, q151c⟩ := isOf hZ eq150 f_148
    obtain ⟨_, _, ⟨T151, L151, k151, n151⟩, -, X151, ⟨Lc151, hQ151, l151, y151, z151⟩, st151⟩ := X150.virtualBack hx (y := (⟨"com/example/canny_warden/cannywarden/server/IamError", "status", "()I"⟩ : MethodName)) (z := (⟨"com/example/canny_warden/cannywarden/server/IamError", "status", "()I"⟩ : MethodName)) hown (mvT hZ (hw _ (List.mem_of_getElem? (i := 40) rfl))) (mvT hZ (hw _ (List.mem_of_getElem? (i := 41) rfl))) (notFace_of_selects (args := #[]) (mvT hZ (hw _ (List.mem_of_getElem? (i := 43) rfl)))) (mvT hZ (hw _ (List.mem_of_getElem? (i := 43) rfl))) (mvT hZ (hw _ (List.mem_of_getElem? (i := 42) rfl))) (by decide) (backOf (W := 0) (rm2_o l Z a0 hw [] w_LIMIT_EXCEEDED (409 : Int32) h72 n0 (Nat.le_trans Z0 K72.1) f_149) hZ (hw _ (List.mem_of_getElem? (i := 44) rfl)) (hw _ (List.mem_of_getElem? (i := 3) rfl)) (by decide) (by decide)) q151a q151c (g := (mkF m 130 #[.val (.int p1), .val (.ref b2), .val (.int (12 : Int32)), .val (.ref w_LIMIT_EXCEEDED), .val (.int (1 : Int32)), .val (.int (1 : Int32)), .unset] [(.ref w_LIMIT_EXCEEDED)])) rfl (by rw [hml]; rfl) (Steps.refl _) (argsL := []) (rest := []) (lenOf pd_1 rfl) rfl (by show 2 * 0 + _ ≤ _; exact Nat.le_of_eq rfl) (hb hby at_130) (fun _ _ => ⟨rfl, eq150, (by decide : 1 + 0 ≤ _), (by decide : 14 + 0 ≤ _)⟩)
    dsimp only [Pt.U, Pt.locs, Pt.cells, Pt.slots] at X151 l151 y151 z151 st151 hQ151
    subst l151 y151 z151
    obtain ⟨rfl, N151q, eq151⟩ := hQ151
    have N151 := Fr.app N150 N151q
    refine Go.tr st151 ?_
    show Go p e below _ (T151.setTop (mkF m 133 #[.val (.int p1), .val (.ref b2), .val (.int (12 : Int32)), .val (.ref w_LIMIT_EXCEEDED), .val (.int (1 : Int32)), .val (.int (1 : Int32)), .unset] [(.int (409 : Int32))]))
    refine Go.st (fun _ kk => XS.istore X151.here hx rfl (hb hby at_133) rfl (l' := #[.val (.int p1), .val (.ref b2), .val (.int (12 : Int32)), .val (.ref w_LIMIT_EXCEEDED), .val (.int (1 : Int32)), .val (.int (1 : Int32)), .val (.int (409 : Int32))]) rfl kk) ?_
    show Go p e below _ (T151.setTop (mkF m 135 #[.val (.int p1), .val (.ref b2), .val (.int (12 : Int32)), .val (.ref w_LIMIT_EXCEEDED), .val (.int (1 : Int32)), .val (.int (1 : Int32)), .val (.int (409 : Int32))] []))
    refine Go.st (fun _ kk => XS.iload X151.here hx rfl (hb hby at_135) rfl  kk) ?_
    show Go p e below _ (T151.setTop (mkF m 137 #[.val (.int p1), .val (.ref b2), .val (.int (12 : Int32)), .val (.ref w_LIMIT_EXCEEDED), .val (.int (1 : Int32)), .val (.int (1 : Int32)), .val (.int (409 : Int32))] [(.int (1 : Int32))]))
    refine Go.st (fun _ kk => XS.iload X151.here hx rfl (hb hby at_137) rfl  kk) ?_
    show Go p e below _ (T151.setTop (mkF m 139 #[.val (.int p1), .val (.ref b2), .val (.int (12 : Int32)), .val (.ref w_LIMIT_EXCEEDED), .val (.int (1 : Int32)), .val (.int (1 : Int32)), .val (.int (409 : Int32))] [(.int (1 : Int32)), (.int (1 : Int32))]))
    refine Go.st (fun _ kk => XS.icmpNo X151.here hx rfl (hb hby at_139) rfl (teq (by decide : ((1 : Int32) = (1 : Int32)))).2 kk) ?_
    show Go p e below _ (T151.setTop (mkF m 142 #[.val (.int p1), .val (.ref b2), .val (.int (12 : Int32)), .val (.ref w_LIMIT_EXCEEDED), .val (.int (1 : Int32)), .val (.int (1 : Int32)), .val (.int (409 : Int32))] []))
    refine Go.st (fun _ kk => XS.iload X151.here hx rfl (hb hby at_142) rfl  kk) ?_
    show Go p e below _ (T151.setTop (mkF m 144 #[.val (.int p1), .val (.ref b2), .val (.int (12 : Int32)), .val (.ref w_LIMIT_EXCEEDED), .val (.int (1 : Int32)), .val (.int (1 : Int32)), .val (.int (409 : Int32))] [(.int (1 : Int32))]))
    refine Go.st (fun _ kk => XS.iload X151.here hx rfl (hb hby at_144) rfl  kk) ?_
    show Go p e below _ (T151.setTop (mkF m 146 #[.val (.int p1), .val (.ref b2), .val (.int (12 : Int32)), .val (.ref w_LIMIT_EXCEEDED), .val (.int (1 : Int32)), .val (.int (1 : Int32)), .val (.int (409 : Int32))] [(.int (409 : Int32)), (.int (1 : Int32))]))
    refine Go.st (fun _ kk => XS.sipush X151.here hx rfl (hb hby at_146) kk) ?_
    show Go p e below _ (T151.setTop (mkF m 149 #[.val (.int p1), .val (.ref b2), .val (.int (12 : Int32)), .val (.ref w_LIMIT_EXCEEDED), .val (.int (1 : Int32)), .val (.int (1 : Int32)), .val (.int (409 : Int32))] [(.int (500 : Int32)), (.int (409 : Int32)), (.int (1 : Int32))]))
    refine Go.st (fun _ kk => XS.icmpNo X151.here hx rfl (hb hby at_149) rfl (tlt (by decide : ((409 : Int32) < (500 : Int32)))).2.1 kk) ?_
    show Go p e below _ (T151.setTop (mkF m 152 #[.val (.int p1), .val (.ref b2), .val (.int (12 : Int32)), .val (.ref w_LIMIT_EXCEEDED), .val (.int (1 : Int32)), .val (.int (1 : Int32)), .val (.int (409 : Int32))] [(.int (1 : Int32))]))
    refine Go.st (fun _ kk => XS.iconst X151.here hx rfl (hb hby at_152) kk) ?_
    show Go p e below _ (T151.setTop (mkF m 153 #[.val (.int p1), .val (.ref b2), .val (.int (12 : Int32)), .val (.ref w_LIMIT_EXCEEDED), .val (.int (1 : Int32)), .val (.int (1 : Int32)), .val (.int (409 : Int32))] [(.int (1 : Int32)), (.int (1 : Int32))]))
    refine Go.st (fun _ kk => XS.goto X151.here hx rfl (pc0 := 153) (pc' := 157) rfl (hb hby at_153) (by decide) (by decide) kk) ?_
    show Go p e below _ (T151.setTop (mkF m 157 #[.val (.int p1), .val (.ref b2), .val (.int (12 : Int32)), .val (.ref w_LIMIT_EXCEEDED), .val (.int (1 : Int32)), .val (.int (1 : Int32)), .val (.int (409 : Int32))] [(.int (1 : Int32)), (.int (1 : Int32))]))
    refine Go.st (fun _ kk => XS.icmpNo X151.here hx rfl (hb hby at_157) rfl (teq (by decide : ((1 : Int32) = (1 : Int32)))).2 kk) ?_
    show Go p e below _ (T151.setTop (mkF m 160 #[.val (.int p1), .val (.ref b2), .val (.int (12 : Int32)), .val (.ref w_LIMIT_EXCEEDED), .val (.int (1 : Int32)), .val (.int (1 : Int32)), .val (.int (409 : Int32))] []))
    refine Go.st (fun _ kk => XS.iconst X151.here hx rfl (hb hby at_160) kk) ?_
    show Go p e below _ (T151.setTop (mkF m 161 #[.val (.int p1), .val (.ref b2), .val (.int (12 : Int32)), .val (.ref w_LIMIT_EXCEEDED), .val (.int (1 : Int32)), .val (.int (1 : Int32)), .val (.int (409 : Int32))] [(.int (1 : Int32))]))
    refine Go.st (fun _ kk => XS.goto X151.here hx rfl (pc0 := 161) (pc' := 165) rfl (hb hby at_161) (by decide) (by decide) kk) ?_
    show Go p e below _ (T151.setTop (mkF m 165 #[.val (.int p1), .val (.ref b2), .val (.int (12 : Int32)), .val (.ref w_LIMIT_EXCEEDED), .val (.int (1 : Int32)), .val (.int (1 : Int32)), .val (.int (409 : Int32))] [(.int (1 : Int32))]))
    exact Go.ret (Q := Q0 n0) X151 (v := some (.int (1 : Int32))) (fun h => by rw [Bd.returns] at h; cases h) Bd.notSynchronized (fun fs hr => retN X151 hx (t := .boolean) Bd.returns (by simp) (hb hby at_165) hr) eq151 ⟨rfl, N151⟩ (by decide) (by decide)
  · skip
    rw [hk86]
    show Go p e below _ (T72.setTop (mkF m 105 #[.val (.int p1), .val (.ref b2), .unset, .unset, .unset, .unset, .unset] [(.int (13 : Int32))]))
    refine Go.st (fun _ kk => XS.istoreN X72.here hx rfl (hb hby at_105) rfl (l' := #[.val (.int p1), .val (.ref b2), .val (.int (13 : Int32)), .unset, .unset, .unset, .unset]) rfl kk) ?_
    show Go p e below _ (T72.setTop (mkF m 106 #[.val (.int p1), .val (.ref b2), .val (.int (13 : Int32)), .unset, .unset, .unset, .unset] []))
    refine Go.st (fun _ kk => XS.aloadN X72.here hx rfl (hb hby at_106) rfl rfl  kk) ?_
    show Go p e below _ (T72.setTop (mkF m 107 #[.val (.int p1), .val (.ref b2), .val (.int (13 : Int32)), .unset, .unset, .unset, .unset] [(.ref b2)]))
    refine Go.st (fun _ kk => XS.iloadN X72.here hx rfl (hb hby at_107) rfl  kk) ?_
    show Go p e below _ (T72.setTop (mkF m 108 #[.val (.int p1), .val (.ref b2), .val (.int (13 : Int32)), .unset, .unset, .unset, .unset] [(.int (13 : Int32)), (.ref b2)]))
    obtain ⟨clq152, Arq152, caq152, saq152, naq152, haq152, gaq152⟩ := V72
    have inq152 : ¬ ((13 : Int32) < 0 ∨ clq152.slots.size ≤ ((13 : Int32)).toNatClampNeg) := inb_of saq152 ⟨by decide, by decide⟩
    have atq152 : clq152.slots[((13 : Int32)).toNatClampNeg]? = some (.ref w_SERVICE_FAILURE) := haq152.at inq152 rfl
    refine Go.st (fun _ kk => X72.aaload hx (j := (13 : Int32)) (v := (.ref w_SERVICE_FAILURE)) (by rw [e72]; exact Arq152.1) (State.isArrayOf_alike hZ.alike Arq152.2.1) rfl Arq152.2.2 inq152 atq152 (g := (mkF m 108 #[.val (.int p1), .val (.ref b2), .val (.int (13 : Int32)), .unset, .unset, .unset, .unset] [(.int (13 : Int32)), (.ref b2)])) rfl rfl (hb hby at_108) _ kk) ?_
    show Go p e below _ (T72.setTop (mkF m 109 #[.val (.int p1), .val (.ref b2), .val (.int (13 : Int32)), .unset, .unset, .unset, .unset] [(.ref w_SERVICE_FAILURE)]))
    refine Go.st (fun _ kk => XS.astoreN X72.here hx rfl (hb hby at_109) rfl rfl (l' := #[.val (.int p1), .val (.ref b2), .val (.int (13 : Int32)), .val (.ref w_SERVICE_FAILURE), .unset, .unset, .unset]) rfl kk) ?_
    show Go p e below _ (T72.setTop (mkF m 110 #[.val (.int p1), .val (.ref b2), .val (.int (13 : Int32)), .val (.ref w_SERVICE_FAILURE), .unset, .unset, .unset] []))
    refine Go.st (fun _ kk => XS.iloadN X72.here hx rfl (hb hby at_110) rfl  kk) ?_
    show Go p e below _ (T72.setTop (mkF m 111 #[.val (.int p1), .val (.ref b2), .val (.int (13 : Int32)), .val (.ref w_SERVICE_FAILURE), .unset, .unset, .unset] [(.int (13 : Int32))]))
    refine Go.st (fun _ kk => XS.bipush X72.here hx rfl (hb hby at_111) kk) ?_
    show Go p e below _ (T72.setTop (mkF m 113 #[.val (.int p1), .val (.ref b2), .val (.int (13 : Int32)), .val (.ref w_SERVICE_FAILURE), .unset, .unset, .unset] [(.int (13 : Int32)), (.int (13 : Int32))]))
    refine Go.st (fun _ kk => XS.icmpYes X72.here hx rfl (pc0 := 113) (pc' := 120) rfl (hb hby at_113) rfl (teq (by decide : ((13 : Int32) = (13 : Int32)))).1 (by decide) (by decide) kk) ?_
    show Go p e below _ (T72.setTop (mkF m 120 #[.val (.int p1), .val (.ref b2), .val (.int (13 : Int32)), .val (.ref w_SERVICE_FAILURE), .unset, .unset, .unset] []))
    refine Go.st (fun _ kk => XS.iconst X72.here hx rfl (hb hby at_120) kk) ?_
    show Go p e below _ (T72.setTop (mkF m 121 #[.val (.int p1), .val (.ref b2), .val (.int (13 : Int32)), .val (.ref w_SERVICE_FAILURE), .unset, .unset, .unset] [(.int (0 : Int32))]))
    refine Go.st (fun _ kk => XS.istore X72.here hx rfl (hb hby at_121) rfl (l' := #[.val (.int p1), .val (.ref b2), .val (.int (13 : Int32)), .val (.ref w_SERVICE_FAILURE), .val (.int (0 : Int32)), .unset, .unset]) rfl kk) ?_
    show Go p e below _ (T72.setTop (mkF m 123 #[.val (.int p1), .val (.ref b2), .val (.int (13 : Int32)), .val (.ref w_SERVICE_FAILURE), .val (.int (0 : Int32)), .unset, .unset] []))
    refine Go.st (fun _ kk => XS.aloadN X72.here hx rfl (hb hby at_123) rfl rfl  kk) ?_
    show Go p e below _ (T72.setTop (mkF m 124 #[.val (.int p1), .val (.ref b2), .val (.int (13 : Int32)), .val (.ref w_SERVICE_FAILURE), .val (.int (0 : Int32)), .unset, .unset] [(.ref w_SERVICE_FAILURE)]))
    have f_153 := (Exa.wr W72 f_71)
    have f_154 := (F_status_w_SERVICE_FAILURE.keep K72 nin0)
    obtain ⟨cq155, kq155, q155a, q155b, q155c⟩ := isOf hZ e72 f_153
    obtain ⟨_, _, ⟨T155, L155, k155, n155⟩, -, X155, ⟨Lc155, hQ155, l155, y155, z155⟩, st155⟩ := X72.virtualBack hx (y := (⟨"com/example/canny_warden/cannywarden/server/IamError", "sender", "()Z"⟩ : MethodName)) (z := (⟨"com/example/canny_warden/cannywarden/server/IamError", "sender", "()Z"⟩ : MethodName)) hown (mvT hZ (hw _ (List.mem_of_getElem? (i := 33) rfl))) (mvT hZ (hw _ (List.mem_of_getElem? (i := 34) rfl))) (notFace_of_selects (args := #[]) (mvT hZ (hw _ (List.mem_of_getElem? (i := 36) rfl)))) (mvT hZ (hw _ (List.mem_of_getElem? (i := 36) rfl))) (mvT hZ (hw _ (List.mem_of_getElem? (i := 35) rfl))) (by decide) (backOf (W := 0) (rm1_f l Z a0 hw [] w_SERVICE_FAILURE (500 : Int32) h72 n0 (Nat.le_trans Z0 K72.1) f_154 (by decide : ¬ ((500 : Int32) < (500 : Int32)))) hZ (hw _ (List.mem_of_getElem? (i := 37) rfl)) (hw _ (List.mem_of_getElem? (i := 3) rfl)) (by decide) (by decide)) q155a q155c (g := (mkF m 124 #[.val (.int p1), .val (.ref b2), .val (.int (13 : Int32)), .val (.ref w_SERVICE_FAILURE), .val (.int (0 : Int32)), .unset, .unset] [(.ref w_SERVICE_FAILURE)])) rfl (by rw [hml]; rfl) (Steps.refl _) (argsL := []) (rest := []) (lenOf pd_0 rfl) rfl (by show 2 * 0 + _ ≤ _; exact Nat.le_of_eq rfl) (hb hby at_124) (fun _ _ => ⟨rfl, e72, (by decide : 1 + 0 ≤ _), (by decide : 14 + 0 ≤ _)⟩)
    dsimp only [Pt.U, Pt.locs, Pt.cells, Pt.slots] at X155 l155 y155 z155 st155 hQ155
    subst l155 y155 z155
    obtain ⟨rfl, N155q, eq155⟩ := hQ155
    have N155 := Fr.app N72 N155q
    refine Go.tr st155 ?_
    show Go p e below _ (T155.setTop (mkF m 127 #[.val (.int p1), .val (.ref b2), .val (.int (13 : Int32)), .val (.ref w_SERVICE_FAILURE), .val (.int (0 : Int32)), .unset, .unset] [(.int (0 : Int32))]))
    refine Go.st (fun _ kk => XS.istore X155.here hx rfl (hb hby at_127) rfl (l' := #[.val (.int p1), .val (.ref b2), .val (.int (13 : Int32)), .val (.ref w_SERVICE_FAILURE), .val (.int (0 : Int32)), .val (.int (0 : Int32)), .unset]) rfl kk) ?_
    show Go p e below _ (T155.setTop (mkF m 129 #[.val (.int p1), .val (.ref b2), .val (.int (13 : Int32)), .val (.ref w_SERVICE_FAILURE), .val (.int (0 : Int32)), .val (.int (0 : Int32)), .unset] []))
    refine Go.st (fun _ kk => XS.aloadN X155.here hx rfl (hb hby at_129) rfl rfl  kk) ?_
    show Go p e below _ (T155.setTop (mkF m 130 #[.val (.int p1), .val (.ref b2), .val (.int (13 : Int32)), .val (.ref w_SERVICE_FAILURE), .val (.int (0 : Int32)), .val (.int (0 : Int32)), .unset] [(.ref w_SERVICE_FAILURE)]))
    obtain ⟨cq156, kq156, q156a, q156b, q156c⟩ := isOf hZ eq155 f_153
    obtain ⟨_, _, ⟨T156, L156, k156, n156⟩, -, X156, ⟨Lc156, hQ156, l156, y156, z156⟩, st156⟩ := X155.virtualBack hx (y := (⟨"com/example/canny_warden/cannywarden/server/IamError", "status", "()I"⟩ : MethodName)) (z := (⟨"com/example/canny_warden/cannywarden/server/IamError", "status", "()I"⟩ : MethodName)) hown (mvT hZ (hw _ (List.mem_of_getElem? (i := 40) rfl))) (mvT hZ (hw _ (List.mem_of_getElem? (i := 41) rfl))) (notFace_of_selects (args := #[]) (mvT hZ (hw _ (List.mem_of_getElem? (i := 43) rfl)))) (mvT hZ (hw _ (List.mem_of_getElem? (i := 43) rfl))) (mvT hZ (hw _ (List.mem_of_getElem? (i := 42) rfl))) (by decide) (backOf (W := 0) (rm2_o l Z a0 hw [] w_SERVICE_FAILURE (500 : Int32) h72 n0 (Nat.le_trans Z0 K72.1) f_154) hZ (hw _ (List.mem_of_getElem? (i := 44) rfl)) (hw _ (List.mem_of_getElem? (i := 3) rfl)) (by decide) (by decide)) q156a q156c (g := (mkF m 130 #[.val (.int p1), .val (.ref b2), .val (.int (13 : Int32)), .val (.ref w_SERVICE_FAILURE), .val (.int (0 : Int32)), .val (.int (0 : Int32)), .unset] [(.ref w_SERVICE_FAILURE)])) rfl (by rw [hml]; rfl) (Steps.refl _) (argsL := []) (rest := []) (lenOf pd_1 rfl) rfl (by show 2 * 0 + _ ≤ _; exact Nat.le_of_eq rfl) (hb hby at_130) (fun _ _ => ⟨rfl, eq155, (by decide : 1 + 0 ≤ _), (by decide : 14 + 0 ≤ _)⟩)
    dsimp only [Pt.U, Pt.locs, Pt.cells, Pt.slots] at X156 l156 y156 z156 st156 hQ156
    subst l156 y156 z156
    obtain ⟨rfl, N156q, eq156⟩ := hQ156
    have N156 := Fr.app N155 N156q
    refine Go.tr st156 ?_
    show Go p e below _ (T156.setTop (mkF m 133 #[.val (.int p1), .val (.ref b2), .val (.int (13 : Int32)), .val (.ref w_SERVICE_FAILURE), .val (.int (0 : Int32)), .val (.int (0 : Int32)), .unset] [(.int (500 : Int32))]))
    refine Go.st (fun _ kk => XS.istore X156.here hx rfl (hb hby at_133) rfl (l' := #[.val (.int p1), .val (.ref b2), .val (.int (13 : Int32)), .val (.ref w_SERVICE_FAILURE), .val (.int (0 : Int32)), .val (.int (0 : Int32)), .val (.int (500 : Int32))]) rfl kk) ?_
    show Go p e below _ (T156.setTop (mkF m 135 #[.val (.int p1), .val (.ref b2), .val (.int (13 : Int32)), .val (.ref w_SERVICE_FAILURE), .val (.int (0 : Int32)), .val (.int (0 : Int32)), .val (.int (500 : Int32))] []))
    refine Go.st (fun _ kk => XS.iload X156.here hx rfl (hb hby at_135) rfl  kk) ?_
    show Go p e below _ (T156.setTop (mkF m 137 #[.val (.int p1), .val (.ref b2), .val (.int (13 : Int32)), .val (.ref w_SERVICE_FAILURE), .val (.int (0 : Int32)), .val (.int (0 : Int32)), .val (.int (500 : Int32))] [(.int (0 : Int32))]))
    refine Go.st (fun _ kk => XS.iload X156.here hx rfl (hb hby at_137) rfl  kk) ?_
    show Go p e below _ (T156.setTop (mkF m 139 #[.val (.int p1), .val (.ref b2), .val (.int (13 : Int32)), .val (.ref w_SERVICE_FAILURE), .val (.int (0 : Int32)), .val (.int (0 : Int32)), .val (.int (500 : Int32))] [(.int (0 : Int32)), (.int (0 : Int32))]))
    refine Go.st (fun _ kk => XS.icmpNo X156.here hx rfl (hb hby at_139) rfl (teq (by decide : ((0 : Int32) = (0 : Int32)))).2 kk) ?_
    show Go p e below _ (T156.setTop (mkF m 142 #[.val (.int p1), .val (.ref b2), .val (.int (13 : Int32)), .val (.ref w_SERVICE_FAILURE), .val (.int (0 : Int32)), .val (.int (0 : Int32)), .val (.int (500 : Int32))] []))
    refine Go.st (fun _ kk => XS.iload X156.here hx rfl (hb hby at_142) rfl  kk) ?_
    show Go p e below _ (T156.setTop (mkF m 144 #[.val (.int p1), .val (.ref b2), .val (.int (13 : Int32)), .val (.ref w_SERVICE_FAILURE), .val (.int (0 : Int32)), .val (.int (0 : Int32)), .val (.int (500 : Int32))] [(.int (0 : Int32))]))
    refine Go.st (fun _ kk => XS.iload X156.here hx rfl (hb hby at_144) rfl  kk) ?_
    show Go p e below _ (T156.setTop (mkF m 146 #[.val (.int p1), .val (.ref b2), .val (.int (13 : Int32)), .val (.ref w_SERVICE_FAILURE), .val (.int (0 : Int32)), .val (.int (0 : Int32)), .val (.int (500 : Int32))] [(.int (500 : Int32)), (.int (0 : Int32))]))
    refine Go.st (fun _ kk => XS.sipush X156.here hx rfl (hb hby at_146) kk) ?_
    show Go p e below _ (T156.setTop (mkF m 149 #[.val (.int p1), .val (.ref b2), .val (.int (13 : Int32)), .val (.ref w_SERVICE_FAILURE), .val (.int (0 : Int32)), .val (.int (0 : Int32)), .val (.int (500 : Int32))] [(.int (500 : Int32)), (.int (500 : Int32)), (.int (0 : Int32))]))
    refine Go.st (fun _ kk => XS.icmpYes X156.here hx rfl (pc0 := 149) (pc' := 156) rfl (hb hby at_149) rfl (flt (by decide : ¬ ((500 : Int32) < (500 : Int32)))).2.1 (by decide) (by decide) kk) ?_
    show Go p e below _ (T156.setTop (mkF m 156 #[.val (.int p1), .val (.ref b2), .val (.int (13 : Int32)), .val (.ref w_SERVICE_FAILURE), .val (.int (0 : Int32)), .val (.int (0 : Int32)), .val (.int (500 : Int32))] [(.int (0 : Int32))]))
    refine Go.st (fun _ kk => XS.iconst X156.here hx rfl (hb hby at_156) kk) ?_
    show Go p e below _ (T156.setTop (mkF m 157 #[.val (.int p1), .val (.ref b2), .val (.int (13 : Int32)), .val (.ref w_SERVICE_FAILURE), .val (.int (0 : Int32)), .val (.int (0 : Int32)), .val (.int (500 : Int32))] [(.int (0 : Int32)), (.int (0 : Int32))]))
    refine Go.st (fun _ kk => XS.icmpNo X156.here hx rfl (hb hby at_157) rfl (teq (by decide : ((0 : Int32) = (0 : Int32)))).2 kk) ?_
    show Go p e below _ (T156.setTop (mkF m 160 #[.val (.int p1), .val (.ref b2), .val (.int (13 : Int32)), .val (.ref w_SERVICE_FAILURE), .val (.int (0 : Int32)), .val (.int (0 : Int32)), .val (.int (500 : Int32))] []))
    refine Go.st (fun _ kk => XS.iconst X156.here hx rfl (hb hby at_160) kk) ?_
    show Go p e below _ (T156.setTop (mkF m 161 #[.val (.int p1), .val (.ref b2), .val (.int (13 : Int32)), .val (.ref w_SERVICE_FAILURE), .val (.int (0 : Int32)), .val (.int (0 : Int32)), .val (.int (500 : Int32))] [(.int (1 : Int32))]))
    refine Go.st (fun _ kk => XS.goto X156.here hx rfl (pc0 := 161) (pc' := 165) rfl (hb hby at_161) (by decide) (by decide) kk) ?_
    show Go p e below _ (T156.setTop (mkF m 165 #[.val (.int p1), .val (.ref b2), .val (.int (13 : Int32)), .val (.ref w_SERVICE_FAILURE), .val (.int (0 : Int32)), .val (.int (0 : Int32)), .val (.int (500 : Int32))] [(.int (1 : Int32))]))
    exact Go.ret (Q := Q0 n0) X156 (v := some (.int (1 : Int32))) (fun h => by rw [Bd.returns] at h; cases h) Bd.notSynchronized (fun fs hr => retN X156 hx (t := .boolean) Bd.returns (by simp) (hb hby at_165) hr) eq156 ⟨rfl, N156⟩ (by decide) (by decide)
set_option maxRecDepth 65536 in
set_option maxHeartbeats 40000000 in
theorem comes_1 {Post : Tables → Env → Array Value → State → Outcome → State → Prop} (hpost : ∀ tb e args s v u, (limb_1_1.after args s (.returned v) u = true ∧ limb_1_2.after args s (.returned v) u = true ∧ True) → FrameEnd s (.returned v) u (Jvm.fieldLocs frame_1_writes args s ++ Jvm.arrayLocs frame_1_arrays args s ++ Jvm.staticLocs frame_1_statics s) 16 128 → Post tb e args s (.returned v) u) :
    ArmFor flags0 classFile x code maxLocals ret World_1 tables_1 room_1 Calls_1 rest_1 Pre_1 Post := by
  intro l hfl _ _ p e ha hc hk s m args below hf hA hF happ hP
  obtain ⟨hcalls, hrest, hpre⟩ := hP
  obtain ⟨-, -, -, hnamed, -, -, -, hat⟩ := (Spec.applies_iff hf).mp happ
  obtain ⟨hg, hn⟩ := and_e (Cond.before_iff.mp (show (Jvm.Cond.and given_1 narrow_1).before args s = true from hpre))
  obtain ⟨hcount, hg⟩ := and_e hg
  have hg0 := hg
  obtain ⟨w0, rfl⟩ : ∃ w0 : Value, args = #[w0] := by
    have hs : args.size = 1 := by simpa [Cond.value, given_1] using hcount
    obtain ⟨L⟩ := args
    match L, hs with
    | [w0], _ => exact ⟨w0, rfl⟩
  have hw := fun d (hd : d ∈ tables_1) => atoms_spec (ws := Jvm.Cond.code x code maxLocals ret :: tables_1) hat d (List.mem_cons_of_mem _ hd)
  have hfit : Fit s := fun {y c} hc i hi => by
    obtain ⟨ha, rfl⟩ := Array.getElem?_eq_some_iff.mp hc
    have q := List.all_eq_true.mp ((Array.all_eq_true_iff_forall_mem.mp hF) _ (Array.getElem_mem ha)) i (List.mem_range.mpr hi)
    simpa [Array.getElem?_eq_getElem hi] using q
  obtain ⟨i0, ei0⟩ := is_v hg0
  obtain rfl : w0 = (.int i0) := Option.some.inj ei0
  obtain ⟨hn0, hn⟩ := and_e hn
  obtain ⟨hn1, hn⟩ := and_e hn
  obtain ⟨hn2, hn⟩ := and_e hn
  obtain ⟨hn3, hn⟩ := and_e hn
  obtain ⟨hn4, hn⟩ := and_e hn
  obtain ⟨hn5, hn⟩ := and_e hn
  obtain ⟨hn6, hn⟩ := and_e hn
  obtain ⟨hn7, hn⟩ := and_e hn
  obtain ⟨hn8, hn⟩ := and_e hn
  obtain ⟨hn9, hn⟩ := and_e hn
  obtain ⟨hn10, hn⟩ := and_e hn
  obtain ⟨hn11, hn⟩ := and_e hn
  obtain ⟨hn12, hn⟩ := and_e hn
  obtain ⟨hn13, hn⟩ := and_e hn
  obtain ⟨hn14, hn⟩ := and_e hn
  obtain ⟨hn15, hn⟩ := and_e hn
  obtain ⟨hn16, hn⟩ := and_e hn
  obtain ⟨hn17, hn⟩ := and_e hn
  obtain ⟨hn18, hn⟩ := and_e hn
  obtain ⟨hn19, hn⟩ := and_e hn
  obtain ⟨hn20, hn⟩ := and_e hn
  obtain ⟨hn21, hn⟩ := and_e hn
  obtain ⟨hn22, hn⟩ := and_e hn
  obtain ⟨hn23, hn⟩ := and_e hn
  obtain ⟨hn24, hn⟩ := and_e hn
  obtain ⟨hn25, hn⟩ := and_e hn
  obtain ⟨hn26, hn⟩ := and_e hn
  have hn27 := hn
  obtain ⟨w_ACCESS_DENIED, ev_ACCESS_DENIED⟩ := exa_v hn0
  have S_ACCESS_DENIED := Sta.start ev_ACCESS_DENIED (Or.inr ⟨(hw _ (List.mem_of_getElem? (i := 3) rfl)), (hw _ (List.mem_of_getElem? (i := 4) rfl))⟩)
  have E_w_ACCESS_DENIED := Exa.start ev_ACCESS_DENIED hn0
  obtain ⟨w_MISSING_AUTHENTICATION_TOKEN, ev_MISSING_AUTHENTICATION_TOKEN⟩ := exa_v hn1
  have S_MISSING_AUTHENTICATION_TOKEN := Sta.start ev_MISSING_AUTHENTICATION_TOKEN (Or.inr ⟨(hw _ (List.mem_of_getElem? (i := 3) rfl)), (hw _ (List.mem_of_getElem? (i := 7) rfl))⟩)
  have E_w_MISSING_AUTHENTICATION_TOKEN := Exa.start ev_MISSING_AUTHENTICATION_TOKEN hn1
  obtain ⟨w_INVALID_CLIENT_TOKEN_ID, ev_INVALID_CLIENT_TOKEN_ID⟩ := exa_v hn2
  have S_INVALID_CLIENT_TOKEN_ID := Sta.start ev_INVALID_CLIENT_TOKEN_ID (Or.inr ⟨(hw _ (List.mem_of_getElem? (i := 3) rfl)), (hw _ (List.mem_of_getElem? (i := 9) rfl))⟩)
  have E_w_INVALID_CLIENT_TOKEN_ID := Exa.start ev_INVALID_CLIENT_TOKEN_ID hn2
  obtain ⟨w_SIGNATURE_DOES_NOT_MATCH, ev_SIGNATURE_DOES_NOT_MATCH⟩ := exa_v hn3
  have S_SIGNATURE_DOES_NOT_MATCH := Sta.start ev_SIGNATURE_DOES_NOT_MATCH (Or.inr ⟨(hw _ (List.mem_of_getElem? (i := 3) rfl)), (hw _ (List.mem_of_getElem? (i := 11) rfl))⟩)
  have E_w_SIGNATURE_DOES_NOT_MATCH := Exa.start ev_SIGNATURE_DOES_NOT_MATCH hn3
  obtain ⟨w_INCOMPLETE_SIGNATURE, ev_INCOMPLETE_SIGNATURE⟩ := exa_v hn4
  have S_INCOMPLETE_SIGNATURE := Sta.start ev_INCOMPLETE_SIGNATURE (Or.inr ⟨(hw _ (List.mem_of_getElem? (i := 3) rfl)), (hw _ (List.mem_of_getElem? (i := 13) rfl))⟩)
  have E_w_INCOMPLETE_SIGNATURE := Exa.start ev_INCOMPLETE_SIGNATURE hn4
  obtain ⟨w_REQUEST_EXPIRED, ev_REQUEST_EXPIRED⟩ := exa_v hn5
  have S_REQUEST_EXPIRED := Sta.start ev_REQUEST_EXPIRED (Or.inr ⟨(hw _ (List.mem_of_getElem? (i := 3) rfl)), (hw _ (List.mem_of_getElem? (i := 15) rfl))⟩)
  have E_w_REQUEST_EXPIRED := Exa.start ev_REQUEST_EXPIRED hn5
  obtain ⟨w_MISSING_ACTION, ev_MISSING_ACTION⟩ := exa_v hn6
  have S_MISSING_ACTION := Sta.start ev_MISSING_ACTION (Or.inr ⟨(hw _ (List.mem_of_getElem? (i := 3) rfl)), (hw _ (List.mem_of_getElem? (i := 17) rfl))⟩)
  have E_w_MISSING_ACTION := Exa.start ev_MISSING_ACTION hn6
  obtain ⟨w_INVALID_ACTION, ev_INVALID_ACTION⟩ := exa_v hn7
  have S_INVALID_ACTION := Sta.start ev_INVALID_ACTION (Or.inr ⟨(hw _ (List.mem_of_getElem? (i := 3) rfl)), (hw _ (List.mem_of_getElem? (i := 19) rfl))⟩)
  have E_w_INVALID_ACTION := Exa.start ev_INVALID_ACTION hn7
  obtain ⟨w_VALIDATION_ERROR, ev_VALIDATION_ERROR⟩ := exa_v hn8
  have S_VALIDATION_ERROR := Sta.start ev_VALIDATION_ERROR (Or.inr ⟨(hw _ (List.mem_of_getElem? (i := 3) rfl)), (hw _ (List.mem_of_getElem? (i := 21) rfl))⟩)
  have E_w_VALIDATION_ERROR := Exa.start ev_VALIDATION_ERROR hn8
  obtain ⟨w_NO_SUCH_ENTITY, ev_NO_SUCH_ENTITY⟩ := exa_v hn9
  have S_NO_SUCH_ENTITY := Sta.start ev_NO_SUCH_ENTITY (Or.inr ⟨(hw _ (List.mem_of_getElem? (i := 3) rfl)), (hw _ (List.mem_of_getElem? (i := 23) rfl))⟩)
  have E_w_NO_SUCH_ENTITY := Exa.start ev_NO_SUCH_ENTITY hn9
  obtain ⟨w_ENTITY_ALREADY_EXISTS, ev_ENTITY_ALREADY_EXISTS⟩ := exa_v hn10
  have S_ENTITY_ALREADY_EXISTS := Sta.start ev_ENTITY_ALREADY_EXISTS (Or.inr ⟨(hw _ (List.mem_of_getElem? (i := 3) rfl)), (hw _ (List.mem_of_getElem? (i := 25) rfl))⟩)
  have E_w_ENTITY_ALREADY_EXISTS := Exa.start ev_ENTITY_ALREADY_EXISTS hn10
  obtain ⟨w_DELETE_CONFLICT, ev_DELETE_CONFLICT⟩ := exa_v hn11
  have S_DELETE_CONFLICT := Sta.start ev_DELETE_CONFLICT (Or.inr ⟨(hw _ (List.mem_of_getElem? (i := 3) rfl)), (hw _ (List.mem_of_getElem? (i := 27) rfl))⟩)
  have E_w_DELETE_CONFLICT := Exa.start ev_DELETE_CONFLICT hn11
  obtain ⟨w_LIMIT_EXCEEDED, ev_LIMIT_EXCEEDED⟩ := exa_v hn12
  have S_LIMIT_EXCEEDED := Sta.start ev_LIMIT_EXCEEDED (Or.inr ⟨(hw _ (List.mem_of_getElem? (i := 3) rfl)), (hw _ (List.mem_of_getElem? (i := 29) rfl))⟩)
  have E_w_LIMIT_EXCEEDED := Exa.start ev_LIMIT_EXCEEDED hn12
  obtain ⟨w_SERVICE_FAILURE, ev_SERVICE_FAILURE⟩ := exa_v hn13
  have S_SERVICE_FAILURE := Sta.start ev_SERVICE_FAILURE (Or.inr ⟨(hw _ (List.mem_of_getElem? (i := 3) rfl)), (hw _ (List.mem_of_getElem? (i := 31) rfl))⟩)
  have E_w_SERVICE_FAILURE := Exa.start ev_SERVICE_FAILURE hn13
  have F_status_w_ACCESS_DENIED := fldStart ev_ACCESS_DENIED hn14
  have F_status_w_SIGNATURE_DOES_NOT_MATCH := fldStart ev_SIGNATURE_DOES_NOT_MATCH hn15
  have F_status_w_LIMIT_EXCEEDED := fldStart ev_LIMIT_EXCEEDED hn16
  have F_status_w_SERVICE_FAILURE := fldStart ev_SERVICE_FAILURE hn17
  have F_status_w_INCOMPLETE_SIGNATURE := fldStart ev_INCOMPLETE_SIGNATURE hn18
  have F_status_w_INVALID_ACTION := fldStart ev_INVALID_ACTION hn19
  have F_status_w_INVALID_CLIENT_TOKEN_ID := fldStart ev_INVALID_CLIENT_TOKEN_ID hn20
  have F_status_w_DELETE_CONFLICT := fldStart ev_DELETE_CONFLICT hn21
  have F_status_w_ENTITY_ALREADY_EXISTS := fldStart ev_ENTITY_ALREADY_EXISTS hn22
  have F_status_w_VALIDATION_ERROR := fldStart ev_VALIDATION_ERROR hn23
  have F_status_w_MISSING_AUTHENTICATION_TOKEN := fldStart ev_MISSING_AUTHENTICATION_TOKEN hn24
  have F_status_w_NO_SUCH_ENTITY := fldStart ev_NO_SUCH_ENTITY hn25
  have F_status_w_REQUEST_EXPIRED := fldStart ev_REQUEST_EXPIRED hn26
  have F_status_w_MISSING_ACTION := fldStart ev_MISSING_ACTION hn27
  obtain ⟨n, o, h1, h2, h3, _, L, rfl, ⟨rfl, N⟩, hq⟩ := rm0 l s _ hw tables_1 i0 w_ACCESS_DENIED w_MISSING_AUTHENTICATION_TOKEN w_INVALID_CLIENT_TOKEN_ID w_SIGNATURE_DOES_NOT_MATCH w_INCOMPLETE_SIGNATURE w_REQUEST_EXPIRED w_MISSING_ACTION w_INVALID_ACTION w_VALIDATION_ERROR w_NO_SUCH_ENTITY w_ENTITY_ALREADY_EXISTS w_DELETE_CONFLICT w_LIMIT_EXCEEDED w_SERVICE_FAILURE s.heap s.heap.size (Nat.le_refl _) S_ACCESS_DENIED E_w_ACCESS_DENIED S_MISSING_AUTHENTICATION_TOKEN E_w_MISSING_AUTHENTICATION_TOKEN S_INVALID_CLIENT_TOKEN_ID E_w_INVALID_CLIENT_TOKEN_ID S_SIGNATURE_DOES_NOT_MATCH E_w_SIGNATURE_DOES_NOT_MATCH S_INCOMPLETE_SIGNATURE E_w_INCOMPLETE_SIGNATURE S_REQUEST_EXPIRED E_w_REQUEST_EXPIRED S_MISSING_ACTION E_w_MISSING_ACTION S_INVALID_ACTION E_w_INVALID_ACTION S_VALIDATION_ERROR E_w_VALIDATION_ERROR S_NO_SUCH_ENTITY E_w_NO_SUCH_ENTITY S_ENTITY_ALREADY_EXISTS E_w_ENTITY_ALREADY_EXISTS S_DELETE_CONFLICT E_w_DELETE_CONFLICT S_LIMIT_EXCEEDED E_w_LIMIT_EXCEEDED S_SERVICE_FAILURE E_w_SERVICE_FAILURE F_status_w_ACCESS_DENIED F_status_w_SIGNATURE_DOES_NOT_MATCH F_status_w_LIMIT_EXCEEDED F_status_w_SERVICE_FAILURE F_status_w_INCOMPLETE_SIGNATURE F_status_w_INVALID_ACTION F_status_w_INVALID_CLIENT_TOKEN_ID F_status_w_DELETE_CONFLICT F_status_w_ENTITY_ALREADY_EXISTS F_status_w_VALIDATION_ERROR F_status_w_MISSING_AUTHENTICATION_TOKEN F_status_w_NO_SUCH_ENTITY F_status_w_REQUEST_EXPIRED F_status_w_MISSING_ACTION p e ha hc hk s m _ below hf ((Spec.applies_iff_loose hf).mp happ).1 ⟨rfl, State.Warmed39.refl s, rfl⟩ trivial
  refine ⟨n, _, h1, h2, h3, hpost _ _ _ _ _ _ ⟨Cond.after_iff.mpr rfl, Cond.after_iff.mpr (eq_i res_at (Term.int_eval (1)) rfl), trivial⟩ ⟨hq.1, hq.2.1, (hq.2.2.sift fun y hy => Or.inr (N y hy)).mono (by decide) (by decide)⟩⟩
theorem main_1_1 : Claimed_1_1 := comes_1 fun _ _ _ _ _ _ h hF => ⟨h.1, hF⟩
theorem main_1_2 : Claimed_1_2 := comes_1 fun _ _ _ _ _ _ h hF => ⟨h.2.1, hF⟩
end Jvm.Pilot.@@N@@
namespace Jvm.Pilot.@@N@@
open Jvm Jvm.ClassFile Sem Op Lib Jvm.Free Jvm.Stand Jvm.Pilot.@@N@@.Jvm.D
/-! MADE BY PROGRAM (witnessworld.py) out of the Statement's table words and the real class files: 13 classes; the members and pool entries that the words name. The judged class is class 1, her method 1. -/
namespace start1
open Jvm.ClassFile
def u (s : String) : CpInfo := .utf8 (stringToUtf16 s)
/-- a pool by its gaps: so many unusable entries, then the entry; so many at the end -/
def gap : Nat → List CpInfo → List CpInfo
  | 0, r => r
  | n + 1, r => .unusable :: gap n r
def poolList (es : List (Nat × CpInfo)) (last : Nat) : List CpInfo := es.foldr (fun e r => gap e.1 (e.2 :: r)) (gap last [])
def pool (es : List (Nat × CpInfo)) (last : Nat) : Array CpInfo := ⟨poolList es last⟩
def fileOf (pool : Array CpInfo) (this : Nat) (attrs : Array Attribute := #[]) (ms : Array MethodInfo := #[]) (fl : Nat := 33) (sup : Nat := 0) (ifs : Array Nat := #[]) (fds : Array FieldInfo := #[]) : ClassFile where
  minorVersion := 0
  majorVersion := 65
  constantPool := pool
  accessFlags := fl
  thisClass := this
  superClass := sup
  interfaces := ifs
  fields := fds
  methods := ms
  attributes := attrs
def plain (name : String) (sup : Option ClassId) : Class where
  name := name
  kind := .ordinary
  loader := none
  accessFlags := 33
  super := sup
  interfaces := #[]
  cf := none
  fields := #[]
  methods := #[]
  instanceTypes := #[]
  staticTypes := #[]
  resolved := #[]
  callSites := []
  init := .initialized
  statics := none
  mirror := none

def pool0 : Array CpInfo := pool [(5, u "<init>"), (0, u "()V"), (1, .class_ 10), (1, u "java/lang/Object")] 113

def k0m0 : Method := { name := "<init>", desc := "()V", sig := { parameters := [], returnType := none }, accessFlags := 1, code := none }
/-- java/lang/Object -/
def k0 : Class := { plain "java/lang/Object" none with
  accessFlags := 33
  interfaces := #[]
  cf := some (fileOf pool0 8 #[] #[{ accessFlags := 1, nameIndex := 5, descriptorIndex := 6, attributes := #[] }] 33 0 #[] #[])
  fields := #[]
  methods := #[k0m0]
  instanceTypes := #[]
  staticTypes := #[]
  resolved := Array.replicate 124 none
  statics := none }

def pool1 : Array CpInfo := pool [(2, .class_ 4), (1, u "java/lang/Object"), (0, u "<init>"), (0, u "()V"), (0, .class_ 8), (0, u "com/example/canny_warden/cannywarden/server/IamError"), (0, .fieldref 7 10), (0, .nameAndType 11 12), (0, u "ACCESS_DENIED"), (0, u "Lcom/example/canny_warden/cannywarden/server/IamError;"), (0, .fieldref 7 14), (0, .nameAndType 15 12), (0, u "MISSING_AUTHENTICATION_TOKEN"), (0, .fieldref 7 17), (0, .nameAndType 18 12), (0, u "INVALID_CLIENT_TOKEN_ID"), (0, .fieldref 7 20), (0, .nameAndType 21 12), (0, u "SIGNATURE_DOES_NOT_MATCH"), (0, .fieldref 7 23), (0, .nameAndType 24 12), (0, u "INCOMPLETE_SIGNATURE"), (0, .fieldref 7 26), (0, .nameAndType 27 12), (0, u "REQUEST_EXPIRED"), (0, .fieldref 7 29), (0, .nameAndType 30 12), (0, u "MISSING_ACTION"), (0, .fieldref 7 32), (0, .nameAndType 33 12), (0, u "INVALID_ACTION"), (0, .fieldref 7 35), (0, .nameAndType 36 12), (0, u "VALIDATION_ERROR"), (0, .fieldref 7 38), (0, .nameAndType 39 12), (0, u "NO_SUCH_ENTITY"), (0, .fieldref 7 41), (0, .nameAndType 42 12), (0, u "ENTITY_ALREADY_EXISTS"), (0, .fieldref 7 44), (0, .nameAndType 45 12), (0, u "DELETE_CONFLICT"), (0, .fieldref 7 47), (0, .nameAndType 48 12), (0, u "LIMIT_EXCEEDED"), (0, .fieldref 7 50), (0, .nameAndType 51 12), (0, u "SERVICE_FAILURE"), (0, .integer 2147483647), (0, .methodref 7 54), (0, .nameAndType 55 56), (0, u "sender"), (0, u "()Z"), (0, .methodref 7 58), (0, .nameAndType 59 60), (0, u "status"), (0, u "()I"), (0, .class_ 62), (0, u "com/example/canny_warden/cannywarden/server/IamErrorSenderPinLaw"), (2, u "law"), (0, u "(I)Z")] 5

def k1m0 : Method := { name := "<init>", desc := "()V", sig := { parameters := [], returnType := none }, accessFlags := 1, code := none }
def k1c1 : Code := { maxStack := 4, maxLocals := 7, code := code, exceptionTable := #[], attributes := #[] }
def k1m1 : Method := { name := "law", desc := "(I)Z", sig := { parameters := [.int], returnType := some .boolean }, accessFlags := 9, code := some k1c1 }
/-- com/example/canny_warden/cannywarden/server/IamErrorSenderPinLaw -/
def k1 : Class := { plain "com/example/canny_warden/cannywarden/server/IamErrorSenderPinLaw" (some 0) with
  accessFlags := 49
  interfaces := #[]
  cf := some (fileOf pool1 61 #[] #[{ accessFlags := 1, nameIndex := 5, descriptorIndex := 6, attributes := #[] }, { accessFlags := 9, nameIndex := 65, descriptorIndex := 66, attributes := #[] }] 49 2 #[] #[])
  fields := #[]
  methods := #[k1m0, k1m1]
  instanceTypes := #[]
  staticTypes := #[]
  resolved := Array.replicate 72 none
  statics := none }

def pool2 : Array CpInfo := pool [(1, .class_ 2), (0, u "java/lang/constant/Constable"), (0, .class_ 4), (0, u "java/lang/Object")] 6

/-- java/lang/constant/Constable -/
def k2 : Class := { plain "java/lang/constant/Constable" (some 0) with
  accessFlags := 1537
  interfaces := #[]
  cf := some (fileOf pool2 1 #[] #[] 1537 3 #[] #[])
  fields := #[]
  methods := #[]
  instanceTypes := #[]
  staticTypes := #[]
  resolved := Array.replicate 11 none
  statics := none }

def pool3 : Array CpInfo := pool [(1, .class_ 2), (0, u "java/lang/Comparable"), (0, .class_ 4), (0, u "java/lang/Object")] 7

/-- java/lang/Comparable -/
def k3 : Class := { plain "java/lang/Comparable" (some 0) with
  accessFlags := 1537
  interfaces := #[]
  cf := some (fileOf pool3 1 #[] #[] 1537 3 #[] #[])
  fields := #[]
  methods := #[]
  instanceTypes := #[]
  staticTypes := #[]
  resolved := Array.replicate 12 none
  statics := none }

def pool4 : Array CpInfo := pool [(1, .class_ 2), (0, u "java/io/Serializable"), (0, .class_ 4), (0, u "java/lang/Object")] 2

/-- java/io/Serializable -/
def k4 : Class := { plain "java/io/Serializable" (some 0) with
  accessFlags := 1537
  interfaces := #[]
  cf := some (fileOf pool4 1 #[] #[] 1537 3 #[] #[])
  fields := #[]
  methods := #[]
  instanceTypes := #[]
  staticTypes := #[]
  resolved := Array.replicate 7 none
  statics := none }

def pool5 : Array CpInfo := pool [(2, .class_ 4), (1, u "java/lang/Enum"), (0, u "name"), (0, u "Ljava/lang/String;"), (2, u "ordinal"), (0, u "I"), (1, .class_ 14), (1, u "java/lang/Object"), (4, u "hash"), (86, .class_ 108), (1, u "java/lang/Enum$EnumDesc"), (2, .class_ 112), (0, u "java/lang/constant/Constable"), (0, .class_ 114), (0, u "java/lang/Comparable"), (0, .class_ 116), (0, u "java/io/Serializable")] 87

/-- java/lang/Enum -/
def k5 : Class := { plain "java/lang/Enum" (some 0) with
  accessFlags := 1057
  interfaces := #[2, 3, 4]
  cf := some (fileOf pool5 2 #[.nestMembers #[106]] #[] 1057 12 #[111, 113, 115] #[{ accessFlags := 18, nameIndex := 5, descriptorIndex := 6, attributes := #[] }, { accessFlags := 18, nameIndex := 9, descriptorIndex := 10, attributes := #[] }, { accessFlags := 2, nameIndex := 19, descriptorIndex := 10, attributes := #[] }])
  fields := #[{ name := "name", type := (.object "java/lang/String"), accessFlags := 18, slot := 0, constantValue := 0 }, { name := "ordinal", type := .int, accessFlags := 18, slot := 1, constantValue := 0 }, { name := "hash", type := .int, accessFlags := 2, slot := 2, constantValue := 0 }]
  methods := #[]
  instanceTypes := #[(.object "java/lang/String"), .int, .int]
  staticTypes := #[]
  resolved := Array.replicate 204 none
  statics := none }

def pool6 : Array CpInfo := pool [(1, .class_ 2), (0, u "com/example/canny_warden/cannywarden/server/IamError"), (2, u "ACCESS_DENIED"), (0, u "Lcom/example/canny_warden/cannywarden/server/IamError;"), (2, u "MISSING_AUTHENTICATION_TOKEN"), (2, u "INVALID_CLIENT_TOKEN_ID"), (2, u "SIGNATURE_DOES_NOT_MATCH"), (2, u "INCOMPLETE_SIGNATURE"), (2, u "REQUEST_EXPIRED"), (2, u "MISSING_ACTION"), (2, u "INVALID_ACTION"), (2, u "VALIDATION_ERROR"), (2, u "NO_SUCH_ENTITY"), (2, u "ENTITY_ALREADY_EXISTS"), (2, u "DELETE_CONFLICT"), (2, u "LIMIT_EXCEEDED"), (2, u "SERVICE_FAILURE"), (2, u "$VALUES"), (0, u "[Lcom/example/canny_warden/cannywarden/server/IamError;"), (6, .class_ 58), (1, u "java/lang/Enum"), (8, u "code"), (0, u "Ljava/lang/String;"), (0, .fieldref 1 70), (0, .nameAndType 71 72), (0, u "status"), (0, u "I"), (49, u "FIRST_SERVICE_FAULT"), (8, u "()I"), (0, u "sender"), (0, u "()Z")] 8

def k6c0 : Code := { maxStack := 1, maxLocals := 1, code := prog_85_method_4_code, exceptionTable := #[], attributes := #[] }
def k6m0 : Method := { name := "status", desc := "()I", sig := { parameters := [], returnType := some .int }, accessFlags := 0, code := some k6c0 }
def k6c1 : Code := { maxStack := 2, maxLocals := 1, code := prog_85_method_5_code, exceptionTable := #[], attributes := #[] }
def k6m1 : Method := { name := "sender", desc := "()Z", sig := { parameters := [], returnType := some .boolean }, accessFlags := 0, code := some k6c1 }
/-- com/example/canny_warden/cannywarden/server/IamError -/
def k6 : Class := { plain "com/example/canny_warden/cannywarden/server/IamError" (some 5) with
  accessFlags := 16432
  interfaces := #[]
  cf := some (fileOf pool6 1 #[] #[{ accessFlags := 0, nameIndex := 71, descriptorIndex := 131, attributes := #[] }, { accessFlags := 0, nameIndex := 132, descriptorIndex := 133, attributes := #[] }] 16432 56 #[] #[{ accessFlags := 16409, nameIndex := 5, descriptorIndex := 6, attributes := #[] }, { accessFlags := 16409, nameIndex := 9, descriptorIndex := 6, attributes := #[] }, { accessFlags := 16409, nameIndex := 12, descriptorIndex := 6, attributes := #[] }, { accessFlags := 16409, nameIndex := 15, descriptorIndex := 6, attributes := #[] }, { accessFlags := 16409, nameIndex := 18, descriptorIndex := 6, attributes := #[] }, { accessFlags := 16409, nameIndex := 21, descriptorIndex := 6, attributes := #[] }, { accessFlags := 16409, nameIndex := 24, descriptorIndex := 6, attributes := #[] }, { accessFlags := 16409, nameIndex := 27, descriptorIndex := 6, attributes := #[] }, { accessFlags := 16409, nameIndex := 30, descriptorIndex := 6, attributes := #[] }, { accessFlags := 16409, nameIndex := 33, descriptorIndex := 6, attributes := #[] }, { accessFlags := 16409, nameIndex := 36, descriptorIndex := 6, attributes := #[] }, { accessFlags := 16409, nameIndex := 39, descriptorIndex := 6, attributes := #[] }, { accessFlags := 16409, nameIndex := 42, descriptorIndex := 6, attributes := #[] }, { accessFlags := 16409, nameIndex := 45, descriptorIndex := 6, attributes := #[] }, { accessFlags := 26, nameIndex := 122, descriptorIndex := 72, attributes := #[] }, { accessFlags := 18, nameIndex := 67, descriptorIndex := 68, attributes := #[] }, { accessFlags := 18, nameIndex := 71, descriptorIndex := 72, attributes := #[] }, { accessFlags := 4122, nameIndex := 48, descriptorIndex := 49, attributes := #[] }])
  fields := #[{ name := "ACCESS_DENIED", type := (.object "com/example/canny_warden/cannywarden/server/IamError"), accessFlags := 16409, slot := 0, constantValue := 0 }, { name := "MISSING_AUTHENTICATION_TOKEN", type := (.object "com/example/canny_warden/cannywarden/server/IamError"), accessFlags := 16409, slot := 1, constantValue := 0 }, { name := "INVALID_CLIENT_TOKEN_ID", type := (.object "com/example/canny_warden/cannywarden/server/IamError"), accessFlags := 16409, slot := 2, constantValue := 0 }, { name := "SIGNATURE_DOES_NOT_MATCH", type := (.object "com/example/canny_warden/cannywarden/server/IamError"), accessFlags := 16409, slot := 3, constantValue := 0 }, { name := "INCOMPLETE_SIGNATURE", type := (.object "com/example/canny_warden/cannywarden/server/IamError"), accessFlags := 16409, slot := 4, constantValue := 0 }, { name := "REQUEST_EXPIRED", type := (.object "com/example/canny_warden/cannywarden/server/IamError"), accessFlags := 16409, slot := 5, constantValue := 0 }, { name := "MISSING_ACTION", type := (.object "com/example/canny_warden/cannywarden/server/IamError"), accessFlags := 16409, slot := 6, constantValue := 0 }, { name := "INVALID_ACTION", type := (.object "com/example/canny_warden/cannywarden/server/IamError"), accessFlags := 16409, slot := 7, constantValue := 0 }, { name := "VALIDATION_ERROR", type := (.object "com/example/canny_warden/cannywarden/server/IamError"), accessFlags := 16409, slot := 8, constantValue := 0 }, { name := "NO_SUCH_ENTITY", type := (.object "com/example/canny_warden/cannywarden/server/IamError"), accessFlags := 16409, slot := 9, constantValue := 0 }, { name := "ENTITY_ALREADY_EXISTS", type := (.object "com/example/canny_warden/cannywarden/server/IamError"), accessFlags := 16409, slot := 10, constantValue := 0 }, { name := "DELETE_CONFLICT", type := (.object "com/example/canny_warden/cannywarden/server/IamError"), accessFlags := 16409, slot := 11, constantValue := 0 }, { name := "LIMIT_EXCEEDED", type := (.object "com/example/canny_warden/cannywarden/server/IamError"), accessFlags := 16409, slot := 12, constantValue := 0 }, { name := "SERVICE_FAILURE", type := (.object "com/example/canny_warden/cannywarden/server/IamError"), accessFlags := 16409, slot := 13, constantValue := 0 }, { name := "FIRST_SERVICE_FAULT", type := .int, accessFlags := 26, slot := 14, constantValue := 0 }, { name := "code", type := (.object "java/lang/String"), accessFlags := 18, slot := 3, constantValue := 0 }, { name := "status", type := .int, accessFlags := 18, slot := 4, constantValue := 0 }, { name := "$VALUES", type := (.array (.object "com/example/canny_warden/cannywarden/server/IamError")), accessFlags := 4122, slot := 15, constantValue := 0 }]
  methods := #[k6m0, k6m1]
  instanceTypes := #[(.object "java/lang/String"), .int, .int, (.object "java/lang/String"), .int]
  staticTypes := #[(.object "com/example/canny_warden/cannywarden/server/IamError"), (.object "com/example/canny_warden/cannywarden/server/IamError"), (.object "com/example/canny_warden/cannywarden/server/IamError"), (.object "com/example/canny_warden/cannywarden/server/IamError"), (.object "com/example/canny_warden/cannywarden/server/IamError"), (.object "com/example/canny_warden/cannywarden/server/IamError"), (.object "com/example/canny_warden/cannywarden/server/IamError"), (.object "com/example/canny_warden/cannywarden/server/IamError"), (.object "com/example/canny_warden/cannywarden/server/IamError"), (.object "com/example/canny_warden/cannywarden/server/IamError"), (.object "com/example/canny_warden/cannywarden/server/IamError"), (.object "com/example/canny_warden/cannywarden/server/IamError"), (.object "com/example/canny_warden/cannywarden/server/IamError"), (.object "com/example/canny_warden/cannywarden/server/IamError"), .int, (.array (.object "com/example/canny_warden/cannywarden/server/IamError"))]
  resolved := Array.replicate 142 none
  statics := some 0 }

def pool7 : Array CpInfo := pool [(1, u "java/lang/Cloneable"), (0, .class_ 1), (0, u "java/lang/Object"), (0, .class_ 3)] 3

/-- java/lang/Cloneable -/
def k7 : Class := { plain "java/lang/Cloneable" (some 0) with
  accessFlags := 1537
  interfaces := #[]
  cf := some (fileOf pool7 2 #[] #[] 1537 4 #[] #[])
  fields := #[]
  methods := #[]
  instanceTypes := #[]
  staticTypes := #[]
  resolved := Array.replicate 8 none
  statics := none }

/-- the primitive byte -/
def k8 : Class := { plain "byte" none with kind := .primitive 'B', accessFlags := 0x411 }
/-- [B -/
def k9 : Class := { plain "[B" (some 0) with kind := .array 8 .byte, interfaces := #[7, 4], accessFlags := 1041 }

/-- the primitive int -/
def k10 : Class := { plain "int" none with kind := .primitive 'I', accessFlags := 0x411 }
/-- [I -/
def k11 : Class := { plain "[I" (some 0) with kind := .array 10 .int, interfaces := #[7, 4], accessFlags := 1041 }

/-- [Lcom/example/canny_warden/cannywarden/server/IamError; -/
def k12 : Class := { plain "[Lcom/example/canny_warden/cannywarden/server/IamError;" (some 0) with kind := .array 6 (.object "com/example/canny_warden/cannywarden/server/IamError"), interfaces := #[7, 4], accessFlags := 1041 }

def heap : Heap := #[{ cls := 6, slots := #[.ref 1, .ref 2, .ref 3, .ref 4, .ref 5, .ref 6, .ref 7, .ref 8, .ref 9, .ref 10, .ref 11, .ref 12, .ref 13, .ref 14, .int 0, .null], vm := .statics 6 },
  { cls := 6, slots := #[.null, .int 0, .int 0, .null, .int 403], vm := .none },
  { cls := 6, slots := #[.null, .int 0, .int 0, .null, .int 403], vm := .none },
  { cls := 6, slots := #[.null, .int 0, .int 0, .null, .int 403], vm := .none },
  { cls := 6, slots := #[.null, .int 0, .int 0, .null, .int 403], vm := .none },
  { cls := 6, slots := #[.null, .int 0, .int 0, .null, .int 400], vm := .none },
  { cls := 6, slots := #[.null, .int 0, .int 0, .null, .int 400], vm := .none },
  { cls := 6, slots := #[.null, .int 0, .int 0, .null, .int 400], vm := .none },
  { cls := 6, slots := #[.null, .int 0, .int 0, .null, .int 400], vm := .none },
  { cls := 6, slots := #[.null, .int 0, .int 0, .null, .int 400], vm := .none },
  { cls := 6, slots := #[.null, .int 0, .int 0, .null, .int 404], vm := .none },
  { cls := 6, slots := #[.null, .int 0, .int 0, .null, .int 409], vm := .none },
  { cls := 6, slots := #[.null, .int 0, .int 0, .null, .int 409], vm := .none },
  { cls := 6, slots := #[.null, .int 0, .int 0, .null, .int 409], vm := .none },
  { cls := 6, slots := #[.null, .int 0, .int 0, .null, .int 500], vm := .none }]
def classes : Array Class := #[k0, k1, k2, k3, k4, k5, k6, k7, k8, k9, k10, k11, k12]
def interned : List (Array UInt16 × Addr) := []
def slotsUsed : Nat := 86
def theMethod : MethodId := ⟨1, 1⟩
def args0 : Array Value := #[.int 5]
def aboutOver (below : List Frame) : State where
  vm := { classes := classes, interned := interned.toArray }
  heap := heap
  slotsUsed := slotsUsed
  threads := #[{ frames := .invoking theMethod args0 :: below }]
def below0 : List Frame := [.native { method := ⟨0, 0⟩, args := #[] }]
def about1 : State := aboutOver below0
def p0 : Program := .bare "" "" ""
def e0 : Env := launch0.env 0 0 0
theorem w_frames : about1.frames = Frame.invoking theMethod args0 :: below0 := rfl
set_option maxRecDepth 65536 in
theorem w_args : argsFit about1.vm theMethod args0 = true := by decide +kernel
set_option maxRecDepth 65536 in
theorem w_heap : heapFits about1 = true := by decide +kernel
set_option maxRecDepth 65536 in
theorem w_runnable : about1.curStatus? = some .runnable := by decide +kernel
set_option maxRecDepth 65536 in
theorem w_alone : about1.alone = true := by decide +kernel
set_option maxRecDepth 65536 in
theorem w_named : about1.methodNamed? x = some theMethod := by decide +kernel
set_option maxRecDepth 65536 in
theorem w_hears : about1.hears theMethod below0 = true := by decide +kernel
set_option maxRecDepth 65536 in
theorem w_ripe : about1.ripe theMethod args0 below0 = true := by decide +kernel
theorem w_running : about1.status = .running := rfl
set_option maxRecDepth 65536 in
theorem w_room : about1.hasRoom e0.platform room_1 = true :=
  launch0.hasRoom_least _ room_1 (by decide +kernel) (by decide +kernel) (by decide +kernel) (by decide +kernel) (by decide +kernel) (by decide +kernel)
theorem allAtoms_all (ts : List Jvm.Cond) (a : Array Jvm.Value) (st : Jvm.State) : (allAtoms ts).before a st = ts.all (fun c => c.before a st) := by
  induction ts with
  | nil => rfl
  | cons c t ih =>
    show (Jvm.Cond.and c (allAtoms t)).before a st = _
    rw [Jvm.Cond.before_and, ih, List.all_cons]
def words1 : List Jvm.Cond := Jvm.Cond.code x code maxLocals ret :: tables_1
/-- a 'code' word, met by the world's own term for the bytes: nothing is compared byte by byte -/
theorem code_word {y : MethodName} {bytes : ByteArray} {mx : Nat} {rt : Option FieldType} {a : Array Value} {s : State} {m : MethodId} {meth : Method} {c : Code} (h1 : s.methodNamed? y = some m) (h2 : s.vm.method? m = some meth) (h3 : meth.code = some c) (h4 : c.code = bytes)
    (h5 : (c.maxLocals == mx && c.exceptionTable.isEmpty && decide (c.maxStack ≤ mostOperands) && decide (meth.sig.returnType = rt) && !meth.locks && decide (parseMethodDescriptor y.desc = some meth.sig)) = true) : (Jvm.Cond.code y bytes mx rt).before a s = true := by
  simp only [Bool.and_eq_true, beq_iff_eq, Bool.not_eq_true', decide_eq_true_eq] at h5
  obtain ⟨⟨⟨⟨⟨g1, g2⟩, g3⟩, g4⟩, g5⟩, g6⟩ := h5
  simp [Cond.before, Cond.holds, Cond.value, h1, h2, h3, h4, g1, g2, g3, g4, g5, g6]
def isCode : Jvm.Cond → Bool
  | .code _ _ _ _ => true
  | _ => false
theorem all_split {L : List Jvm.Cond} {P : Jvm.Cond → Bool} (h1 : L.all (fun c => isCode c || P c) = true) (h2 : ∀ c ∈ L.filter isCode, P c = true) : L.all P = true := by
  refine List.all_eq_true.mpr fun c hc => ?_
  have h := List.all_eq_true.mp h1 c hc
  rcases Bool.eq_false_or_eq_true (isCode c) with hi | hi
  · exact h2 c (List.mem_filter.mpr ⟨hc, hi⟩)
  · simpa [hi] using h
set_option maxRecDepth 65536 in
theorem w_c0 : (Jvm.Cond.code x code maxLocals ret).before args0 about1 = true := code_word (m := ⟨1, 1⟩) (meth := k1m1) (c := k1c1) (by decide +kernel) rfl rfl rfl (by decide +kernel)
set_option maxRecDepth 65536 in
theorem w_c1 : (Jvm.Cond.code ({ cls := "com/example/canny_warden/cannywarden/server/IamError", name := "sender", desc := "()Z" } : Jvm.MethodName) prog_85_method_5_code (1 : Nat) (Option.some Jvm.ClassFile.FieldType.boolean)).before args0 about1 = true := code_word (m := ⟨6, 1⟩) (meth := k6m1) (c := k6c1) (by decide +kernel) rfl rfl rfl (by decide +kernel)
set_option maxRecDepth 65536 in
theorem w_c2 : (Jvm.Cond.code ({ cls := "com/example/canny_warden/cannywarden/server/IamError", name := "status", desc := "()I" } : Jvm.MethodName) prog_85_method_4_code (1 : Nat) (Option.some Jvm.ClassFile.FieldType.int)).before args0 about1 = true := code_word (m := ⟨6, 0⟩) (meth := k6m0) (c := k6c0) (by decide +kernel) rfl rfl rfl (by decide +kernel)
def codes1 : List Jvm.Cond := [Jvm.Cond.code x code maxLocals ret, Jvm.Cond.code ({ cls := "com/example/canny_warden/cannywarden/server/IamError", name := "sender", desc := "()Z" } : Jvm.MethodName) prog_85_method_5_code (1 : Nat) (Option.some Jvm.ClassFile.FieldType.boolean), Jvm.Cond.code ({ cls := "com/example/canny_warden/cannywarden/server/IamError", name := "status", desc := "()I" } : Jvm.MethodName) prog_85_method_4_code (1 : Nat) (Option.some Jvm.ClassFile.FieldType.int)]
set_option maxRecDepth 65536 in
theorem codes_eq : words1.filter isCode = codes1 := rfl
theorem w_codes : ∀ c ∈ words1.filter isCode, c.before args0 about1 = true := by
  rw [codes_eq]
  intro c hc
  simp only [codes1, List.mem_cons, List.not_mem_nil, or_false] at hc
  rcases hc with rfl | rfl | rfl
  · exact w_c0
  · exact w_c1
  · exact w_c2
set_option maxRecDepth 65536 in
theorem w_t1 : (words1.take 24).all (fun c => isCode c || c.before args0 about1) = true := by decide +kernel
set_option maxRecDepth 65536 in
theorem w_t2 : (words1.drop 24).all (fun c => isCode c || c.before args0 about1) = true := by decide +kernel
theorem w_tables : (allAtoms (Jvm.Cond.code x code maxLocals ret :: tables_1)).before args0 about1 = true := by
  rw [allAtoms_all]
  show words1.all (fun c => c.before args0 about1) = true
  refine all_split ?_ w_codes
  rw [← List.take_append_drop 24 words1, List.all_append, w_t1, w_t2]
  rfl
set_option maxRecDepth 65536 in
theorem w_case : (Jvm.Cond.and given_1 narrow_1).before args0 about1 = true := by decide +kernel
theorem w_applies : (headSpec (Jvm.Cond.code x code maxLocals ret :: tables_1) room_1).applies x e0.platform about1 = true :=
  (Spec.applies_iff w_frames).mpr ⟨w_running, w_runnable, w_alone, w_named, w_hears, w_ripe, w_room, w_tables⟩
theorem atStart : AtStart classFile x code maxLocals ret World_1 tables_1 room_1 Calls_1 rest_1 Pre_1 launch0 p0 e0 about1 theMethod args0 below0 :=
  ⟨lists_1, trivial, launch0.admits_env _ _ _, launch0.least_env, fairChoices_fair.cas, fairChoices_fair.clock, w_frames, w_args, w_heap, w_applies, trivial, trivial, w_case⟩
end start1
theorem witness_1 : WitnessClaimed_1 := ⟨start1.p0, start1.e0, start1.about1, start1.theMethod, start1.args0, start1.below0, start1.atStart⟩
end Jvm.Pilot.@@N@@
