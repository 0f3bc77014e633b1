import JvmDerived
import JvmDerived.Pilot.@@N@@Statement
import JvmDerived.Pilot.@@N@@Code
set_option linter.unusedVariables false
set_option linter.unusedSimpArgs false
namespace Jvm.RoadKit
open Sem ClassFile Op Lib Jvm.Stand Jvm.Free Jvm.LawKit
section Own
variable {p : Program} {l : Launch} {e : Env} {R : Room} {s : State} {m : MethodId} {args : Array Value} {below : List Frame} {meth : Method} {c : Code} {T : State} {locs : List Loc} {cells slots : Nat} {Z : State} {h h' : Heap}
/-- from U the run comes to an end that G allows -/
def Go (p : Program) (e : Env) (below : List Frame) (G : Outcome → State → Prop) (U : State) : Prop := ∃ s₂ o, Steps p.tables e below U s₂ ∧ s₂.status = .running ∧ Ended s₂ below o ∧ G o s₂
theorem Go.st {G : Outcome → State → Prop} {U V : State} (h : ∀ t, Steps p.tables e below V t → Steps p.tables e below U t) (k : Go p e below G V) : Go p e below G U := by
  obtain ⟨s₂, o, a, r⟩ := k; exact ⟨s₂, o, h _ a, r⟩
theorem Go.tr {G : Outcome → State → Prop} {U V : State} (h : Steps p.tables e below U V) (k : Go p e below G V) : Go p e below G U := by
  obtain ⟨s₂, o, a, r⟩ := k; exact ⟨s₂, o, h.trans a, r⟩
theorem Go.en {G : Outcome → State → Prop} {g g' : JFrame} (q : g = g') (k : Go p e below G (T.setTop g')) : Go p e below G (T.setTop g) := q ▸ k
theorem Go.ret {Q : Option Value → Heap → List Loc → Prop} {K N : Nat} {U : State} (X : Stand p l e R s m args below meth c T locs cells slots) {v : Option Value} (hv : meth.sig.returnType = none → v = none) (hlk : meth.locks = false)
    (st : ∀ fs, (∀ (f : JFrame) (acts : List Action), f.method = m → f.locked = none → f.entered = [] → (doReturn e (T.setTop f) acts v).1 = T.setFrames fs) → Steps p.tables e below U (T.setFrames fs)) (eT : T.heap = h) (hQ : Q v h locs) (hk : cells ≤ K) (hn : slots ≤ N) :
    Go p e below (fun o s₂ => ∃ v L, o = .returned v ∧ Q v s₂.heap L ∧ FrameEnd s o s₂ L K N) U := by
  subst eT
  obtain ⟨fs, hr, hrun, hended, hW, hsame⟩ := X.leave hv hlk
  exact ⟨_, _, st fs hr, hrun, hended, _, _, rfl, hQ, ⟨_, rfl⟩, hW, hsame.mono hk hn⟩
theorem Go.retW {Q : Option Value → Heap → List Loc → Prop} {K N k0 : Nat} {U : State} {vm0 : Vm} (hS : s.Since vm0 k0) (hk0 : k0 ≤ h.size) (X : Stand p l e R (s.setVm vm0) m args below meth c T locs cells slots) {v : Option Value} (hv : meth.sig.returnType = none → v = none) (hlk : meth.locks = false)
    (st : ∀ fs, (∀ (f : JFrame) (acts : List Action), f.method = m → f.locked = none → f.entered = [] → (doReturn e (T.setTop f) acts v).1 = T.setFrames fs) → Steps p.tables e below U (T.setFrames fs)) (eT : T.heap = h) (hQ : Q v h locs) (hk : cells ≤ K) (hn : slots ≤ N) :
    Go p e below (fun o s₂ => ∃ v L, o = .returned v ∧ Q v s₂.heap L ∧ ReturnedEndW s o s₂ L K N) U := by
  subst eT
  obtain ⟨fs, hr, hrun, hended, hR⟩ := X.leaveW hS hk0 hv hlk
  exact ⟨_, _, st fs hr, hrun, hended, _, _, rfl, hQ, hR.1, hR.2.1, hR.2.2.1, hR.2.2.2.mono hk hn⟩
/-- RoadKit's backOfS for a callee that is told what the constants hold -/
theorem backOfSC {y : MethodName} {bytes : ByteArray} {maxL : Nat} {ret : Option FieldType} {rm : Room} {len W : Nat} {as' : Array Value} {Q : Option Value → Heap → List Loc → Prop} {EL : List (String × Nat)} {vm0 : Vm} {a0 : Array Value}
    (hM : MetFree l y (head1 [Cond.code y bytes maxL ret] rm) (fun a U => a = as' ∧ Z.Warmed39 U.vm ∧ U.heap = h ∧ CHv Z EL U.vm h) (fun _ _ _ _ _ => True) (fun _ U o U' => ∃ v L, o = .returned v ∧ Q v U'.heap L ∧ ReturnedEndW U o U' L rm.cells rm.slots))
    (hZ : Z.Warmed39 vm0) (wc : (Cond.code y bytes maxL ret).before a0 Z = true) (wz : (Cond.initialized y.cls).before a0 Z = true) (hf : rm.frames + 1 ≤ R.frames) (hl : W + (maxL + 11) + rm.locals ≤ R.locals) (hEL : EW Z a0 EL) (H : CHv Z EL vm0 h) :
    BackS l R p e below (s.setVm vm0) args y len W (fun A a => a = as' ∧ A.U.heap = h ∧ A.cells + rm.cells ≤ R.cells ∧ A.slots + rm.slots ≤ R.slots)
      (fun A _ v B => ∃ L, Q v B.U.heap L ∧ B.locs = A.locs ++ L ∧ B.cells = A.cells + rm.cells ∧ B.slots = A.slots + rm.slots) :=
  BackS.of_freeW (bytes := bytes) (maxL := maxL) (ret := ret) (E := fun _ _ o t L k n => k = rm.cells ∧ n = rm.slots ∧ ∃ v, o = .returned v ∧ Q v t.heap L) hM hf hl
    (fun m meth c A a Y hp => by
      have hU : Z.Warmed39 A.U.vm := wtrans (s := s.setVm vm0) hZ Y.warmed
      exact ⟨by show (Cond.and _ .tt).before a A.U = true; rw [Cond.before_and, mv hU wc]; rfl, mv hU wc, mv hU wz, hp.2.2.1, hp.2.2.2⟩)
    (fun m meth c A a g mk Y hp => ⟨hp.1, wtrans (s := s.setVm vm0) hZ Y.warmed, hp.2.1, (CHv.at Y hZ hEL H).1⟩) (fun _ _ _ _ _ _ _ _ _ => trivial)
    (fun _ _ _ _ ⟨v, L, h1, h2, h3⟩ => ⟨L, _, _, h3, rfl, rfl, v, h1, h2⟩)
    (fun m meth c A a g mk v t L k n Y hp _ _ ⟨e1, e2, v', e3, e4⟩ => by cases e3; subst e1 e2; exact ⟨L, e4, rfl, rfl, rfl⟩)
theorem staKeep0 {C n d : String} {v : Value} (F : Sta Z h C n d v) (K : Keep h h' []) : Sta Z h' C n d v := by
  obtain ⟨cf, i, k, f, st, cell, h1, h2, h3, h4, h5, r⟩ := F
  exact ⟨cf, i, k, f, st, cell, h1, h2, h3, h4, K.2.1 _ _ h5 nin0, r⟩
theorem staKeepE {C n d O : String} {v : Value} {a : Addr} (F : Sta Z h C n d v) (K : Keep h h' [a]) (E : Exa Z h a O) : Sta Z h' C n d v := by
  obtain ⟨cf, i, k, f, st, cell, h1, h2, h3, h4, h5, h6, r⟩ := F
  obtain ⟨c', k', e1, -, -, e4, -⟩ := E
  have ne : st ≠ a := fun q => by subst q; cases h5.symm.trans e1; rw [h6] at e4; cases e4
  exact ⟨cf, i, k, f, st, cell, h1, h2, h3, h4, K.2.1 _ _ h5 (ninS ne nin0), h6, r⟩
/-- getfield where the sheet says the reference resolved -/
theorem getFR (X : Stand p l e R s m args below meth c T locs cells slots) (hx : p.tables.exec = Jvm.exec) (hZ : Z.Warmed39 s.vm) {a0 : Array Value} {own O n d : String} {index : Nat} (hown : s.vm.findClass own = some m.cls) (w : (Cond.fieldRef own index O n d).before a0 Z = true)
    (eT : T.heap = h) {a : Addr} {v : Value} (F : Fld Z h a O n d v) {g : JFrame} (hg : g.method = m) {rest : List Value} (hs : g.stack = .ref a :: rest) (hd : decode c.code g.pc = .ok (.getfield index, 3)) :
    ∀ target, Steps p.tables e below (T.setTop { g with pc := g.pc + 3, stack := v :: rest }) target → Steps p.tables e below (T.setTop g) target := by
  intro target hrest
  obtain ⟨cell, cf, k, i, f, h1, h2, h3, h4, -, -, h7⟩ := F
  have hW : Z.Warmed39 T.vm := wtrans hZ X.warmed
  have q := Cond.fieldRef_warmed39 hW w
  have hcur : (Z.setVm T.vm).vm.findClass own = some m.cls := by
    show T.vm.findClass own = some m.cls
    rw [X.warmed.alike.findClass]; exact hown
  obtain ⟨c', k', i', f', hi, hready⟩ := Cond.fieldRef_spec hcur q
  obtain ⟨k2, hi2, -⟩ := State.fieldFound?_setVm (s := Z) hW.alike h2
  have q3 : (Z.setVm T.vm).fieldFound? O n d = some (cf, k2, i, f) := hi2
  cases hi.symm.trans q3
  subst hg
  jvm_step X.here [hx, hd, getfield.wp_ready (e := e) (s := T) (f := g) X.here.top hready h3 hs (by rw [eT]; exact h1) h4 h7]
  exact hrest
/-- an array of that kind and length, whatever it holds -/
def Arn (Z : State) (h : Heap) (a : Addr) (ty : FieldType) (z : Int32) : Prop := ∃ c : Cell, Arr Z h a c ty ∧ c.slots.size = z.toNatClampNeg ∧ ¬ z < 0
section Arn
variable {a b : Addr} {ty : FieldType} {z : Int32} {sl : Nat} {v : Value} {ws : List Addr}
theorem Arn.lt (F : Arn Z h a ty z) : a < h.size := by obtain ⟨c, A, -⟩ := F; exact A.lt
theorem Arn.nn (F : Arn Z h a ty z) : ¬ z < 0 := by obtain ⟨c, -, -, q⟩ := F; exact q
theorem Arn.ext (F : Arn Z h a ty z) (E : Ext h h') : Arn Z h' a ty z := by obtain ⟨c, A, r⟩ := F; exact ⟨c, A.ext E, r⟩
theorem Arn.other (F : Arn Z h b ty z) (W : Wr h h' a sl v) (q : b ≠ a) : Arn Z h' b ty z := by obtain ⟨c, A, r⟩ := F; exact ⟨c, A.other W q, r⟩
theorem Arn.keep (F : Arn Z h a ty z) (K : Keep h h' ws) (q : a ∉ ws) : Arn Z h' a ty z := by obtain ⟨c, A, r⟩ := F; exact ⟨c, ⟨K.2.1 a c A.1 q, A.2⟩, r⟩
theorem Arn.set {c : Cell} (A : Arr Z h a c ty) (S : c.slots.size = z.toNatClampNeg) (q : ¬ z < 0) (W : Wr h h' a sl v) : Arn Z h' a ty z := ⟨_, A.same W, by rw [sz_set]; exact S, q⟩
theorem Arv.arn {k : ClassId} {vs : List Value} {dv : Value} (F : Arv Z h a k ty z vs dv) : Arn Z h a ty z := by obtain ⟨c, A, -, S, q, -⟩ := F; exact ⟨c, A, S, q⟩
end Arn
theorem staKeepA {C n d : String} {v : Value} {a : Addr} {ty : FieldType} {z : Int32} (F : Sta Z h C n d v) (K : Keep h h' [a]) (E : Arn Z h a ty z) : Sta Z h' C n d v := by
  obtain ⟨cf, i, k, f, st, cell, h1, h2, h3, h4, h5, h6, r⟩ := F
  obtain ⟨c', A, -⟩ := E
  have e4 := A.plain
  have ne : st ≠ a := fun q => by subst q; cases h5.symm.trans A.1; rw [h6] at e4; cases e4
  exact ⟨cf, i, k, f, st, cell, h1, h2, h3, h4, K.2.1 _ _ h5 (ninS ne nin0), h6, r⟩
theorem own_nn {n : Int32} (h : 0 ≤ n.toInt) : ¬ n < 0 := by rw [Int32.lt_iff_toInt_lt]; show ¬ n.toInt < 0; omega
theorem own_cap {n : Int32} {k : Nat} (h : n.toInt ≤ k) : n.toNatClampNeg ≤ k := by simp only [Int32.toNatClampNeg]; omega
theorem own_inc {i z : Int32} (h0 : ¬ i < 0) (h : i < z) : ¬ (i + 1) < 0 ∧ (i + 1).toInt = i.toInt + 1 := by
  have h1 := c_iadd i 1; have h2 := rng32 z; have h3 := rng32 i; have h4 := rng32 (i + 1)
  rw [Int32.lt_iff_toInt_lt] at h0 h ⊢
  have e0 : (0 : Int32).toInt = 0 := rfl
  have e1 : (1 : Int32).toInt = 1 := rfl
  rw [e0] at h0 ⊢; rw [e1] at h1
  omega
theorem own_ge {i z : Int32} (h : z.toInt ≤ i.toInt) : ¬ i < z := by rw [Int32.lt_iff_toInt_lt]; omega
theorem staInt {args : Array Value} {C n d : String} {k : Int32} (h : (Cond.eq (.static C n d) (.int k)).value args Z none Z [] = some true) (hi : (Cond.initializedFor C n d).before args Z = true ∨ ((Cond.initialized C).before args Z = true ∧ (Cond.laysStatic C n d).before args Z = true)) : Sta Z Z.heap C n d (.int k) := by
  obtain ⟨x, y, e1, e2, k1, -⟩ := cmp_v (Or.inl h)
  have e3 : (Term.int k).eval args Z none [] Z = some (.int k) := Term.int_eval k
  cases e2.symm.trans e3
  cases x with
  | int z =>
    have q : (Cond.eq (.static C n d) (.int k)).value args Z none Z [] = some (decide (z = k)) := by simp [Cond.value, e1, e3]
    exact (gotT q h) ▸ Sta.start e1 hi
  | _ => simp [Kin, Value.isRef] at k1
theorem fldNull {args : Array Value} {t : Term} {C n d : String} {a : Addr} (ev : t.eval args Z none [] Z = some (.ref a)) (h : (Cond.eq (.field t C n d) .null).value args Z none Z [] = some true) : Fld Z Z.heap a C n d .null := by
  have e1 := null_v h
  rw [fld_at ev] at e1
  exact Fld.start e1
theorem fldStart {args : Array Value} {t : Term} {C n d : String} {a : Addr} {k : Int32} (ev : t.eval args Z none [] Z = some (.ref a)) (h : (Cond.eq (.field t C n d) (.int k)).value args Z none Z [] = some true) : Fld Z Z.heap a C n d (.int k) := by
  obtain ⟨x, y, e1, e2, k1, -⟩ := cmp_v (Or.inl h)
  rw [fld_at ev] at e1
  have e3 : (Term.int k).eval args Z none [] Z = some (.int k) := Term.int_eval k
  cases e2.symm.trans e3
  cases x with
  | int z =>
    have q : (Cond.eq (.field t C n d) (.int k)).value args Z none Z [] = some (decide (z = k)) := by simp [Cond.value, (fld_at ev).trans e1, e3]
    exact (gotT q h) ▸ Fld.start e1
  | _ => simp [Kin, Value.isRef] at k1
end Own
end Jvm.RoadKit
namespace Jvm.Pilot.@@N@@
open Jvm Jvm.ClassFile Sem Op Lib Jvm.Free Jvm.Stand Jvm.LawKit Jvm.RoadKit Bundle Jvm.Pilot.@@N@@.Jvm.D
theorem own_sites (x : Int32) : 1 ≤ ((x &&& (7 : Int32)) + (1 : Int32)).toInt ∧ ((x &&& (7 : Int32)) + (1 : Int32)).toInt ≤ 8 := by
  have h2 := c_mask x (7 : Int32) 3 (by decide) (by decide)
  have h3 := c_iadd (x &&& (7 : Int32)) (1 : Int32)
  have h4 := rng32 ((x &&& (7 : Int32)) + (1 : Int32))
  have e1 : (1 : Int32).toInt = 1 := rfl
  rw [e1] at h3
  omega
theorem own_kinds (x : Int32) : 0 ≤ (((x.toUInt32 >>> ((3 : Int32) &&& 31).toUInt32).toInt32) &&& (3 : Int32)).toInt ∧ (((x.toUInt32 >>> ((3 : Int32) &&& 31).toUInt32).toInt32) &&& (3 : Int32)).toInt ≤ 3 := by
  have h2 := c_mask ((x.toUInt32 >>> ((3 : Int32) &&& 31).toUInt32).toInt32) (3 : Int32) 2 (by decide) (by decide)
  omega
theorem own_n0 {z : Int32} (h : ¬ z < 0) : 0 ≤ z.toInt := by rw [Int32.lt_iff_toInt_lt] at h; have e0 : (0 : Int32).toInt = 0 := rfl; omega
theorem own_kw {z q : Int32} (h0 : 0 ≤ z.toInt) (hz : z.toInt ≤ 3) (hs : 1 ≤ q.toInt ∧ q.toInt ≤ 8) : 0 ≤ (z * (((q + (64 : Int32)) - (1 : Int32)) / (64 : Int32))).toInt ∧ (z * (((q + (64 : Int32)) - (1 : Int32)) / (64 : Int32))).toInt ≤ 3 := by
  have h1 := c_iadd q (64 : Int32)
  have h2 := c_isub (q + (64 : Int32)) (1 : Int32)
  have h3 := rng32 (q + (64 : Int32))
  have h4 := rng32 ((q + (64 : Int32)) - (1 : Int32))
  have e1 : (1 : Int32).toInt = 1 := rfl
  have e64 : (64 : Int32).toInt = 64 := rfl
  rw [e64] at h1; rw [e1] at h2
  have h5 := (c_idiv ((q + (64 : Int32)) - (1 : Int32)) (64 : Int32) 64 rfl (by decide)).1 (by omega)
  have h6 : (((q + (64 : Int32)) - (1 : Int32)) / (64 : Int32)).toInt = 1 := by omega
  have h7 : ((q + (64 : Int32)) - (1 : Int32)) / (64 : Int32) = 1 := Int32.toInt_inj.mp (h6.trans rfl)
  have h8 := c_imul z (((q + (64 : Int32)) - (1 : Int32)) / (64 : Int32))
  have h9 := rng32 (z * (((q + (64 : Int32)) - (1 : Int32)) / (64 : Int32)))
  rw [h6] at h8
  omega

theorem pn_0 : plainName "com/example/tabulon/tabulon/game/StatePassTurnPinLaw" = true := by first | (simp [plainName, overriddenIn]; done) | decide +kernel
theorem ef_0 (m : MethodId) (x0 : Int32) (x1 : Int32) (x2 : Int32) (x3 : Int32) (x4 : Int64) (x5 : Int32) : entryFrame m #[(.int x0), (.int x1), (.int x2), (.int x3), (.long x4), (.int x5)] maxLocals = mkF m 0 #[.val (.int x0), .val (.int x1), .val (.int x2), .val (.int x3), .val (.long x4), .second, .val (.int x5), .unset, .unset, .unset, .unset, .unset, .unset, .unset, .unset] [] := by first | (simp [entryFrame, mkF, argsToLocals, Value.category, maxLocals]; done) | rfl
theorem d1_0 : decode prog_93_method_1_code 0 = .ok (.aload_n 0, 1) := by decide +kernel
theorem d1_1 : decode prog_93_method_1_code 1 = .ok (.invokespecial 1, 3) := by decide +kernel
theorem d1_4 : decode prog_93_method_1_code 4 = .ok (.aload_n 0, 1) := by decide +kernel
theorem d1_5 : decode prog_93_method_1_code 5 = .ok (.getstatic 7, 3) := by decide +kernel
theorem d1_8 : decode prog_93_method_1_code 8 = .ok (.putfield 13, 3) := by decide +kernel
theorem d1_11 : decode prog_93_method_1_code 11 = .ok (.aload_n 2, 1) := by decide +kernel
theorem d1_12 : decode prog_93_method_1_code 12 = .ok (.arraylength, 1) := by decide +kernel
theorem d1_13 : decode prog_93_method_1_code 13 = .ok (.istore 4, 2) := by decide +kernel
theorem d1_15 : decode prog_93_method_1_code 15 = .ok (.aload_n 0, 1) := by decide +kernel
theorem d1_16 : decode prog_93_method_1_code 16 = .ok (.iload_n 1, 1) := by decide +kernel
theorem d1_17 : decode prog_93_method_1_code 17 = .ok (.newarray .int, 2) := by decide +kernel
theorem d1_19 : decode prog_93_method_1_code 19 = .ok (.putfield 16, 3) := by decide +kernel
theorem d1_22 : decode prog_93_method_1_code 22 = .ok (.aload_n 0, 1) := by decide +kernel
theorem d1_23 : decode prog_93_method_1_code 23 = .ok (.getfield 16, 3) := by decide +kernel
theorem d1_26 : decode prog_93_method_1_code 26 = .ok (.iconst (-1), 1) := by decide +kernel
theorem d1_27 : decode prog_93_method_1_code 27 = .ok (.invokestatic 20, 3) := by decide +kernel
theorem d1_30 : decode prog_93_method_1_code 30 = .ok (.aload_n 0, 1) := by decide +kernel
theorem d1_31 : decode prog_93_method_1_code 31 = .ok (.iload_n 1, 1) := by decide +kernel
theorem d1_32 : decode prog_93_method_1_code 32 = .ok (.bipush 64, 2) := by decide +kernel
theorem d1_34 : decode prog_93_method_1_code 34 = .ok (.iadd, 1) := by decide +kernel
theorem d1_35 : decode prog_93_method_1_code 35 = .ok (.iconst 1, 1) := by decide +kernel
theorem d1_36 : decode prog_93_method_1_code 36 = .ok (.isub, 1) := by decide +kernel
theorem d1_37 : decode prog_93_method_1_code 37 = .ok (.bipush 64, 2) := by decide +kernel
theorem d1_39 : decode prog_93_method_1_code 39 = .ok (.idiv, 1) := by decide +kernel
theorem d1_40 : decode prog_93_method_1_code 40 = .ok (.putfield 28, 3) := by decide +kernel
theorem d1_43 : decode prog_93_method_1_code 43 = .ok (.aload_n 0, 1) := by decide +kernel
theorem d1_44 : decode prog_93_method_1_code 44 = .ok (.iload 4, 2) := by decide +kernel
theorem d1_46 : decode prog_93_method_1_code 46 = .ok (.aload_n 0, 1) := by decide +kernel
theorem d1_47 : decode prog_93_method_1_code 47 = .ok (.getfield 28, 3) := by decide +kernel
theorem d1_50 : decode prog_93_method_1_code 50 = .ok (.imul, 1) := by decide +kernel
theorem d1_51 : decode prog_93_method_1_code 51 = .ok (.newarray .long, 2) := by decide +kernel
theorem d1_53 : decode prog_93_method_1_code 53 = .ok (.putfield 32, 3) := by decide +kernel
theorem d1_56 : decode prog_93_method_1_code 56 = .ok (.aload_n 0, 1) := by decide +kernel
theorem d1_57 : decode prog_93_method_1_code 57 = .ok (.aload_n 2, 1) := by decide +kernel
theorem d1_58 : decode prog_93_method_1_code 58 = .ok (.putfield 36, 3) := by decide +kernel
theorem d1_61 : decode prog_93_method_1_code 61 = .ok (.aload_n 0, 1) := by decide +kernel
theorem d1_62 : decode prog_93_method_1_code 62 = .ok (.iload_n 1, 1) := by decide +kernel
theorem d1_63 : decode prog_93_method_1_code 63 = .ok (.newarray .boolean, 2) := by decide +kernel
theorem d1_65 : decode prog_93_method_1_code 65 = .ok (.putfield 39, 3) := by decide +kernel
theorem d1_68 : decode prog_93_method_1_code 68 = .ok (.aload_n 0, 1) := by decide +kernel
theorem d1_69 : decode prog_93_method_1_code 69 = .ok (.getfield 39, 3) := by decide +kernel
theorem d1_72 : decode prog_93_method_1_code 72 = .ok (.iconst 1, 1) := by decide +kernel
theorem d1_73 : decode prog_93_method_1_code 73 = .ok (.invokestatic 43, 3) := by decide +kernel
theorem d1_76 : decode prog_93_method_1_code 76 = .ok (.aload_n 0, 1) := by decide +kernel
theorem d1_77 : decode prog_93_method_1_code 77 = .ok (.iload 4, 2) := by decide +kernel
theorem d1_79 : decode prog_93_method_1_code 79 = .ok (.newarray .int, 2) := by decide +kernel
theorem d1_81 : decode prog_93_method_1_code 81 = .ok (.putfield 46, 3) := by decide +kernel
theorem d1_84 : decode prog_93_method_1_code 84 = .ok (.aload_n 0, 1) := by decide +kernel
theorem d1_85 : decode prog_93_method_1_code 85 = .ok (.iload_n 3, 1) := by decide +kernel
theorem d1_86 : decode prog_93_method_1_code 86 = .ok (.putfield 49, 3) := by decide +kernel
theorem d1_89 : decode prog_93_method_1_code 89 = .ok (.return_, 1) := by decide +kernel
theorem pn_1 : plainName "com/example/tabulon/tabulon/game/State" = true := by first | (simp [plainName, overriddenIn]; done) | decide +kernel
theorem ef_1 (m : MethodId) (x0 : Addr) (x1 : Int32) (x2 : Addr) (x3 : Int32) : entryFrame m #[(.ref x0), (.int x1), (.ref x2), (.int x3)] 5 = mkF m 0 #[.val (.ref x0), .val (.int x1), .val (.ref x2), .val (.int x3), .unset] [] := by first | (simp [entryFrame, mkF, argsToLocals, Value.category]; done) | rfl
theorem d3_0 : decode jdk_65_method_103_code 0 = .ok (.iconst 0, 1) := by decide +kernel
theorem d3_1 : decode jdk_65_method_103_code 1 = .ok (.istore_n 2, 1) := by decide +kernel
theorem d3_2 : decode jdk_65_method_103_code 2 = .ok (.aload_n 0, 1) := by decide +kernel
theorem d3_3 : decode jdk_65_method_103_code 3 = .ok (.arraylength, 1) := by decide +kernel
theorem d3_4 : decode jdk_65_method_103_code 4 = .ok (.istore_n 3, 1) := by decide +kernel
theorem d3_5 : decode jdk_65_method_103_code 5 = .ok (.iload_n 2, 1) := by decide +kernel
theorem d3_6 : decode jdk_65_method_103_code 6 = .ok (.iload_n 3, 1) := by decide +kernel
theorem d3_7 : decode jdk_65_method_103_code 7 = .ok (.if_icmp .ge 13, 3) := by decide +kernel
theorem d3_10 : decode jdk_65_method_103_code 10 = .ok (.aload_n 0, 1) := by decide +kernel
theorem d3_11 : decode jdk_65_method_103_code 11 = .ok (.iload_n 2, 1) := by decide +kernel
theorem d3_12 : decode jdk_65_method_103_code 12 = .ok (.iload_n 1, 1) := by decide +kernel
theorem d3_13 : decode jdk_65_method_103_code 13 = .ok (.iastore, 1) := by decide +kernel
theorem d3_14 : decode jdk_65_method_103_code 14 = .ok (.iinc 2 1, 3) := by decide +kernel
theorem d3_17 : decode jdk_65_method_103_code 17 = .ok (.goto (-12), 3) := by decide +kernel
theorem d3_20 : decode jdk_65_method_103_code 20 = .ok (.return_, 1) := by decide +kernel
theorem pn_3 : plainName "java/util/Arrays" = true := by first | (simp [plainName, overriddenIn]; done) | decide +kernel
theorem ef_3 (m : MethodId) (x0 : Addr) (x1 : Int32) : entryFrame m #[(.ref x0), (.int x1)] 4 = mkF m 0 #[.val (.ref x0), .val (.int x1), .unset, .unset] [] := by first | (simp [entryFrame, mkF, argsToLocals, Value.category]; done) | rfl
theorem d4_0 : decode jdk_65_method_111_code 0 = .ok (.iconst 0, 1) := by decide +kernel
theorem d4_1 : decode jdk_65_method_111_code 1 = .ok (.istore_n 2, 1) := by decide +kernel
theorem d4_2 : decode jdk_65_method_111_code 2 = .ok (.aload_n 0, 1) := by decide +kernel
theorem d4_3 : decode jdk_65_method_111_code 3 = .ok (.arraylength, 1) := by decide +kernel
theorem d4_4 : decode jdk_65_method_111_code 4 = .ok (.istore_n 3, 1) := by decide +kernel
theorem d4_5 : decode jdk_65_method_111_code 5 = .ok (.iload_n 2, 1) := by decide +kernel
theorem d4_6 : decode jdk_65_method_111_code 6 = .ok (.iload_n 3, 1) := by decide +kernel
theorem d4_7 : decode jdk_65_method_111_code 7 = .ok (.if_icmp .ge 13, 3) := by decide +kernel
theorem d4_10 : decode jdk_65_method_111_code 10 = .ok (.aload_n 0, 1) := by decide +kernel
theorem d4_11 : decode jdk_65_method_111_code 11 = .ok (.iload_n 2, 1) := by decide +kernel
theorem d4_12 : decode jdk_65_method_111_code 12 = .ok (.iload_n 1, 1) := by decide +kernel
theorem d4_13 : decode jdk_65_method_111_code 13 = .ok (.bastore, 1) := by decide +kernel
theorem d4_14 : decode jdk_65_method_111_code 14 = .ok (.iinc 2 1, 3) := by decide +kernel
theorem d4_17 : decode jdk_65_method_111_code 17 = .ok (.goto (-12), 3) := by decide +kernel
theorem d4_20 : decode jdk_65_method_111_code 20 = .ok (.return_, 1) := by decide +kernel
theorem pn_4 : plainName "java/util/Arrays" = true := by first | (simp [plainName, overriddenIn]; done) | decide +kernel
theorem ef_4 (m : MethodId) (x0 : Addr) (x1 : Int32) : entryFrame m #[(.ref x0), (.int x1)] 4 = mkF m 0 #[.val (.ref x0), .val (.int x1), .unset, .unset] [] := by first | (simp [entryFrame, mkF, argsToLocals, Value.category]; done) | rfl
theorem d5_0 : decode prog_68_method_1_code 0 = .ok (.aload_n 0, 1) := by decide +kernel
theorem d5_1 : decode prog_68_method_1_code 1 = .ok (.iload_n 1, 1) := by decide +kernel
theorem d5_2 : decode prog_68_method_1_code 2 = .ok (.iload_n 2, 1) := by decide +kernel
theorem d5_3 : decode prog_68_method_1_code 3 = .ok (.iload_n 3, 1) := by decide +kernel
theorem d5_4 : decode prog_68_method_1_code 4 = .ok (.iconst 0, 1) := by decide +kernel
theorem d5_5 : decode prog_68_method_1_code 5 = .ok (.iconst (-1), 1) := by decide +kernel
theorem d5_6 : decode prog_68_method_1_code 6 = .ok (.iconst (-1), 1) := by decide +kernel
theorem d5_7 : decode prog_68_method_1_code 7 = .ok (.invokespecial 29, 3) := by decide +kernel
theorem d5_10 : decode prog_68_method_1_code 10 = .ok (.return_, 1) := by decide +kernel
theorem pn_5 : plainName "com/example/tabulon/tabulon/game/Move" = true := by first | (simp [plainName, overriddenIn]; done) | decide +kernel
theorem ef_5 (m : MethodId) (x0 : Addr) (x1 : Int32) (x2 : Int32) (x3 : Int32) : entryFrame m #[(.ref x0), (.int x1), (.int x2), (.int x3)] 4 = mkF m 0 #[.val (.ref x0), .val (.int x1), .val (.int x2), .val (.int x3)] [] := by first | (simp [entryFrame, mkF, argsToLocals, Value.category]; done) | rfl
theorem d6_0 : decode prog_68_method_2_code 0 = .ok (.aload_n 0, 1) := by decide +kernel
theorem d6_1 : decode prog_68_method_2_code 1 = .ok (.invokespecial 1, 3) := by decide +kernel
theorem d6_4 : decode prog_68_method_2_code 4 = .ok (.aload_n 0, 1) := by decide +kernel
theorem d6_5 : decode prog_68_method_2_code 5 = .ok (.iload_n 1, 1) := by decide +kernel
theorem d6_6 : decode prog_68_method_2_code 6 = .ok (.putfield 7, 3) := by decide +kernel
theorem d6_9 : decode prog_68_method_2_code 9 = .ok (.aload_n 0, 1) := by decide +kernel
theorem d6_10 : decode prog_68_method_2_code 10 = .ok (.iload_n 2, 1) := by decide +kernel
theorem d6_11 : decode prog_68_method_2_code 11 = .ok (.putfield 13, 3) := by decide +kernel
theorem d6_14 : decode prog_68_method_2_code 14 = .ok (.aload_n 0, 1) := by decide +kernel
theorem d6_15 : decode prog_68_method_2_code 15 = .ok (.iload_n 3, 1) := by decide +kernel
theorem d6_16 : decode prog_68_method_2_code 16 = .ok (.putfield 16, 3) := by decide +kernel
theorem d6_19 : decode prog_68_method_2_code 19 = .ok (.aload_n 0, 1) := by decide +kernel
theorem d6_20 : decode prog_68_method_2_code 20 = .ok (.iload 4, 2) := by decide +kernel
theorem d6_22 : decode prog_68_method_2_code 22 = .ok (.putfield 19, 3) := by decide +kernel
theorem d6_25 : decode prog_68_method_2_code 25 = .ok (.aload_n 0, 1) := by decide +kernel
theorem d6_26 : decode prog_68_method_2_code 26 = .ok (.iload 5, 2) := by decide +kernel
theorem d6_28 : decode prog_68_method_2_code 28 = .ok (.putfield 23, 3) := by decide +kernel
theorem d6_31 : decode prog_68_method_2_code 31 = .ok (.aload_n 0, 1) := by decide +kernel
theorem d6_32 : decode prog_68_method_2_code 32 = .ok (.iload 6, 2) := by decide +kernel
theorem d6_34 : decode prog_68_method_2_code 34 = .ok (.putfield 26, 3) := by decide +kernel
theorem d6_37 : decode prog_68_method_2_code 37 = .ok (.return_, 1) := by decide +kernel
theorem pn_6 : plainName "com/example/tabulon/tabulon/game/Move" = true := by first | (simp [plainName, overriddenIn]; done) | decide +kernel
theorem ef_6 (m : MethodId) (x0 : Addr) (x1 : Int32) (x2 : Int32) (x3 : Int32) (x4 : Int32) (x5 : Int32) (x6 : Int32) : entryFrame m #[(.ref x0), (.int x1), (.int x2), (.int x3), (.int x4), (.int x5), (.int x6)] 7 = mkF m 0 #[.val (.ref x0), .val (.int x1), .val (.int x2), .val (.int x3), .val (.int x4), .val (.int x5), .val (.int x6)] [] := by first | (simp [entryFrame, mkF, argsToLocals, Value.category]; done) | rfl
theorem d7_0 : decode jdk_30_method_1_code 0 = .ok (.aload_n 0, 1) := by decide +kernel
theorem d7_1 : decode jdk_30_method_1_code 1 = .ok (.invokespecial 1, 3) := by decide +kernel
theorem d7_4 : decode jdk_30_method_1_code 4 = .ok (.return_, 1) := by decide +kernel
theorem pn_7 : plainName "java/lang/Record" = true := by first | (simp [plainName, overriddenIn]; done) | decide +kernel
theorem ef_7 (m : MethodId) (x0 : Addr) : entryFrame m #[(.ref x0)] 1 = mkF m 0 #[.val (.ref x0)] [] := by first | (simp [entryFrame, mkF, argsToLocals, Value.category]; done) | rfl
theorem d8_0 : decode prog_93_method_29_code 0 = .ok (.aload_n 0, 1) := by decide +kernel
theorem d8_1 : decode prog_93_method_29_code 1 = .ok (.iload_n 2, 1) := by decide +kernel
theorem d8_2 : decode prog_93_method_29_code 2 = .ok (.putfield 49, 3) := by decide +kernel
theorem d8_5 : decode prog_93_method_29_code 5 = .ok (.aload_n 0, 1) := by decide +kernel
theorem d8_6 : decode prog_93_method_29_code 6 = .ok (.dup, 1) := by decide +kernel
theorem d8_7 : decode prog_93_method_29_code 7 = .ok (.getfield 68, 3) := by decide +kernel
theorem d8_10 : decode prog_93_method_29_code 10 = .ok (.iconst 1, 1) := by decide +kernel
theorem d8_11 : decode prog_93_method_29_code 11 = .ok (.iadd, 1) := by decide +kernel
theorem d8_12 : decode prog_93_method_29_code 12 = .ok (.putfield 68, 3) := by decide +kernel
theorem d8_15 : decode prog_93_method_29_code 15 = .ok (.aload_n 0, 1) := by decide +kernel
theorem d8_16 : decode prog_93_method_29_code 16 = .ok (.aload_n 0, 1) := by decide +kernel
theorem d8_17 : decode prog_93_method_29_code 17 = .ok (.getfield 71, 3) := by decide +kernel
theorem d8_20 : decode prog_93_method_29_code 20 = .ok (.putfield 75, 3) := by decide +kernel
theorem d8_23 : decode prog_93_method_29_code 23 = .ok (.aload_n 0, 1) := by decide +kernel
theorem d8_24 : decode prog_93_method_29_code 24 = .ok (.aload_n 1, 1) := by decide +kernel
theorem d8_25 : decode prog_93_method_29_code 25 = .ok (.putfield 71, 3) := by decide +kernel
theorem d8_28 : decode prog_93_method_29_code 28 = .ok (.return_, 1) := by decide +kernel
theorem pn_8 : plainName "com/example/tabulon/tabulon/game/State" = true := by first | (simp [plainName, overriddenIn]; done) | decide +kernel
theorem ef_8 (m : MethodId) (x0 : Addr) (x1 : Addr) (x2 : Int32) : entryFrame m #[(.ref x0), (.ref x1), (.int x2)] 3 = mkF m 0 #[.val (.ref x0), .val (.ref x1), .val (.int x2)] [] := by first | (simp [entryFrame, mkF, argsToLocals, Value.category]; done) | rfl
theorem d9_0 : decode prog_93_method_9_code 0 = .ok (.aload_n 0, 1) := by decide +kernel
theorem d9_1 : decode prog_93_method_9_code 1 = .ok (.getfield 49, 3) := by decide +kernel
theorem d9_4 : decode prog_93_method_9_code 4 = .ok (.ireturn, 1) := by decide +kernel
theorem pn_9 : plainName "com/example/tabulon/tabulon/game/State" = true := by first | (simp [plainName, overriddenIn]; done) | decide +kernel
theorem ef_9 (m : MethodId) (x0 : Addr) : entryFrame m #[(.ref x0)] 1 = mkF m 0 #[.val (.ref x0)] [] := by first | (simp [entryFrame, mkF, argsToLocals, Value.category]; done) | rfl
theorem d10_0 : decode prog_93_method_13_code 0 = .ok (.aload_n 0, 1) := by decide +kernel
theorem d10_1 : decode prog_93_method_13_code 1 = .ok (.getfield 68, 3) := by decide +kernel
theorem d10_4 : decode prog_93_method_13_code 4 = .ok (.ireturn, 1) := by decide +kernel
theorem pn_10 : plainName "com/example/tabulon/tabulon/game/State" = true := by first | (simp [plainName, overriddenIn]; done) | decide +kernel
theorem ef_10 (m : MethodId) (x0 : Addr) : entryFrame m #[(.ref x0)] 1 = mkF m 0 #[.val (.ref x0)] [] := by first | (simp [entryFrame, mkF, argsToLocals, Value.category]; done) | rfl
theorem d11_0 : decode prog_93_method_14_code 0 = .ok (.aload_n 0, 1) := by decide +kernel
theorem d11_1 : decode prog_93_method_14_code 1 = .ok (.getfield 71, 3) := by decide +kernel
theorem d11_4 : decode prog_93_method_14_code 4 = .ok (.areturn, 1) := by decide +kernel
theorem pn_11 : plainName "com/example/tabulon/tabulon/game/State" = true := by first | (simp [plainName, overriddenIn]; done) | decide +kernel
theorem ef_11 (m : MethodId) (x0 : Addr) : entryFrame m #[(.ref x0)] 1 = mkF m 0 #[.val (.ref x0)] [] := by first | (simp [entryFrame, mkF, argsToLocals, Value.category]; done) | rfl
theorem d12_0 : decode prog_93_method_15_code 0 = .ok (.aload_n 0, 1) := by decide +kernel
theorem d12_1 : decode prog_93_method_15_code 1 = .ok (.getfield 75, 3) := by decide +kernel
theorem d12_4 : decode prog_93_method_15_code 4 = .ok (.areturn, 1) := by decide +kernel
theorem pn_12 : plainName "com/example/tabulon/tabulon/game/State" = true := by first | (simp [plainName, overriddenIn]; done) | decide +kernel
theorem ef_12 (m : MethodId) (x0 : Addr) : entryFrame m #[(.ref x0)] 1 = mkF m 0 #[.val (.ref x0)] [] := by first | (simp [entryFrame, mkF, argsToLocals, Value.category]; done) | rfl
theorem d13_0 : decode prog_93_method_11_code 0 = .ok (.aload_n 0, 1) := by decide +kernel
theorem d13_1 : decode prog_93_method_11_code 1 = .ok (.getfield 64, 3) := by decide +kernel
theorem d13_4 : decode prog_93_method_11_code 4 = .ok (.ireturn, 1) := by decide +kernel
theorem pn_13 : plainName "com/example/tabulon/tabulon/game/State" = true := by first | (simp [plainName, overriddenIn]; done) | decide +kernel
theorem ef_13 (m : MethodId) (x0 : Addr) : entryFrame m #[(.ref x0)] 1 = mkF m 0 #[.val (.ref x0)] [] := by first | (simp [entryFrame, mkF, argsToLocals, Value.category]; done) | rfl
theorem pd_0 : parseMethodDescriptor "()V" = some ⟨[], none⟩ := by decide +kernel
theorem pd_1 : parseMethodDescriptor "(IIIZII)V" = some ⟨[.int, .int, .int, .boolean, .int, .int], none⟩ := by decide +kernel
theorem pd_2 : parseMethodDescriptor "([II)V" = some ⟨[(.array .int), .int], none⟩ := by decide +kernel
theorem pd_3 : parseMethodDescriptor "([ZZ)V" = some ⟨[(.array .boolean), .boolean], none⟩ := by decide +kernel
theorem pd_4 : parseMethodDescriptor "(I[II)V" = some ⟨[.int, (.array .int), .int], none⟩ := by decide +kernel
theorem pd_5 : parseMethodDescriptor "(III)V" = some ⟨[.int, .int, .int], none⟩ := by decide +kernel
theorem pd_6 : parseMethodDescriptor "(Lcom/example/tabulon/tabulon/game/Move;I)V" = some ⟨[(.object "com/example/tabulon/tabulon/game/Move"), .int], none⟩ := by decide +kernel
theorem pd_7 : parseMethodDescriptor "()I" = some ⟨[], some .int⟩ := by decide +kernel
theorem pd_8 : parseMethodDescriptor "()Lcom/example/tabulon/tabulon/game/Move;" = some ⟨[], some (.object "com/example/tabulon/tabulon/game/Move")⟩ := by decide +kernel
theorem pd_9 : parseMethodDescriptor "()Z" = some ⟨[], some .boolean⟩ := by decide +kernel
def Qm3_o (Z : State) (a1 : Addr) (p2 : Int32) (z0 : Int32) (h0 : Heap) (n0 : Nat) (v : Option Value) (h : Heap) (L : List Loc) : Prop := v = none ∧ Fr n0 L ∧ Keep h0 h [a1] ∧ Arn Z h a1 .int z0
set_option maxRecDepth 65536 in
set_option maxHeartbeats 40000000 in
theorem rm3_o (l : Launch) (Z : State) (a0 : Array Value) (hw : ∀ d ∈ tables_1, d.before a0 Z = true) (ws : List Jvm.Cond) (a1 : Addr) (p2 : Int32) (z0 : Int32) (h0 : Heap) (n0 : Nat) (Z0 : n0 ≤ h0.size) (V_a1 : Arn Z h0 a1 .int z0) (g_a1 : n0 ≤ a1) :
    MetFree l (⟨"java/util/Arrays", "fill", "([II)V"⟩ : MethodName) (head1 (Jvm.Cond.code (⟨"java/util/Arrays", "fill", "([II)V"⟩ : MethodName) jdk_65_method_103_code 4 none :: ws) ({ frames := 0, cells := 0, slots := 0, locals := 0 } : Room)) (fun a U => a = #[(.ref a1), (.int p2)] ∧ Z.Warmed39 U.vm ∧ U.heap = h0) (fun _ _ _ _ _ => True) (fun _ U o U' => ∃ v L, o = .returned v ∧ Qm3_o Z a1 p2 z0 h0 n0 v U'.heap L ∧ FrameEnd U o U' L ({ frames := 0, cells := 0, slots := 0, locals := 0 } : Room).cells ({ frames := 0, cells := 0, slots := 0, locals := 0 } : Room).slots) := by
  refine MetFree.of_bodySF (plainFor_of_name pn_3) hisR ?_
  intro p e s m args below meth c s₁ Bd hml0 hP hK
  obtain ⟨rfl, hZ, hh⟩ := hP
  have hx := Bd.exec
  have hby := Bd.bytes
  have hml : c.maxLocals = 4 := hml0
  have hown : s.vm.findClass "java/util/Arrays" = some m.cls := findClass_of_methodNamed Bd.named
  have hnm := (name_of_methodNamed Bd.named Bd.method).1
  have X0 : Stand p l e ({ frames := 0, cells := 0, slots := 0, locals := 0 } : Room) s m #[(.ref a1), (.int p2)] below meth c s₁ [] 0 0 := Stand.of_body Bd
  have e0 : s₁.heap = h0 := by rw [← hh, Bd.state]; rfl
  have N0 := Fr.nil n0
  refine Go.en (ef_3 m a1 p2) ?_
  show Go p e below _ (s₁.setTop (mkF m 0 #[.val (.ref a1), .val (.int p2), .unset, .unset] []))
  refine Go.st (fun _ kk => XS.iconst X0.here hx rfl (hb hby d3_0) kk) ?_
  show Go p e below _ (s₁.setTop (mkF m 1 #[.val (.ref a1), .val (.int p2), .unset, .unset] [(.int (0 : Int32))]))
  refine Go.st (fun _ kk => XS.istoreN X0.here hx rfl (hb hby d3_1) rfl (l' := #[.val (.ref a1), .val (.int p2), .val (.int (0 : Int32)), .unset]) rfl kk) ?_
  show Go p e below _ (s₁.setTop (mkF m 2 #[.val (.ref a1), .val (.int p2), .val (.int (0 : Int32)), .unset] []))
  refine Go.st (fun _ kk => XS.aloadN X0.here hx rfl (hb hby d3_2) rfl rfl  kk) ?_
  show Go p e below _ (s₁.setTop (mkF m 3 #[.val (.ref a1), .val (.int p2), .val (.int (0 : Int32)), .unset] [(.ref a1)]))
  obtain ⟨clq3, Arq3, saq3, naq3⟩ := id V_a1
  refine Go.st (fun _ kk => X0.arraylength hx (by rw [e0]; exact Arq3.1) (State.isArrayOf_alike hZ.alike Arq3.2.1) (g := (mkF m 3 #[.val (.ref a1), .val (.int p2), .val (.int (0 : Int32)), .unset] [(.ref a1)])) rfl rfl (hb hby d3_3) _ kk) ?_
  rw [len_of saq3 naq3]
  show Go p e below _ (s₁.setTop (mkF m 4 #[.val (.ref a1), .val (.int p2), .val (.int (0 : Int32)), .unset] [(.int z0)]))
  refine Go.st (fun _ kk => XS.istoreN X0.here hx rfl (hb hby d3_4) rfl (l' := #[.val (.ref a1), .val (.int p2), .val (.int (0 : Int32)), .val (.int z0)]) rfl kk) ?_
  show Go p e below _ (s₁.setTop (mkF m 5 #[.val (.ref a1), .val (.int p2), .val (.int (0 : Int32)), .val (.int z0)] []))
  have loop : ∀ (n : Nat) (i : Int32) (T : State) (h : Heap) (locs : List Loc), z0.toInt ≤ i.toInt + n → ¬ i < 0 → Stand p l e ({ frames := 0, cells := 0, slots := 0, locals := 0 } : Room) s m #[(.ref a1), (.int p2)] below meth c T locs 0 0 → T.heap = h → Fr n0 locs → Keep h0 h [a1] → Arn Z h a1 .int z0 → Go p e below (fun o s₂ => ∃ v L, o = .returned v ∧ Qm3_o Z a1 p2 z0 h0 n0 v s₂.heap L ∧ FrameEnd s o s₂ L ({ frames := 0, cells := 0, slots := 0, locals := 0 } : Room).cells ({ frames := 0, cells := 0, slots := 0, locals := 0 } : Room).slots) (T.setTop (mkF m 5 #[.val (.ref a1), .val (.int p2), .val (.int i), .val (.int z0)] [])) := by
    intro n
    induction n with
    | zero =>
      intro i T h locs hn hi X eT N K VV
      have hc : ¬ i < z0 := own_ge (by omega)
      refine Go.st (fun _ kk => XS.iloadN X.here hx rfl (hb hby d3_5) rfl  kk) ?_
      show Go p e below _ (T.setTop (mkF m 6 #[.val (.ref a1), .val (.int p2), .val (.int i), .val (.int z0)] [(.int i)]))
      refine Go.st (fun _ kk => XS.iloadN X.here hx rfl (hb hby d3_6) rfl  kk) ?_
      show Go p e below _ (T.setTop (mkF m 7 #[.val (.ref a1), .val (.int p2), .val (.int i), .val (.int z0)] [(.int z0), (.int i)]))
      refine Go.st (fun _ kk => XS.icmpYes X.here hx rfl (pc0 := 7) (pc' := 20) rfl (hb hby d3_7) rfl (flt hc).2.1 (by decide) (by decide) kk) ?_
      show Go p e below _ (T.setTop (mkF m 20 #[.val (.ref a1), .val (.int p2), .val (.int i), .val (.int z0)] []))
      exact Go.ret (Q := Qm3_o Z a1 p2 z0 h0 n0) X (v := none) (fun _ => rfl) Bd.notSynchronized (fun fs hr => X.returnOut hx Bd.returns (hb hby d3_20) hr) eT ⟨rfl, N, K, VV⟩ (by decide) (by decide)
    | succ n ih =>
      intro i T h locs hn hi X eT N K VV
      by_cases hc : i < z0
      · skip
        refine Go.st (fun _ kk => XS.iloadN X.here hx rfl (hb hby d3_5) rfl  kk) ?_
        show Go p e below _ (T.setTop (mkF m 6 #[.val (.ref a1), .val (.int p2), .val (.int i), .val (.int z0)] [(.int i)]))
        refine Go.st (fun _ kk => XS.iloadN X.here hx rfl (hb hby d3_6) rfl  kk) ?_
        show Go p e below _ (T.setTop (mkF m 7 #[.val (.ref a1), .val (.int p2), .val (.int i), .val (.int z0)] [(.int z0), (.int i)]))
        refine Go.st (fun _ kk => XS.icmpNo X.here hx rfl (hb hby d3_7) rfl (tlt hc).2.1 kk) ?_
        show Go p e below _ (T.setTop (mkF m 10 #[.val (.ref a1), .val (.int p2), .val (.int i), .val (.int z0)] []))
        refine Go.st (fun _ kk => XS.aloadN X.here hx rfl (hb hby d3_10) rfl rfl  kk) ?_
        show Go p e below _ (T.setTop (mkF m 11 #[.val (.ref a1), .val (.int p2), .val (.int i), .val (.int z0)] [(.ref a1)]))
        refine Go.st (fun _ kk => XS.iloadN X.here hx rfl (hb hby d3_11) rfl  kk) ?_
        show Go p e below _ (T.setTop (mkF m 12 #[.val (.ref a1), .val (.int p2), .val (.int i), .val (.int z0)] [(.int i), (.ref a1)]))
        refine Go.st (fun _ kk => XS.iloadN X.here hx rfl (hb hby d3_12) rfl  kk) ?_
        show Go p e below _ (T.setTop (mkF m 13 #[.val (.ref a1), .val (.int p2), .val (.int i), .val (.int z0)] [(.int p2), (.int i), (.ref a1)]))
        obtain ⟨clq4, Arq4, saq4, naq4⟩ := id VV
        have inq4 : ¬ (i < 0 ∨ clq4.slots.size ≤ (i).toNatClampNeg) := inb_of saq4 ⟨hi, hc⟩
        obtain ⟨T5, h5, X5, e5, W5, st5⟩ := stI X hx hZ eT Arq4 (j := i) inq4 (g := (mkF m 13 #[.val (.ref a1), .val (.int p2), .val (.int i), .val (.int z0)] [(.int p2), (.int i), (.ref a1)])) rfl rfl (hb hby d3_13)
        refine Go.st st5 ?_
        have K5 : Keep h0 h5 [a1] := K.wr W5 (Or.inl (List.mem_of_getElem? (i := 0) rfl))
        have V5 : Arn Z h5 a1 .int z0 := Arn.set Arq4 saq4 naq4 W5
        have N5 := Fr.snoc X5 N g_a1
        show Go p e below _ (T5.setTop (mkF m 14 #[.val (.ref a1), .val (.int p2), .val (.int i), .val (.int z0)] []))
        refine Go.st (fun _ kk => XS.iinc X5.here hx rfl (hb hby d3_14) rfl (l' := #[.val (.ref a1), .val (.int p2), .val (.int (i + (1 : Int32))), .val (.int z0)]) rfl kk) ?_
        show Go p e below _ (T5.setTop (mkF m 17 #[.val (.ref a1), .val (.int p2), .val (.int (i + (1 : Int32))), .val (.int z0)] []))
        refine Go.st (fun _ kk => XS.goto X5.here hx rfl (pc0 := 17) (pc' := 5) rfl (hb hby d3_17) (by decide) (by decide) kk) ?_
        show Go p e below _ (T5.setTop (mkF m 5 #[.val (.ref a1), .val (.int p2), .val (.int (i + (1 : Int32))), .val (.int z0)] []))
        exact ih (i + 1) _ _ _ (by have := (own_inc hi hc).2; omega) (own_inc hi hc).1 X5 e5 N5 K5 V5
      · skip
        refine Go.st (fun _ kk => XS.iloadN X.here hx rfl (hb hby d3_5) rfl  kk) ?_
        show Go p e below _ (T.setTop (mkF m 6 #[.val (.ref a1), .val (.int p2), .val (.int i), .val (.int z0)] [(.int i)]))
        refine Go.st (fun _ kk => XS.iloadN X.here hx rfl (hb hby d3_6) rfl  kk) ?_
        show Go p e below _ (T.setTop (mkF m 7 #[.val (.ref a1), .val (.int p2), .val (.int i), .val (.int z0)] [(.int z0), (.int i)]))
        refine Go.st (fun _ kk => XS.icmpYes X.here hx rfl (pc0 := 7) (pc' := 20) rfl (hb hby d3_7) rfl (flt hc).2.1 (by decide) (by decide) kk) ?_
        show Go p e below _ (T.setTop (mkF m 20 #[.val (.ref a1), .val (.int p2), .val (.int i), .val (.int z0)] []))
        exact Go.ret (Q := Qm3_o Z a1 p2 z0 h0 n0) X (v := none) (fun _ => rfl) Bd.notSynchronized (fun fs hr => X.returnOut hx Bd.returns (hb hby d3_20) hr) eT ⟨rfl, N, K, VV⟩ (by decide) (by decide)
  exact loop z0.toNatClampNeg (0 : Int32) _ _ _ (by simp only [Int32.toNatClampNeg]; show z0.toInt ≤ 0 + _; omega) (by decide) X0 e0 N0 (Keep.refl h0 [a1]) V_a1
def Qm4_o (Z : State) (a1 : Addr) (p2 : Int32) (z0 : Int32) (h0 : Heap) (n0 : Nat) (v : Option Value) (h : Heap) (L : List Loc) : Prop := v = none ∧ Fr n0 L ∧ Keep h0 h [a1] ∧ Arn Z h a1 .boolean z0
set_option maxRecDepth 65536 in
set_option maxHeartbeats 40000000 in
theorem rm4_o (l : Launch) (Z : State) (a0 : Array Value) (hw : ∀ d ∈ tables_1, d.before a0 Z = true) (ws : List Jvm.Cond) (a1 : Addr) (p2 : Int32) (z0 : Int32) (h0 : Heap) (n0 : Nat) (Z0 : n0 ≤ h0.size) (V_a1 : Arn Z h0 a1 .boolean z0) (g_a1 : n0 ≤ a1) :
    MetFree l (⟨"java/util/Arrays", "fill", "([ZZ)V"⟩ : MethodName) (head1 (Jvm.Cond.code (⟨"java/util/Arrays", "fill", "([ZZ)V"⟩ : MethodName) jdk_65_method_111_code 4 none :: ws) ({ frames := 0, cells := 0, slots := 0, locals := 0 } : Room)) (fun a U => a = #[(.ref a1), (.int p2)] ∧ Z.Warmed39 U.vm ∧ U.heap = h0) (fun _ _ _ _ _ => True) (fun _ U o U' => ∃ v L, o = .returned v ∧ Qm4_o Z a1 p2 z0 h0 n0 v U'.heap L ∧ FrameEnd U o U' L ({ frames := 0, cells := 0, slots := 0, locals := 0 } : Room).cells ({ frames := 0, cells := 0, slots := 0, locals := 0 } : Room).slots) := by
  refine MetFree.of_bodySF (plainFor_of_name pn_4) hisR ?_
  intro p e s m args below meth c s₁ Bd hml0 hP hK
  obtain ⟨rfl, hZ, hh⟩ := hP
  have hx := Bd.exec
  have hby := Bd.bytes
  have hml : c.maxLocals = 4 := hml0
  have hown : s.vm.findClass "java/util/Arrays" = some m.cls := findClass_of_methodNamed Bd.named
  have hnm := (name_of_methodNamed Bd.named Bd.method).1
  have X0 : Stand p l e ({ frames := 0, cells := 0, slots := 0, locals := 0 } : Room) s m #[(.ref a1), (.int p2)] below meth c s₁ [] 0 0 := Stand.of_body Bd
  have e0 : s₁.heap = h0 := by rw [← hh, Bd.state]; rfl
  have N0 := Fr.nil n0
  refine Go.en (ef_4 m a1 p2) ?_
  show Go p e below _ (s₁.setTop (mkF m 0 #[.val (.ref a1), .val (.int p2), .unset, .unset] []))
  refine Go.st (fun _ kk => XS.iconst X0.here hx rfl (hb hby d4_0) kk) ?_
  show Go p e below _ (s₁.setTop (mkF m 1 #[.val (.ref a1), .val (.int p2), .unset, .unset] [(.int (0 : Int32))]))
  refine Go.st (fun _ kk => XS.istoreN X0.here hx rfl (hb hby d4_1) rfl (l' := #[.val (.ref a1), .val (.int p2), .val (.int (0 : Int32)), .unset]) rfl kk) ?_
  show Go p e below _ (s₁.setTop (mkF m 2 #[.val (.ref a1), .val (.int p2), .val (.int (0 : Int32)), .unset] []))
  refine Go.st (fun _ kk => XS.aloadN X0.here hx rfl (hb hby d4_2) rfl rfl  kk) ?_
  show Go p e below _ (s₁.setTop (mkF m 3 #[.val (.ref a1), .val (.int p2), .val (.int (0 : Int32)), .unset] [(.ref a1)]))
  obtain ⟨clq3, Arq3, saq3, naq3⟩ := id V_a1
  refine Go.st (fun _ kk => X0.arraylength hx (by rw [e0]; exact Arq3.1) (State.isArrayOf_alike hZ.alike Arq3.2.1) (g := (mkF m 3 #[.val (.ref a1), .val (.int p2), .val (.int (0 : Int32)), .unset] [(.ref a1)])) rfl rfl (hb hby d4_3) _ kk) ?_
  rw [len_of saq3 naq3]
  show Go p e below _ (s₁.setTop (mkF m 4 #[.val (.ref a1), .val (.int p2), .val (.int (0 : Int32)), .unset] [(.int z0)]))
  refine Go.st (fun _ kk => XS.istoreN X0.here hx rfl (hb hby d4_4) rfl (l' := #[.val (.ref a1), .val (.int p2), .val (.int (0 : Int32)), .val (.int z0)]) rfl kk) ?_
  show Go p e below _ (s₁.setTop (mkF m 5 #[.val (.ref a1), .val (.int p2), .val (.int (0 : Int32)), .val (.int z0)] []))
  have loop : ∀ (n : Nat) (i : Int32) (T : State) (h : Heap) (locs : List Loc), z0.toInt ≤ i.toInt + n → ¬ i < 0 → Stand p l e ({ frames := 0, cells := 0, slots := 0, locals := 0 } : Room) s m #[(.ref a1), (.int p2)] below meth c T locs 0 0 → T.heap = h → Fr n0 locs → Keep h0 h [a1] → Arn Z h a1 .boolean z0 → Go p e below (fun o s₂ => ∃ v L, o = .returned v ∧ Qm4_o Z a1 p2 z0 h0 n0 v s₂.heap L ∧ FrameEnd s o s₂ L ({ frames := 0, cells := 0, slots := 0, locals := 0 } : Room).cells ({ frames := 0, cells := 0, slots := 0, locals := 0 } : Room).slots) (T.setTop (mkF m 5 #[.val (.ref a1), .val (.int p2), .val (.int i), .val (.int z0)] [])) := by
    intro n
    induction n with
    | zero =>
      intro i T h locs hn hi X eT N K VV
      have hc : ¬ i < z0 := own_ge (by omega)
      refine Go.st (fun _ kk => XS.iloadN X.here hx rfl (hb hby d4_5) rfl  kk) ?_
      show Go p e below _ (T.setTop (mkF m 6 #[.val (.ref a1), .val (.int p2), .val (.int i), .val (.int z0)] [(.int i)]))
      refine Go.st (fun _ kk => XS.iloadN X.here hx rfl (hb hby d4_6) rfl  kk) ?_
      show Go p e below _ (T.setTop (mkF m 7 #[.val (.ref a1), .val (.int p2), .val (.int i), .val (.int z0)] [(.int z0), (.int i)]))
      refine Go.st (fun _ kk => XS.icmpYes X.here hx rfl (pc0 := 7) (pc' := 20) rfl (hb hby d4_7) rfl (flt hc).2.1 (by decide) (by decide) kk) ?_
      show Go p e below _ (T.setTop (mkF m 20 #[.val (.ref a1), .val (.int p2), .val (.int i), .val (.int z0)] []))
      exact Go.ret (Q := Qm4_o Z a1 p2 z0 h0 n0) X (v := none) (fun _ => rfl) Bd.notSynchronized (fun fs hr => X.returnOut hx Bd.returns (hb hby d4_20) hr) eT ⟨rfl, N, K, VV⟩ (by decide) (by decide)
    | succ n ih =>
      intro i T h locs hn hi X eT N K VV
      by_cases hc : i < z0
      · skip
        refine Go.st (fun _ kk => XS.iloadN X.here hx rfl (hb hby d4_5) rfl  kk) ?_
        show Go p e below _ (T.setTop (mkF m 6 #[.val (.ref a1), .val (.int p2), .val (.int i), .val (.int z0)] [(.int i)]))
        refine Go.st (fun _ kk => XS.iloadN X.here hx rfl (hb hby d4_6) rfl  kk) ?_
        show Go p e below _ (T.setTop (mkF m 7 #[.val (.ref a1), .val (.int p2), .val (.int i), .val (.int z0)] [(.int z0), (.int i)]))
        refine Go.st (fun _ kk => XS.icmpNo X.here hx rfl (hb hby d4_7) rfl (tlt hc).2.1 kk) ?_
        show Go p e below _ (T.setTop (mkF m 10 #[.val (.ref a1), .val (.int p2), .val (.int i), .val (.int z0)] []))
        refine Go.st (fun _ kk => XS.aloadN X.here hx rfl (hb hby d4_10) rfl rfl  kk) ?_
        show Go p e below _ (T.setTop (mkF m 11 #[.val (.ref a1), .val (.int p2), .val (.int i), .val (.int z0)] [(.ref a1)]))
        refine Go.st (fun _ kk => XS.iloadN X.here hx rfl (hb hby d4_11) rfl  kk) ?_
        show Go p e below _ (T.setTop (mkF m 12 #[.val (.ref a1), .val (.int p2), .val (.int i), .val (.int z0)] [(.int i), (.ref a1)]))
        refine Go.st (fun _ kk => XS.iloadN X.here hx rfl (hb hby d4_12) rfl  kk) ?_
        show Go p e below _ (T.setTop (mkF m 13 #[.val (.ref a1), .val (.int p2), .val (.int i), .val (.int z0)] [(.int p2), (.int i), (.ref a1)]))
        obtain ⟨clq4, Arq4, saq4, naq4⟩ := id VV
        have inq4 : ¬ (i < 0 ∨ clq4.slots.size ≤ (i).toNatClampNeg) := inb_of saq4 ⟨hi, hc⟩
        obtain ⟨T5, h5, X5, e5, W5, st5⟩ := stZ X hx hZ eT Arq4 (j := i) inq4 (g := (mkF m 13 #[.val (.ref a1), .val (.int p2), .val (.int i), .val (.int z0)] [(.int p2), (.int i), (.ref a1)])) rfl rfl (hb hby d4_13)
        refine Go.st st5 ?_
        have K5 : Keep h0 h5 [a1] := K.wr W5 (Or.inl (List.mem_of_getElem? (i := 0) rfl))
        have V5 : Arn Z h5 a1 .boolean z0 := Arn.set Arq4 saq4 naq4 W5
        have N5 := Fr.snoc X5 N g_a1
        show Go p e below _ (T5.setTop (mkF m 14 #[.val (.ref a1), .val (.int p2), .val (.int i), .val (.int z0)] []))
        refine Go.st (fun _ kk => XS.iinc X5.here hx rfl (hb hby d4_14) rfl (l' := #[.val (.ref a1), .val (.int p2), .val (.int (i + (1 : Int32))), .val (.int z0)]) rfl kk) ?_
        show Go p e below _ (T5.setTop (mkF m 17 #[.val (.ref a1), .val (.int p2), .val (.int (i + (1 : Int32))), .val (.int z0)] []))
        refine Go.st (fun _ kk => XS.goto X5.here hx rfl (pc0 := 17) (pc' := 5) rfl (hb hby d4_17) (by decide) (by decide) kk) ?_
        show Go p e below _ (T5.setTop (mkF m 5 #[.val (.ref a1), .val (.int p2), .val (.int (i + (1 : Int32))), .val (.int z0)] []))
        exact ih (i + 1) _ _ _ (by have := (own_inc hi hc).2; omega) (own_inc hi hc).1 X5 e5 N5 K5 V5
      · skip
        refine Go.st (fun _ kk => XS.iloadN X.here hx rfl (hb hby d4_5) rfl  kk) ?_
        show Go p e below _ (T.setTop (mkF m 6 #[.val (.ref a1), .val (.int p2), .val (.int i), .val (.int z0)] [(.int i)]))
        refine Go.st (fun _ kk => XS.iloadN X.here hx rfl (hb hby d4_6) rfl  kk) ?_
        show Go p e below _ (T.setTop (mkF m 7 #[.val (.ref a1), .val (.int p2), .val (.int i), .val (.int z0)] [(.int z0), (.int i)]))
        refine Go.st (fun _ kk => XS.icmpYes X.here hx rfl (pc0 := 7) (pc' := 20) rfl (hb hby d4_7) rfl (flt hc).2.1 (by decide) (by decide) kk) ?_
        show Go p e below _ (T.setTop (mkF m 20 #[.val (.ref a1), .val (.int p2), .val (.int i), .val (.int z0)] []))
        exact Go.ret (Q := Qm4_o Z a1 p2 z0 h0 n0) X (v := none) (fun _ => rfl) Bd.notSynchronized (fun fs hr => X.returnOut hx Bd.returns (hb hby d4_20) hr) eT ⟨rfl, N, K, VV⟩ (by decide) (by decide)
  exact loop z0.toNatClampNeg (0 : Int32) _ _ _ (by simp only [Int32.toNatClampNeg]; show z0.toInt ≤ 0 + _; omega) (by decide) X0 e0 N0 (Keep.refl h0 [a1]) V_a1
def Qm7_o (Z : State) (a1 : Addr) (h0 : Heap) (n0 : Nat) (v : Option Value) (h : Heap) (L : List Loc) : Prop := v = none ∧ Fr n0 L ∧ h = h0
set_option maxRecDepth 65536 in
set_option maxHeartbeats 40000000 in
theorem rm7_o (l : Launch) (Z : State) (a0 : Array Value) (hw : ∀ d ∈ tables_1, d.before a0 Z = true) (ws : List Jvm.Cond) (a1 : Addr) (h0 : Heap) (n0 : Nat) (Z0 : n0 ≤ h0.size) :
    MetFree l (⟨"java/lang/Record", "<init>", "()V"⟩ : MethodName) (head1 (Jvm.Cond.code (⟨"java/lang/Record", "<init>", "()V"⟩ : MethodName) jdk_30_method_1_code 1 none :: ws) ({ frames := 1, cells := 0, slots := 0, locals := 12 } : Room)) (fun a U => a = #[(.ref a1)] ∧ Z.Warmed39 U.vm ∧ U.heap = h0) (fun _ _ _ _ _ => True) (fun _ U o U' => ∃ v L, o = .returned v ∧ Qm7_o Z a1 h0 n0 v U'.heap L ∧ FrameEnd U o U' L ({ frames := 1, cells := 0, slots := 0, locals := 12 } : Room).cells ({ frames := 1, cells := 0, slots := 0, locals := 12 } : Room).slots) := by
  refine MetFree.of_bodySF (plainFor_of_name pn_7) hisR ?_
  intro p e s m args below meth c s₁ Bd hml0 hP hK
  obtain ⟨rfl, hZ, hh⟩ := hP
  have hx := Bd.exec
  have hby := Bd.bytes
  have hml : c.maxLocals = 1 := hml0
  have hown : s.vm.findClass "java/lang/Record" = some m.cls := findClass_of_methodNamed Bd.named
  have hnm := (name_of_methodNamed Bd.named Bd.method).1
  have X0 : Stand p l e ({ frames := 1, cells := 0, slots := 0, locals := 12 } : Room) s m #[(.ref a1)] below meth c s₁ [] 0 0 := Stand.of_body Bd
  have e0 : s₁.heap = h0 := by rw [← hh, Bd.state]; rfl
  have N0 := Fr.nil n0
  refine Go.en (ef_7 m a1) ?_
  show Go p e below _ (s₁.setTop (mkF m 0 #[.val (.ref a1)] []))
  refine Go.st (fun _ kk => XS.aloadN X0.here hx rfl (hb hby d7_0) rfl rfl  kk) ?_
  show Go p e below _ (s₁.setTop (mkF m 1 #[.val (.ref a1)] [(.ref a1)]))
  obtain ⟨T2, X2, e2, st2⟩ := initO X0 hx hZ hown (hw _ (List.mem_of_getElem? (i := 51) rfl)) (hw _ (List.mem_of_getElem? (i := 8) rfl)) (hw _ (List.mem_of_getElem? (i := 9) rfl)) e0 (g := (mkF m 1 #[.val (.ref a1)] [(.ref a1)])) rfl (by rw [hml]; rfl) rfl (hb hby d7_1) (by decide) (W := 0) (by show 2 * 0 + _ ≤ _; exact Nat.le_of_eq rfl) (by decide)
  refine Go.st st2 ?_
  show Go p e below _ (T2.setTop (mkF m 4 #[.val (.ref a1)] []))
  exact Go.ret (Q := Qm7_o Z a1 h0 n0) X2 (v := none) (fun _ => rfl) Bd.notSynchronized (fun fs hr => X2.returnOut hx Bd.returns (hb hby d7_4) hr) e2 ⟨rfl, N0, rfl⟩ (by decide) (by decide)
def Qm6_o (Z : State) (a1 : Addr) (p2 : Int32) (p3 : Int32) (p4 : Int32) (p5 : Int32) (p6 : Int32) (p7 : Int32) (u_from_a1 : Value) (u_to_a1 : Value) (u_piece_a1 : Value) (u_promotes_a1 : Value) (u_alsoFrom_a1 : Value) (u_alsoTo_a1 : Value) (h0 : Heap) (n0 : Nat) (v : Option Value) (h : Heap) (L : List Loc) : Prop := v = none ∧ Fr n0 L ∧ Keep h0 h [a1] ∧ Exa Z h a1 "com/example/tabulon/tabulon/game/Move"
set_option maxRecDepth 65536 in
set_option maxHeartbeats 40000000 in
theorem rm6_o (l : Launch) (Z : State) (a0 : Array Value) (hw : ∀ d ∈ tables_1, d.before a0 Z = true) (ws : List Jvm.Cond) (a1 : Addr) (p2 : Int32) (p3 : Int32) (p4 : Int32) (p5 : Int32) (p6 : Int32) (p7 : Int32) (u_from_a1 : Value) (u_to_a1 : Value) (u_piece_a1 : Value) (u_promotes_a1 : Value) (u_alsoFrom_a1 : Value) (u_alsoTo_a1 : Value) (h0 : Heap) (n0 : Nat) (Z0 : n0 ≤ h0.size) (E_a1 : Exa Z h0 a1 "com/example/tabulon/tabulon/game/Move") (F_from_a1 : Fld Z h0 a1 "com/example/tabulon/tabulon/game/Move" "from" "I" u_from_a1) (g_a1 : n0 ≤ a1) (F_to_a1 : Fld Z h0 a1 "com/example/tabulon/tabulon/game/Move" "to" "I" u_to_a1) (F_piece_a1 : Fld Z h0 a1 "com/example/tabulon/tabulon/game/Move" "piece" "I" u_piece_a1) (F_promotes_a1 : Fld Z h0 a1 "com/example/tabulon/tabulon/game/Move" "promotes" "Z" u_promotes_a1) (F_alsoFrom_a1 : Fld Z h0 a1 "com/example/tabulon/tabulon/game/Move" "alsoFrom" "I" u_alsoFrom_a1) (F_alsoTo_a1 : Fld Z h0 a1 "com/example/tabulon/tabulon/game/Move" "alsoTo" "I" u_alsoTo_a1) :
    MetFree l (⟨"com/example/tabulon/tabulon/game/Move", "<init>", "(IIIZII)V"⟩ : MethodName) (head1 (Jvm.Cond.code (⟨"com/example/tabulon/tabulon/game/Move", "<init>", "(IIIZII)V"⟩ : MethodName) prog_68_method_2_code 7 none :: ws) ({ frames := 2, cells := 0, slots := 0, locals := 24 } : Room)) (fun a U => a = #[(.ref a1), (.int p2), (.int p3), (.int p4), (.int p5), (.int p6), (.int p7)] ∧ Z.Warmed39 U.vm ∧ U.heap = h0) (fun _ _ _ _ _ => True) (fun _ U o U' => ∃ v L, o = .returned v ∧ Qm6_o Z a1 p2 p3 p4 p5 p6 p7 u_from_a1 u_to_a1 u_piece_a1 u_promotes_a1 u_alsoFrom_a1 u_alsoTo_a1 h0 n0 v U'.heap L ∧ FrameEnd U o U' L ({ frames := 2, cells := 0, slots := 0, locals := 24 } : Room).cells ({ frames := 2, cells := 0, slots := 0, locals := 24 } : Room).slots) := by
  refine MetFree.of_bodySF (plainFor_of_name pn_6) hisR ?_
  intro p e s m args below meth c s₁ Bd hml0 hP hK
  obtain ⟨rfl, hZ, hh⟩ := hP
  have hx := Bd.exec
  have hby := Bd.bytes
  have hml : c.maxLocals = 7 := hml0
  have hown : s.vm.findClass "com/example/tabulon/tabulon/game/Move" = some m.cls := findClass_of_methodNamed Bd.named
  have hnm := (name_of_methodNamed Bd.named Bd.method).1
  have X0 : Stand p l e ({ frames := 2, cells := 0, slots := 0, locals := 24 } : Room) s m #[(.ref a1), (.int p2), (.int p3), (.int p4), (.int p5), (.int p6), (.int p7)] below meth c s₁ [] 0 0 := Stand.of_body Bd
  have e0 : s₁.heap = h0 := by rw [← hh, Bd.state]; rfl
  have N0 := Fr.nil n0
  refine Go.en (ef_6 m a1 p2 p3 p4 p5 p6 p7) ?_
  show Go p e below _ (s₁.setTop (mkF m 0 #[.val (.ref a1), .val (.int p2), .val (.int p3), .val (.int p4), .val (.int p5), .val (.int p6), .val (.int p7)] []))
  refine Go.st (fun _ kk => XS.aloadN X0.here hx rfl (hb hby d6_0) rfl rfl  kk) ?_
  show Go p e below _ (s₁.setTop (mkF m 1 #[.val (.ref a1), .val (.int p2), .val (.int p3), .val (.int p4), .val (.int p5), .val (.int p6), .val (.int p7)] [(.ref a1)]))
  obtain ⟨_, _, ⟨T8, L8, k8, n8⟩, -, X8, ⟨Lc8, hQ8, l8, y8, z8⟩, st8⟩ := X0.specialBack hx (y := (⟨"java/lang/Record", "<init>", "()V"⟩ : MethodName)) rfl hown (mvT hZ (hw _ (List.mem_of_getElem? (i := 46) rfl))) (mvT hZ (hw _ (List.mem_of_getElem? (i := 47) rfl))) (mvT hZ (hw _ (List.mem_of_getElem? (i := 50) rfl))) (by decide) (backOf (W := 0) (rm7_o l Z a0 hw [] a1 h0 n0 Z0 ) hZ (hw _ (List.mem_of_getElem? (i := 50) rfl)) (hw _ (List.mem_of_getElem? (i := 49) rfl)) (by decide) (by decide)) (g := (mkF m 1 #[.val (.ref a1), .val (.int p2), .val (.int p3), .val (.int p4), .val (.int p5), .val (.int p6), .val (.int p7)] [(.ref a1)])) rfl (by rw [hml]; rfl) (Steps.refl _) (a := a1) (argsL := []) (rest := []) (lenOf pd_0 rfl) rfl (by show 2 * 0 + _ ≤ _; exact Nat.le_of_eq rfl) (hb hby d6_1) (fun _ _ => ⟨rfl, e0, (by decide : 0 + 0 ≤ _), (by decide : 0 + 0 ≤ _)⟩)
  dsimp only [Pt.U, Pt.locs, Pt.cells, Pt.slots] at X8 l8 y8 z8 st8 hQ8
  subst l8 y8 z8
  obtain ⟨rfl, N8q, eq8⟩ := hQ8
  have N8 := Fr.app N0 N8q
  refine Go.tr st8 ?_
  show Go p e below _ (T8.setTop (mkF m 4 #[.val (.ref a1), .val (.int p2), .val (.int p3), .val (.int p4), .val (.int p5), .val (.int p6), .val (.int p7)] []))
  refine Go.st (fun _ kk => XS.aloadN X8.here hx rfl (hb hby d6_4) rfl rfl  kk) ?_
  show Go p e below _ (T8.setTop (mkF m 5 #[.val (.ref a1), .val (.int p2), .val (.int p3), .val (.int p4), .val (.int p5), .val (.int p6), .val (.int p7)] [(.ref a1)]))
  refine Go.st (fun _ kk => XS.iloadN X8.here hx rfl (hb hby d6_5) rfl  kk) ?_
  show Go p e below _ (T8.setTop (mkF m 6 #[.val (.ref a1), .val (.int p2), .val (.int p3), .val (.int p4), .val (.int p5), .val (.int p6), .val (.int p7)] [(.int p2), (.ref a1)]))
  obtain ⟨T9, h9, X9, e9, W9, st9⟩ := putF X8 hx hZ hown (host := "") (Or.inl (hw _ (List.mem_of_getElem? (i := 52) rfl))) Via.refl eq8 F_from_a1 E_a1 (Or.inr ⟨(hw _ (List.mem_of_getElem? (i := 53) rfl)), rfl, hnm⟩) (hw _ (List.mem_of_getElem? (i := 38) rfl)) (ty := .int) (by decide) rfl rfl (g := (mkF m 6 #[.val (.ref a1), .val (.int p2), .val (.int p3), .val (.int p4), .val (.int p5), .val (.int p6), .val (.int p7)] [(.int p2), (.ref a1)])) rfl rfl (hb hby d6_6)
  refine Go.st st9 ?_
  have Fw9 : Fld Z h9 a1 "com/example/tabulon/tabulon/game/Move" "from" "I" (.int p2) := Fld.same W9 F_from_a1
  have K9 : Keep h0 h9 [a1] := (Keep.refl h0 [a1]).wr W9 (Or.inl (List.mem_of_getElem? (i := 0) rfl))
  have N9 := Fr.snoc X9 N8 g_a1
  show Go p e below _ (T9.setTop (mkF m 9 #[.val (.ref a1), .val (.int p2), .val (.int p3), .val (.int p4), .val (.int p5), .val (.int p6), .val (.int p7)] []))
  refine Go.st (fun _ kk => XS.aloadN X9.here hx rfl (hb hby d6_9) rfl rfl  kk) ?_
  show Go p e below _ (T9.setTop (mkF m 10 #[.val (.ref a1), .val (.int p2), .val (.int p3), .val (.int p4), .val (.int p5), .val (.int p6), .val (.int p7)] [(.ref a1)]))
  refine Go.st (fun _ kk => XS.iloadN X9.here hx rfl (hb hby d6_10) rfl  kk) ?_
  show Go p e below _ (T9.setTop (mkF m 11 #[.val (.ref a1), .val (.int p2), .val (.int p3), .val (.int p4), .val (.int p5), .val (.int p6), .val (.int p7)] [(.int p3), (.ref a1)]))
  have f_10 := (Exa.wr W9 E_a1)
  have f_11 := (Fld.other W9 F_to_a1 (Or.inr (slot_ne (Or.inr (hw _ (List.mem_of_getElem? (i := 55) rfl))) (Or.inr (hw _ (List.mem_of_getElem? (i := 53) rfl))) (by decide) (t := .int) (t' := .int) (by decide) (by decide))))
  obtain ⟨T12, h12, X12, e12, W12, st12⟩ := putF X9 hx hZ hown (host := "") (Or.inl (hw _ (List.mem_of_getElem? (i := 54) rfl))) Via.refl e9 f_11 f_10 (Or.inr ⟨(hw _ (List.mem_of_getElem? (i := 55) rfl)), rfl, hnm⟩) (hw _ (List.mem_of_getElem? (i := 38) rfl)) (ty := .int) (by decide) rfl rfl (g := (mkF m 11 #[.val (.ref a1), .val (.int p2), .val (.int p3), .val (.int p4), .val (.int p5), .val (.int p6), .val (.int p7)] [(.int p3), (.ref a1)])) rfl rfl (hb hby d6_11)
  refine Go.st st12 ?_
  have Fw12 : Fld Z h12 a1 "com/example/tabulon/tabulon/game/Move" "to" "I" (.int p3) := Fld.same W12 f_11
  have K12 : Keep h0 h12 [a1] := K9.wr W12 (Or.inl (List.mem_of_getElem? (i := 0) rfl))
  have N12 := Fr.snoc X12 N9 g_a1
  show Go p e below _ (T12.setTop (mkF m 14 #[.val (.ref a1), .val (.int p2), .val (.int p3), .val (.int p4), .val (.int p5), .val (.int p6), .val (.int p7)] []))
  refine Go.st (fun _ kk => XS.aloadN X12.here hx rfl (hb hby d6_14) rfl rfl  kk) ?_
  show Go p e below _ (T12.setTop (mkF m 15 #[.val (.ref a1), .val (.int p2), .val (.int p3), .val (.int p4), .val (.int p5), .val (.int p6), .val (.int p7)] [(.ref a1)]))
  refine Go.st (fun _ kk => XS.iloadN X12.here hx rfl (hb hby d6_15) rfl  kk) ?_
  show Go p e below _ (T12.setTop (mkF m 16 #[.val (.ref a1), .val (.int p2), .val (.int p3), .val (.int p4), .val (.int p5), .val (.int p6), .val (.int p7)] [(.int p4), (.ref a1)]))
  have f_13 := (Exa.wr W12 f_10)
  have f_14 := (Fld.other W12 (Fld.other W9 F_piece_a1 (Or.inr (slot_ne (Or.inr (hw _ (List.mem_of_getElem? (i := 57) rfl))) (Or.inr (hw _ (List.mem_of_getElem? (i := 53) rfl))) (by decide) (t := .int) (t' := .int) (by decide) (by decide)))) (Or.inr (slot_ne (Or.inr (hw _ (List.mem_of_getElem? (i := 57) rfl))) (Or.inr (hw _ (List.mem_of_getElem? (i := 55) rfl))) (by decide) (t := .int) (t' := .int) (by decide) (by decide))))
  obtain ⟨T15, h15, X15, e15, W15, st15⟩ := putF X12 hx hZ hown (host := "") (Or.inl (hw _ (List.mem_of_getElem? (i := 56) rfl))) Via.refl e12 f_14 f_13 (Or.inr ⟨(hw _ (List.mem_of_getElem? (i := 57) rfl)), rfl, hnm⟩) (hw _ (List.mem_of_getElem? (i := 38) rfl)) (ty := .int) (by decide) rfl rfl (g := (mkF m 16 #[.val (.ref a1), .val (.int p2), .val (.int p3), .val (.int p4), .val (.int p5), .val (.int p6), .val (.int p7)] [(.int p4), (.ref a1)])) rfl rfl (hb hby d6_16)
  refine Go.st st15 ?_
  have Fw15 : Fld Z h15 a1 "com/example/tabulon/tabulon/game/Move" "piece" "I" (.int p4) := Fld.same W15 f_14
  have K15 : Keep h0 h15 [a1] := K12.wr W15 (Or.inl (List.mem_of_getElem? (i := 0) rfl))
  have N15 := Fr.snoc X15 N12 g_a1
  show Go p e below _ (T15.setTop (mkF m 19 #[.val (.ref a1), .val (.int p2), .val (.int p3), .val (.int p4), .val (.int p5), .val (.int p6), .val (.int p7)] []))
  refine Go.st (fun _ kk => XS.aloadN X15.here hx rfl (hb hby d6_19) rfl rfl  kk) ?_
  show Go p e below _ (T15.setTop (mkF m 20 #[.val (.ref a1), .val (.int p2), .val (.int p3), .val (.int p4), .val (.int p5), .val (.int p6), .val (.int p7)] [(.ref a1)]))
  refine Go.st (fun _ kk => XS.iload X15.here hx rfl (hb hby d6_20) rfl  kk) ?_
  show Go p e below _ (T15.setTop (mkF m 22 #[.val (.ref a1), .val (.int p2), .val (.int p3), .val (.int p4), .val (.int p5), .val (.int p6), .val (.int p7)] [(.int p5), (.ref a1)]))
  have f_16 := (Exa.wr W15 f_13)
  have f_17 := (Fld.other W15 (Fld.other W12 (Fld.other W9 F_promotes_a1 (Or.inr (slot_ne (Or.inr (hw _ (List.mem_of_getElem? (i := 59) rfl))) (Or.inr (hw _ (List.mem_of_getElem? (i := 53) rfl))) (by decide) (t := .boolean) (t' := .int) (by decide) (by decide)))) (Or.inr (slot_ne (Or.inr (hw _ (List.mem_of_getElem? (i := 59) rfl))) (Or.inr (hw _ (List.mem_of_getElem? (i := 55) rfl))) (by decide) (t := .boolean) (t' := .int) (by decide) (by decide)))) (Or.inr (slot_ne (Or.inr (hw _ (List.mem_of_getElem? (i := 59) rfl))) (Or.inr (hw _ (List.mem_of_getElem? (i := 57) rfl))) (by decide) (t := .boolean) (t' := .int) (by decide) (by decide))))
  obtain ⟨T18, h18, X18, e18, W18, st18⟩ := putFN X15 hx hZ hown (hw _ (List.mem_of_getElem? (i := 58) rfl)) Via.refl e15 f_17 f_16 (Or.inr ⟨(hw _ (List.mem_of_getElem? (i := 59) rfl)), rfl, hnm⟩) (hw _ (List.mem_of_getElem? (i := 38) rfl)) (ty := .boolean) (v' := (.int (nar .boolean p5))) (by decide) rfl (fits_nar_bool _) (g := (mkF m 22 #[.val (.ref a1), .val (.int p2), .val (.int p3), .val (.int p4), .val (.int p5), .val (.int p6), .val (.int p7)] [(.int p5), (.ref a1)])) rfl rfl (hb hby d6_22)
  refine Go.st st18 ?_
  have Fw18 : Fld Z h18 a1 "com/example/tabulon/tabulon/game/Move" "promotes" "Z" (.int (nar .boolean p5)) := Fld.same W18 f_17
  have K18 : Keep h0 h18 [a1] := K15.wr W18 (Or.inl (List.mem_of_getElem? (i := 0) rfl))
  have N18 := Fr.snoc X18 N15 g_a1
  show Go p e below _ (T18.setTop (mkF m 25 #[.val (.ref a1), .val (.int p2), .val (.int p3), .val (.int p4), .val (.int p5), .val (.int p6), .val (.int p7)] []))
  refine Go.st (fun _ kk => XS.aloadN X18.here hx rfl (hb hby d6_25) rfl rfl  kk) ?_
  show Go p e below _ (T18.setTop (mkF m 26 #[.val (.ref a1), .val (.int p2), .val (.int p3), .val (.int p4), .val (.int p5), .val (.int p6), .val (.int p7)] [(.ref a1)]))
  refine Go.st (fun _ kk => XS.iload X18.here hx rfl (hb hby d6_26) rfl  kk) ?_
  show Go p e below _ (T18.setTop (mkF m 28 #[.val (.ref a1), .val (.int p2), .val (.int p3), .val (.int p4), .val (.int p5), .val (.int p6), .val (.int p7)] [(.int p6), (.ref a1)]))
  have f_19 := (Exa.wr W18 f_16)
  have f_20 := (Fld.other W18 (Fld.other W15 (Fld.other W12 (Fld.other W9 F_alsoFrom_a1 (Or.inr (slot_ne (Or.inr (hw _ (List.mem_of_getElem? (i := 61) rfl))) (Or.inr (hw _ (List.mem_of_getElem? (i := 53) rfl))) (by decide) (t := .int) (t' := .int) (by decide) (by decide)))) (Or.inr (slot_ne (Or.inr (hw _ (List.mem_of_getElem? (i := 61) rfl))) (Or.inr (hw _ (List.mem_of_getElem? (i := 55) rfl))) (by decide) (t := .int) (t' := .int) (by decide) (by decide)))) (Or.inr (slot_ne (Or.inr (hw _ (List.mem_of_getElem? (i := 61) rfl))) (Or.inr (hw _ (List.mem_of_getElem? (i := 57) rfl))) (by decide) (t := .int) (t' := .int) (by decide) (by decide)))) (Or.inr (slot_ne (Or.inr (hw _ (List.mem_of_getElem? (i := 61) rfl))) (Or.inr (hw _ (List.mem_of_getElem? (i := 59) rfl))) (by decide) (t := .int) (t' := .boolean) (by decide) (by decide))))
  obtain ⟨T21, h21, X21, e21, W21, st21⟩ := putF X18 hx hZ hown (host := "") (Or.inl (hw _ (List.mem_of_getElem? (i := 60) rfl))) Via.refl e18 f_20 f_19 (Or.inr ⟨(hw _ (List.mem_of_getElem? (i := 61) rfl)), rfl, hnm⟩) (hw _ (List.mem_of_getElem? (i := 38) rfl)) (ty := .int) (by decide) rfl rfl (g := (mkF m 28 #[.val (.ref a1), .val (.int p2), .val (.int p3), .val (.int p4), .val (.int p5), .val (.int p6), .val (.int p7)] [(.int p6), (.ref a1)])) rfl rfl (hb hby d6_28)
  refine Go.st st21 ?_
  have Fw21 : Fld Z h21 a1 "com/example/tabulon/tabulon/game/Move" "alsoFrom" "I" (.int p6) := Fld.same W21 f_20
  have K21 : Keep h0 h21 [a1] := K18.wr W21 (Or.inl (List.mem_of_getElem? (i := 0) rfl))
  have N21 := Fr.snoc X21 N18 g_a1
  show Go p e below _ (T21.setTop (mkF m 31 #[.val (.ref a1), .val (.int p2), .val (.int p3), .val (.int p4), .val (.int p5), .val (.int p6), .val (.int p7)] []))
  refine Go.st (fun _ kk => XS.aloadN X21.here hx rfl (hb hby d6_31) rfl rfl  kk) ?_
  show Go p e below _ (T21.setTop (mkF m 32 #[.val (.ref a1), .val (.int p2), .val (.int p3), .val (.int p4), .val (.int p5), .val (.int p6), .val (.int p7)] [(.ref a1)]))
  refine Go.st (fun _ kk => XS.iload X21.here hx rfl (hb hby d6_32) rfl  kk) ?_
  show Go p e below _ (T21.setTop (mkF m 34 #[.val (.ref a1), .val (.int p2), .val (.int p3), .val (.int p4), .val (.int p5), .val (.int p6), .val (.int p7)] [(.int p7), (.ref a1)]))
  have f_22 := (Exa.wr W21 f_19)
  have f_23 := (Fld.other W21 (Fld.other W18 (Fld.other W15 (Fld.other W12 (Fld.other W9 F_alsoTo_a1 (Or.inr (slot_ne (Or.inr (hw _ (List.mem_of_getElem? (i := 63) rfl))) (Or.inr (hw _ (List.mem_of_getElem? (i := 53) rfl))) (by decide) (t := .int) (t' := .int) (by decide) (by decide)))) (Or.inr (slot_ne (Or.inr (hw _ (List.mem_of_getElem? (i := 63) rfl))) (Or.inr (hw _ (List.mem_of_getElem? (i := 55) rfl))) (by decide) (t := .int) (t' := .int) (by decide) (by decide)))) (Or.inr (slot_ne (Or.inr (hw _ (List.mem_of_getElem? (i := 63) rfl))) (Or.inr (hw _ (List.mem_of_getElem? (i := 57) rfl))) (by decide) (t := .int) (t' := .int) (by decide) (by decide)))) (Or.inr (slot_ne (Or.inr (hw _ (List.mem_of_getElem? (i := 63) rfl))) (Or.inr (hw _ (List.mem_of_getElem? (i := 59) rfl))) (by decide) (t := .int) (t' := .boolean) (by decide) (by decide)))) (Or.inr (slot_ne (Or.inr (hw _ (List.mem_of_getElem? (i := 63) rfl))) (Or.inr (hw _ (List.mem_of_getElem? (i := 61) rfl))) (by decide) (t := .int) (t' := .int) (by decide) (by decide))))
  obtain ⟨T24, h24, X24, e24, W24, st24⟩ := putF X21 hx hZ hown (host := "") (Or.inl (hw _ (List.mem_of_getElem? (i := 62) rfl))) Via.refl e21 f_23 f_22 (Or.inr ⟨(hw _ (List.mem_of_getElem? (i := 63) rfl)), rfl, hnm⟩) (hw _ (List.mem_of_getElem? (i := 38) rfl)) (ty := .int) (by decide) rfl rfl (g := (mkF m 34 #[.val (.ref a1), .val (.int p2), .val (.int p3), .val (.int p4), .val (.int p5), .val (.int p6), .val (.int p7)] [(.int p7), (.ref a1)])) rfl rfl (hb hby d6_34)
  refine Go.st st24 ?_
  have Fw24 : Fld Z h24 a1 "com/example/tabulon/tabulon/game/Move" "alsoTo" "I" (.int p7) := Fld.same W24 f_23
  have K24 : Keep h0 h24 [a1] := K21.wr W24 (Or.inl (List.mem_of_getElem? (i := 0) rfl))
  have N24 := Fr.snoc X24 N21 g_a1
  show Go p e below _ (T24.setTop (mkF m 37 #[.val (.ref a1), .val (.int p2), .val (.int p3), .val (.int p4), .val (.int p5), .val (.int p6), .val (.int p7)] []))
  have f_25 := (Exa.wr W24 f_22)
  exact Go.ret (Q := Qm6_o Z a1 p2 p3 p4 p5 p6 p7 u_from_a1 u_to_a1 u_piece_a1 u_promotes_a1 u_alsoFrom_a1 u_alsoTo_a1 h0 n0) X24 (v := none) (fun _ => rfl) Bd.notSynchronized (fun fs hr => X24.returnOut hx Bd.returns (hb hby d6_37) hr) e24 ⟨rfl, N24, K24, f_25⟩ (by decide) (by decide)
def Qm5_o (Z : State) (a1 : Addr) (p2 : Int32) (p3 : Int32) (p4 : Int32) (u_from_a1 : Value) (u_to_a1 : Value) (u_piece_a1 : Value) (u_promotes_a1 : Value) (u_alsoFrom_a1 : Value) (u_alsoTo_a1 : Value) (h0 : Heap) (n0 : Nat) (v : Option Value) (h : Heap) (L : List Loc) : Prop := v = none ∧ Fr n0 L ∧ Keep h0 h [a1] ∧ Exa Z h a1 "com/example/tabulon/tabulon/game/Move"
set_option maxRecDepth 65536 in
set_option maxHeartbeats 40000000 in
theorem rm5_o (l : Launch) (Z : State) (a0 : Array Value) (hw : ∀ d ∈ tables_1, d.before a0 Z = true) (ws : List Jvm.Cond) (a1 : Addr) (p2 : Int32) (p3 : Int32) (p4 : Int32) (u_from_a1 : Value) (u_to_a1 : Value) (u_piece_a1 : Value) (u_promotes_a1 : Value) (u_alsoFrom_a1 : Value) (u_alsoTo_a1 : Value) (h0 : Heap) (n0 : Nat) (Z0 : n0 ≤ h0.size) (E_a1 : Exa Z h0 a1 "com/example/tabulon/tabulon/game/Move") (F_from_a1 : Fld Z h0 a1 "com/example/tabulon/tabulon/game/Move" "from" "I" u_from_a1) (g_a1 : n0 ≤ a1) (F_to_a1 : Fld Z h0 a1 "com/example/tabulon/tabulon/game/Move" "to" "I" u_to_a1) (F_piece_a1 : Fld Z h0 a1 "com/example/tabulon/tabulon/game/Move" "piece" "I" u_piece_a1) (F_promotes_a1 : Fld Z h0 a1 "com/example/tabulon/tabulon/game/Move" "promotes" "Z" u_promotes_a1) (F_alsoFrom_a1 : Fld Z h0 a1 "com/example/tabulon/tabulon/game/Move" "alsoFrom" "I" u_alsoFrom_a1) (F_alsoTo_a1 : Fld Z h0 a1 "com/example/tabulon/tabulon/game/Move" "alsoTo" "I" u_alsoTo_a1) :
    MetFree l (⟨"com/example/tabulon/tabulon/game/Move", "<init>", "(III)V"⟩ : MethodName) (head1 (Jvm.Cond.code (⟨"com/example/tabulon/tabulon/game/Move", "<init>", "(III)V"⟩ : MethodName) prog_68_method_1_code 4 none :: ws) ({ frames := 3, cells := 0, slots := 0, locals := 42 } : Room)) (fun a U => a = #[(.ref a1), (.int p2), (.int p3), (.int p4)] ∧ Z.Warmed39 U.vm ∧ U.heap = h0) (fun _ _ _ _ _ => True) (fun _ U o U' => ∃ v L, o = .returned v ∧ Qm5_o Z a1 p2 p3 p4 u_from_a1 u_to_a1 u_piece_a1 u_promotes_a1 u_alsoFrom_a1 u_alsoTo_a1 h0 n0 v U'.heap L ∧ FrameEnd U o U' L ({ frames := 3, cells := 0, slots := 0, locals := 42 } : Room).cells ({ frames := 3, cells := 0, slots := 0, locals := 42 } : Room).slots) := by
  refine MetFree.of_bodySF (plainFor_of_name pn_5) hisR ?_
  intro p e s m args below meth c s₁ Bd hml0 hP hK
  obtain ⟨rfl, hZ, hh⟩ := hP
  have hx := Bd.exec
  have hby := Bd.bytes
  have hml : c.maxLocals = 4 := hml0
  have hown : s.vm.findClass "com/example/tabulon/tabulon/game/Move" = some m.cls := findClass_of_methodNamed Bd.named
  have hnm := (name_of_methodNamed Bd.named Bd.method).1
  have X0 : Stand p l e ({ frames := 3, cells := 0, slots := 0, locals := 42 } : Room) s m #[(.ref a1), (.int p2), (.int p3), (.int p4)] below meth c s₁ [] 0 0 := Stand.of_body Bd
  have e0 : s₁.heap = h0 := by rw [← hh, Bd.state]; rfl
  have N0 := Fr.nil n0
  refine Go.en (ef_5 m a1 p2 p3 p4) ?_
  show Go p e below _ (s₁.setTop (mkF m 0 #[.val (.ref a1), .val (.int p2), .val (.int p3), .val (.int p4)] []))
  refine Go.st (fun _ kk => XS.aloadN X0.here hx rfl (hb hby d5_0) rfl rfl  kk) ?_
  show Go p e below _ (s₁.setTop (mkF m 1 #[.val (.ref a1), .val (.int p2), .val (.int p3), .val (.int p4)] [(.ref a1)]))
  refine Go.st (fun _ kk => XS.iloadN X0.here hx rfl (hb hby d5_1) rfl  kk) ?_
  show Go p e below _ (s₁.setTop (mkF m 2 #[.val (.ref a1), .val (.int p2), .val (.int p3), .val (.int p4)] [(.int p2), (.ref a1)]))
  refine Go.st (fun _ kk => XS.iloadN X0.here hx rfl (hb hby d5_2) rfl  kk) ?_
  show Go p e below _ (s₁.setTop (mkF m 3 #[.val (.ref a1), .val (.int p2), .val (.int p3), .val (.int p4)] [(.int p3), (.int p2), (.ref a1)]))
  refine Go.st (fun _ kk => XS.iloadN X0.here hx rfl (hb hby d5_3) rfl  kk) ?_
  show Go p e below _ (s₁.setTop (mkF m 4 #[.val (.ref a1), .val (.int p2), .val (.int p3), .val (.int p4)] [(.int p4), (.int p3), (.int p2), (.ref a1)]))
  refine Go.st (fun _ kk => XS.iconst X0.here hx rfl (hb hby d5_4) kk) ?_
  show Go p e below _ (s₁.setTop (mkF m 5 #[.val (.ref a1), .val (.int p2), .val (.int p3), .val (.int p4)] [(.int (0 : Int32)), (.int p4), (.int p3), (.int p2), (.ref a1)]))
  refine Go.st (fun _ kk => XS.iconst X0.here hx rfl (hb hby d5_5) kk) ?_
  show Go p e below _ (s₁.setTop (mkF m 6 #[.val (.ref a1), .val (.int p2), .val (.int p3), .val (.int p4)] [(.int (-1 : Int32)), (.int (0 : Int32)), (.int p4), (.int p3), (.int p2), (.ref a1)]))
  refine Go.st (fun _ kk => XS.iconst X0.here hx rfl (hb hby d5_6) kk) ?_
  show Go p e below _ (s₁.setTop (mkF m 7 #[.val (.ref a1), .val (.int p2), .val (.int p3), .val (.int p4)] [(.int (-1 : Int32)), (.int (-1 : Int32)), (.int (0 : Int32)), (.int p4), (.int p3), (.int p2), (.ref a1)]))
  obtain ⟨_, _, ⟨T5, L5, k5, n5⟩, -, X5, ⟨Lc5, hQ5, l5, y5, z5⟩, st5⟩ := X0.specialBack hx (y := (⟨"com/example/tabulon/tabulon/game/Move", "<init>", "(IIIZII)V"⟩ : MethodName)) rfl hown (mvT hZ (hw _ (List.mem_of_getElem? (i := 43) rfl))) (mvT hZ (hw _ (List.mem_of_getElem? (i := 44) rfl))) (mvT hZ (hw _ (List.mem_of_getElem? (i := 45) rfl))) (by decide) (backOf (W := 0) (rm6_o l Z a0 hw [] a1 p2 p3 p4 (0 : Int32) (-1 : Int32) (-1 : Int32) u_from_a1 u_to_a1 u_piece_a1 u_promotes_a1 u_alsoFrom_a1 u_alsoTo_a1 h0 n0 Z0 E_a1 F_from_a1 g_a1 F_to_a1 F_piece_a1 F_promotes_a1 F_alsoFrom_a1 F_alsoTo_a1) hZ (hw _ (List.mem_of_getElem? (i := 45) rfl)) (hw _ (List.mem_of_getElem? (i := 39) rfl)) (by decide) (by decide)) (g := (mkF m 7 #[.val (.ref a1), .val (.int p2), .val (.int p3), .val (.int p4)] [(.int (-1 : Int32)), (.int (-1 : Int32)), (.int (0 : Int32)), (.int p4), (.int p3), (.int p2), (.ref a1)])) rfl (by rw [hml]; rfl) (Steps.refl _) (a := a1) (argsL := [(.int p2), (.int p3), (.int p4), (.int (0 : Int32)), (.int (-1 : Int32)), (.int (-1 : Int32))]) (rest := []) (lenOf pd_1 rfl) rfl (by show 2 * 0 + _ ≤ _; exact Nat.le_of_eq rfl) (hb hby d5_7) (fun _ _ => ⟨rfl, e0, (by decide : 0 + 0 ≤ _), (by decide : 0 + 0 ≤ _)⟩)
  dsimp only [Pt.U, Pt.locs, Pt.cells, Pt.slots] at X5 l5 y5 z5 st5 hQ5
  subst l5 y5 z5
  obtain ⟨rfl, N5q, Kc5, P5_0⟩ := hQ5
  have K5 : Keep h0 T5.heap [a1] := (Keep.refl h0 [a1]).trans Kc5 (allS (Or.inl (List.mem_of_getElem? (i := 0) rfl)) all0)
  have N5 := Fr.app N0 N5q
  refine Go.tr st5 ?_
  show Go p e below _ (T5.setTop (mkF m 10 #[.val (.ref a1), .val (.int p2), .val (.int p3), .val (.int p4)] []))
  exact Go.ret (Q := Qm5_o Z a1 p2 p3 p4 u_from_a1 u_to_a1 u_piece_a1 u_promotes_a1 u_alsoFrom_a1 u_alsoTo_a1 h0 n0) X5 (v := none) (fun _ => rfl) Bd.notSynchronized (fun fs hr => X5.returnOut hx Bd.returns (hb hby d5_10) hr) rfl ⟨rfl, N5, K5, P5_0⟩ (by decide) (by decide)
def Qm9_o (Z : State) (a1 : Addr) (w2 : Int32) (h0 : Heap) (n0 : Nat) (v : Option Value) (h : Heap) (L : List Loc) : Prop := v = some (.int w2) ∧ Fr n0 L ∧ h = h0
set_option maxRecDepth 65536 in
set_option maxHeartbeats 40000000 in
theorem rm9_o (l : Launch) (Z : State) (a0 : Array Value) (hw : ∀ d ∈ tables_1, d.before a0 Z = true) (ws : List Jvm.Cond) (a1 : Addr) (w2 : Int32) (h0 : Heap) (n0 : Nat) (Z0 : n0 ≤ h0.size) (F_mover_a1 : Fld Z h0 a1 "com/example/tabulon/tabulon/game/State" "mover" "I" (.int w2)) :
    MetFree l (⟨"com/example/tabulon/tabulon/game/State", "mover", "()I"⟩ : MethodName) (head1 (Jvm.Cond.code (⟨"com/example/tabulon/tabulon/game/State", "mover", "()I"⟩ : MethodName) prog_93_method_9_code 1 (some .int) :: ws) ({ frames := 0, cells := 0, slots := 0, locals := 0 } : Room)) (fun a U => a = #[(.ref a1)] ∧ Z.Warmed39 U.vm ∧ U.heap = h0) (fun _ _ _ _ _ => True) (fun _ U o U' => ∃ v L, o = .returned v ∧ Qm9_o Z a1 w2 h0 n0 v U'.heap L ∧ FrameEnd U o U' L ({ frames := 0, cells := 0, slots := 0, locals := 0 } : Room).cells ({ frames := 0, cells := 0, slots := 0, locals := 0 } : Room).slots) := by
  refine MetFree.of_bodySF (plainFor_of_name pn_9) hisR ?_
  intro p e s m args below meth c s₁ Bd hml0 hP hK
  obtain ⟨rfl, hZ, hh⟩ := hP
  have hx := Bd.exec
  have hby := Bd.bytes
  have hml : c.maxLocals = 1 := hml0
  have hown : s.vm.findClass "com/example/tabulon/tabulon/game/State" = some m.cls := findClass_of_methodNamed Bd.named
  have hnm := (name_of_methodNamed Bd.named Bd.method).1
  have X0 : Stand p l e ({ frames := 0, cells := 0, slots := 0, locals := 0 } : Room) s m #[(.ref a1)] below meth c s₁ [] 0 0 := Stand.of_body Bd
  have e0 : s₁.heap = h0 := by rw [← hh, Bd.state]; rfl
  have N0 := Fr.nil n0
  refine Go.en (ef_9 m a1) ?_
  show Go p e below _ (s₁.setTop (mkF m 0 #[.val (.ref a1)] []))
  refine Go.st (fun _ kk => XS.aloadN X0.here hx rfl (hb hby d9_0) rfl rfl  kk) ?_
  show Go p e below _ (s₁.setTop (mkF m 1 #[.val (.ref a1)] [(.ref a1)]))
  obtain ⟨T3, X3, e3, st3⟩ := getF X0 hx hZ hown (host := "") (Or.inl (hw _ (List.mem_of_getElem? (i := 35) rfl))) Via.refl e0 F_mover_a1 (g := (mkF m 1 #[.val (.ref a1)] [(.ref a1)])) rfl rfl (hb hby d9_1)
  refine Go.st st3 ?_
  show Go p e below _ (T3.setTop (mkF m 4 #[.val (.ref a1)] [(.int w2)]))
  exact Go.ret (Q := Qm9_o Z a1 w2 h0 n0) X3 (v := some (.int w2)) (fun h => by rw [Bd.returns] at h; cases h) Bd.notSynchronized (fun fs hr => retOut X3 hx Bd.returns rfl (Or.inl ⟨rfl, Or.inl rfl, _, rfl⟩) (hb hby d9_4) hr) e3 ⟨rfl, N0, rfl⟩ (by decide) (by decide)
def Qm10_o (Z : State) (a1 : Addr) (w2 : Int32) (h0 : Heap) (n0 : Nat) (v : Option Value) (h : Heap) (L : List Loc) : Prop := v = some (.int w2) ∧ Fr n0 L ∧ h = h0
set_option maxRecDepth 65536 in
set_option maxHeartbeats 40000000 in
theorem rm10_o (l : Launch) (Z : State) (a0 : Array Value) (hw : ∀ d ∈ tables_1, d.before a0 Z = true) (ws : List Jvm.Cond) (a1 : Addr) (w2 : Int32) (h0 : Heap) (n0 : Nat) (Z0 : n0 ≤ h0.size) (F_moves_a1 : Fld Z h0 a1 "com/example/tabulon/tabulon/game/State" "moves" "I" (.int w2)) :
    MetFree l (⟨"com/example/tabulon/tabulon/game/State", "moves", "()I"⟩ : MethodName) (head1 (Jvm.Cond.code (⟨"com/example/tabulon/tabulon/game/State", "moves", "()I"⟩ : MethodName) prog_93_method_13_code 1 (some .int) :: ws) ({ frames := 0, cells := 0, slots := 0, locals := 0 } : Room)) (fun a U => a = #[(.ref a1)] ∧ Z.Warmed39 U.vm ∧ U.heap = h0) (fun _ _ _ _ _ => True) (fun _ U o U' => ∃ v L, o = .returned v ∧ Qm10_o Z a1 w2 h0 n0 v U'.heap L ∧ FrameEnd U o U' L ({ frames := 0, cells := 0, slots := 0, locals := 0 } : Room).cells ({ frames := 0, cells := 0, slots := 0, locals := 0 } : Room).slots) := by
  refine MetFree.of_bodySF (plainFor_of_name pn_10) hisR ?_
  intro p e s m args below meth c s₁ Bd hml0 hP hK
  obtain ⟨rfl, hZ, hh⟩ := hP
  have hx := Bd.exec
  have hby := Bd.bytes
  have hml : c.maxLocals = 1 := hml0
  have hown : s.vm.findClass "com/example/tabulon/tabulon/game/State" = some m.cls := findClass_of_methodNamed Bd.named
  have hnm := (name_of_methodNamed Bd.named Bd.method).1
  have X0 : Stand p l e ({ frames := 0, cells := 0, slots := 0, locals := 0 } : Room) s m #[(.ref a1)] below meth c s₁ [] 0 0 := Stand.of_body Bd
  have e0 : s₁.heap = h0 := by rw [← hh, Bd.state]; rfl
  have N0 := Fr.nil n0
  refine Go.en (ef_10 m a1) ?_
  show Go p e below _ (s₁.setTop (mkF m 0 #[.val (.ref a1)] []))
  refine Go.st (fun _ kk => XS.aloadN X0.here hx rfl (hb hby d10_0) rfl rfl  kk) ?_
  show Go p e below _ (s₁.setTop (mkF m 1 #[.val (.ref a1)] [(.ref a1)]))
  obtain ⟨T3, X3, e3, st3⟩ := getF X0 hx hZ hown (host := "") (Or.inl (hw _ (List.mem_of_getElem? (i := 71) rfl))) Via.refl e0 F_moves_a1 (g := (mkF m 1 #[.val (.ref a1)] [(.ref a1)])) rfl rfl (hb hby d10_1)
  refine Go.st st3 ?_
  show Go p e below _ (T3.setTop (mkF m 4 #[.val (.ref a1)] [(.int w2)]))
  exact Go.ret (Q := Qm10_o Z a1 w2 h0 n0) X3 (v := some (.int w2)) (fun h => by rw [Bd.returns] at h; cases h) Bd.notSynchronized (fun fs hr => retOut X3 hx Bd.returns rfl (Or.inl ⟨rfl, Or.inl rfl, _, rfl⟩) (hb hby d10_4) hr) e3 ⟨rfl, N0, rfl⟩ (by decide) (by decide)
def Qm11_o (Z : State) (a1 : Addr) (w2 : Addr) (h0 : Heap) (n0 : Nat) (v : Option Value) (h : Heap) (L : List Loc) : Prop := v = some (.ref w2) ∧ Fr n0 L ∧ h = h0
set_option maxRecDepth 65536 in
set_option maxHeartbeats 40000000 in
theorem rm11_o (l : Launch) (Z : State) (a0 : Array Value) (hw : ∀ d ∈ tables_1, d.before a0 Z = true) (ws : List Jvm.Cond) (a1 : Addr) (w2 : Addr) (h0 : Heap) (n0 : Nat) (Z0 : n0 ≤ h0.size) (F_lastMove_a1 : Fld Z h0 a1 "com/example/tabulon/tabulon/game/State" "lastMove" "Lcom/example/tabulon/tabulon/game/Move;" (.ref w2)) :
    MetFree l (⟨"com/example/tabulon/tabulon/game/State", "lastMove", "()Lcom/example/tabulon/tabulon/game/Move;"⟩ : MethodName) (head1 (Jvm.Cond.code (⟨"com/example/tabulon/tabulon/game/State", "lastMove", "()Lcom/example/tabulon/tabulon/game/Move;"⟩ : MethodName) prog_93_method_14_code 1 (some (.object "com/example/tabulon/tabulon/game/Move")) :: ws) ({ frames := 0, cells := 0, slots := 0, locals := 0 } : Room)) (fun a U => a = #[(.ref a1)] ∧ Z.Warmed39 U.vm ∧ U.heap = h0) (fun _ _ _ _ _ => True) (fun _ U o U' => ∃ v L, o = .returned v ∧ Qm11_o Z a1 w2 h0 n0 v U'.heap L ∧ FrameEnd U o U' L ({ frames := 0, cells := 0, slots := 0, locals := 0 } : Room).cells ({ frames := 0, cells := 0, slots := 0, locals := 0 } : Room).slots) := by
  refine MetFree.of_bodySF (plainFor_of_name pn_11) hisR ?_
  intro p e s m args below meth c s₁ Bd hml0 hP hK
  obtain ⟨rfl, hZ, hh⟩ := hP
  have hx := Bd.exec
  have hby := Bd.bytes
  have hml : c.maxLocals = 1 := hml0
  have hown : s.vm.findClass "com/example/tabulon/tabulon/game/State" = some m.cls := findClass_of_methodNamed Bd.named
  have hnm := (name_of_methodNamed Bd.named Bd.method).1
  have X0 : Stand p l e ({ frames := 0, cells := 0, slots := 0, locals := 0 } : Room) s m #[(.ref a1)] below meth c s₁ [] 0 0 := Stand.of_body Bd
  have e0 : s₁.heap = h0 := by rw [← hh, Bd.state]; rfl
  have N0 := Fr.nil n0
  refine Go.en (ef_11 m a1) ?_
  show Go p e below _ (s₁.setTop (mkF m 0 #[.val (.ref a1)] []))
  refine Go.st (fun _ kk => XS.aloadN X0.here hx rfl (hb hby d11_0) rfl rfl  kk) ?_
  show Go p e below _ (s₁.setTop (mkF m 1 #[.val (.ref a1)] [(.ref a1)]))
  obtain ⟨T3, X3, e3, st3⟩ := getF X0 hx hZ hown (host := "") (Or.inl (hw _ (List.mem_of_getElem? (i := 73) rfl))) Via.refl e0 F_lastMove_a1 (g := (mkF m 1 #[.val (.ref a1)] [(.ref a1)])) rfl rfl (hb hby d11_1)
  refine Go.st st3 ?_
  show Go p e below _ (T3.setTop (mkF m 4 #[.val (.ref a1)] [(.ref w2)]))
  exact Go.ret (Q := Qm11_o Z a1 w2 h0 n0) X3 (v := some (.ref w2)) (fun h => by rw [Bd.returns] at h; cases h) Bd.notSynchronized (fun fs hr => retOut X3 hx Bd.returns rfl (Or.inr (Or.inr (Or.inr (Or.inr ⟨rfl, rfl, rfl⟩)))) (hb hby d11_4) hr) e3 ⟨rfl, N0, rfl⟩ (by decide) (by decide)
def Qm12_o (Z : State) (a1 : Addr) (w2 : Addr) (h0 : Heap) (n0 : Nat) (v : Option Value) (h : Heap) (L : List Loc) : Prop := v = some (.ref w2) ∧ Fr n0 L ∧ h = h0
set_option maxRecDepth 65536 in
set_option maxHeartbeats 40000000 in
theorem rm12_o (l : Launch) (Z : State) (a0 : Array Value) (hw : ∀ d ∈ tables_1, d.before a0 Z = true) (ws : List Jvm.Cond) (a1 : Addr) (w2 : Addr) (h0 : Heap) (n0 : Nat) (Z0 : n0 ≤ h0.size) (F_moveBeforeLast_a1 : Fld Z h0 a1 "com/example/tabulon/tabulon/game/State" "moveBeforeLast" "Lcom/example/tabulon/tabulon/game/Move;" (.ref w2)) :
    MetFree l (⟨"com/example/tabulon/tabulon/game/State", "moveBeforeLast", "()Lcom/example/tabulon/tabulon/game/Move;"⟩ : MethodName) (head1 (Jvm.Cond.code (⟨"com/example/tabulon/tabulon/game/State", "moveBeforeLast", "()Lcom/example/tabulon/tabulon/game/Move;"⟩ : MethodName) prog_93_method_15_code 1 (some (.object "com/example/tabulon/tabulon/game/Move")) :: ws) ({ frames := 0, cells := 0, slots := 0, locals := 0 } : Room)) (fun a U => a = #[(.ref a1)] ∧ Z.Warmed39 U.vm ∧ U.heap = h0) (fun _ _ _ _ _ => True) (fun _ U o U' => ∃ v L, o = .returned v ∧ Qm12_o Z a1 w2 h0 n0 v U'.heap L ∧ FrameEnd U o U' L ({ frames := 0, cells := 0, slots := 0, locals := 0 } : Room).cells ({ frames := 0, cells := 0, slots := 0, locals := 0 } : Room).slots) := by
  refine MetFree.of_bodySF (plainFor_of_name pn_12) hisR ?_
  intro p e s m args below meth c s₁ Bd hml0 hP hK
  obtain ⟨rfl, hZ, hh⟩ := hP
  have hx := Bd.exec
  have hby := Bd.bytes
  have hml : c.maxLocals = 1 := hml0
  have hown : s.vm.findClass "com/example/tabulon/tabulon/game/State" = some m.cls := findClass_of_methodNamed Bd.named
  have hnm := (name_of_methodNamed Bd.named Bd.method).1
  have X0 : Stand p l e ({ frames := 0, cells := 0, slots := 0, locals := 0 } : Room) s m #[(.ref a1)] below meth c s₁ [] 0 0 := Stand.of_body Bd
  have e0 : s₁.heap = h0 := by rw [← hh, Bd.state]; rfl
  have N0 := Fr.nil n0
  refine Go.en (ef_12 m a1) ?_
  show Go p e below _ (s₁.setTop (mkF m 0 #[.val (.ref a1)] []))
  refine Go.st (fun _ kk => XS.aloadN X0.here hx rfl (hb hby d12_0) rfl rfl  kk) ?_
  show Go p e below _ (s₁.setTop (mkF m 1 #[.val (.ref a1)] [(.ref a1)]))
  obtain ⟨T3, X3, e3, st3⟩ := getF X0 hx hZ hown (host := "") (Or.inl (hw _ (List.mem_of_getElem? (i := 75) rfl))) Via.refl e0 F_moveBeforeLast_a1 (g := (mkF m 1 #[.val (.ref a1)] [(.ref a1)])) rfl rfl (hb hby d12_1)
  refine Go.st st3 ?_
  show Go p e below _ (T3.setTop (mkF m 4 #[.val (.ref a1)] [(.ref w2)]))
  exact Go.ret (Q := Qm12_o Z a1 w2 h0 n0) X3 (v := some (.ref w2)) (fun h => by rw [Bd.returns] at h; cases h) Bd.notSynchronized (fun fs hr => retOut X3 hx Bd.returns rfl (Or.inr (Or.inr (Or.inr (Or.inr ⟨rfl, rfl, rfl⟩)))) (hb hby d12_4) hr) e3 ⟨rfl, N0, rfl⟩ (by decide) (by decide)
def Qm13_o (Z : State) (a1 : Addr) (w2 : Int32) (h0 : Heap) (n0 : Nat) (v : Option Value) (h : Heap) (L : List Loc) : Prop := v = some (.int (nar .boolean w2)) ∧ Fr n0 L ∧ h = h0
set_option maxRecDepth 65536 in
set_option maxHeartbeats 40000000 in
theorem rm13_o (l : Launch) (Z : State) (a0 : Array Value) (hw : ∀ d ∈ tables_1, d.before a0 Z = true) (ws : List Jvm.Cond) (a1 : Addr) (w2 : Int32) (h0 : Heap) (n0 : Nat) (Z0 : n0 ≤ h0.size) (F_swapped_a1 : Fld Z h0 a1 "com/example/tabulon/tabulon/game/State" "swapped" "Z" (.int w2)) :
    MetFree l (⟨"com/example/tabulon/tabulon/game/State", "swapped", "()Z"⟩ : MethodName) (head1 (Jvm.Cond.code (⟨"com/example/tabulon/tabulon/game/State", "swapped", "()Z"⟩ : MethodName) prog_93_method_11_code 1 (some .boolean) :: ws) ({ frames := 0, cells := 0, slots := 0, locals := 0 } : Room)) (fun a U => a = #[(.ref a1)] ∧ Z.Warmed39 U.vm ∧ U.heap = h0) (fun _ _ _ _ _ => True) (fun _ U o U' => ∃ v L, o = .returned v ∧ Qm13_o Z a1 w2 h0 n0 v U'.heap L ∧ FrameEnd U o U' L ({ frames := 0, cells := 0, slots := 0, locals := 0 } : Room).cells ({ frames := 0, cells := 0, slots := 0, locals := 0 } : Room).slots) := by
  refine MetFree.of_bodySF (plainFor_of_name pn_13) hisR ?_
  intro p e s m args below meth c s₁ Bd hml0 hP hK
  obtain ⟨rfl, hZ, hh⟩ := hP
  have hx := Bd.exec
  have hby := Bd.bytes
  have hml : c.maxLocals = 1 := hml0
  have hown : s.vm.findClass "com/example/tabulon/tabulon/game/State" = some m.cls := findClass_of_methodNamed Bd.named
  have hnm := (name_of_methodNamed Bd.named Bd.method).1
  have X0 : Stand p l e ({ frames := 0, cells := 0, slots := 0, locals := 0 } : Room) s m #[(.ref a1)] below meth c s₁ [] 0 0 := Stand.of_body Bd
  have e0 : s₁.heap = h0 := by rw [← hh, Bd.state]; rfl
  have N0 := Fr.nil n0
  refine Go.en (ef_13 m a1) ?_
  show Go p e below _ (s₁.setTop (mkF m 0 #[.val (.ref a1)] []))
  refine Go.st (fun _ kk => XS.aloadN X0.here hx rfl (hb hby d13_0) rfl rfl  kk) ?_
  show Go p e below _ (s₁.setTop (mkF m 1 #[.val (.ref a1)] [(.ref a1)]))
  obtain ⟨T3, X3, e3, st3⟩ := getF X0 hx hZ hown (host := "") (Or.inl (hw _ (List.mem_of_getElem? (i := 102) rfl))) Via.refl e0 F_swapped_a1 (g := (mkF m 1 #[.val (.ref a1)] [(.ref a1)])) rfl rfl (hb hby d13_1)
  refine Go.st st3 ?_
  show Go p e below _ (T3.setTop (mkF m 4 #[.val (.ref a1)] [(.int w2)]))
  exact Go.ret (Q := Qm13_o Z a1 w2 h0 n0) X3 (v := some (.int (nar .boolean w2))) (fun h => by rw [Bd.returns] at h; cases h) Bd.notSynchronized (fun fs hr => retN X3 hx (t := .boolean) Bd.returns (by simp) (hb hby d13_4) hr) e3 ⟨rfl, N0, rfl⟩ (by decide) (by decide)
def Qm8n_o (Z : State) (a1 : Addr) (a2 : Addr) (p3 : Int32) (u_swapped_a1 : Value) (u_mover_a1 : Value) (w5 : Int32) (u_moveBeforeLast_a1 : Value) (h0 : Heap) (n0 : Nat) (v : Option Value) (h : Heap) (L : List Loc) : Prop := v = none ∧ Fr n0 L ∧ Keep h0 h [a1] ∧ Exa Z h a1 "com/example/tabulon/tabulon/game/State" ∧ Fld Z h a1 "com/example/tabulon/tabulon/game/State" "lastMove" "Lcom/example/tabulon/tabulon/game/Move;" (.ref a2) ∧ Fld Z h a1 "com/example/tabulon/tabulon/game/State" "swapped" "Z" u_swapped_a1 ∧ Fld Z h a1 "com/example/tabulon/tabulon/game/State" "mover" "I" (.int p3) ∧ Fld Z h a1 "com/example/tabulon/tabulon/game/State" "moves" "I" (.int (w5 + (1 : Int32))) ∧ Fld Z h a1 "com/example/tabulon/tabulon/game/State" "moveBeforeLast" "Lcom/example/tabulon/tabulon/game/Move;" .null
set_option maxRecDepth 65536 in
set_option maxHeartbeats 40000000 in
theorem rm8n_o (l : Launch) (Z : State) (a0 : Array Value) (hw : ∀ d ∈ tables_1, d.before a0 Z = true) (ws : List Jvm.Cond) (a1 : Addr) (a2 : Addr) (p3 : Int32) (u_swapped_a1 : Value) (u_mover_a1 : Value) (w5 : Int32) (u_moveBeforeLast_a1 : Value) (h0 : Heap) (n0 : Nat) (Z0 : n0 ≤ h0.size) (F_lastMove_a1 : Fld Z h0 a1 "com/example/tabulon/tabulon/game/State" "lastMove" "Lcom/example/tabulon/tabulon/game/Move;" .null) (F_swapped_a1 : Fld Z h0 a1 "com/example/tabulon/tabulon/game/State" "swapped" "Z" u_swapped_a1) (E_a1 : Exa Z h0 a1 "com/example/tabulon/tabulon/game/State") (F_mover_a1 : Fld Z h0 a1 "com/example/tabulon/tabulon/game/State" "mover" "I" u_mover_a1) (g_a1 : n0 ≤ a1) (F_moves_a1 : Fld Z h0 a1 "com/example/tabulon/tabulon/game/State" "moves" "I" (.int w5)) (F_moveBeforeLast_a1 : Fld Z h0 a1 "com/example/tabulon/tabulon/game/State" "moveBeforeLast" "Lcom/example/tabulon/tabulon/game/Move;" u_moveBeforeLast_a1) :
    MetFree l (⟨"com/example/tabulon/tabulon/game/State", "passTurn", "(Lcom/example/tabulon/tabulon/game/Move;I)V"⟩ : MethodName) (head1 (Jvm.Cond.code (⟨"com/example/tabulon/tabulon/game/State", "passTurn", "(Lcom/example/tabulon/tabulon/game/Move;I)V"⟩ : MethodName) prog_93_method_29_code 3 none :: ws) ({ frames := 0, cells := 0, slots := 0, locals := 0 } : Room)) (fun a U => a = #[(.ref a1), (.ref a2), (.int p3)] ∧ Z.Warmed39 U.vm ∧ U.heap = h0) (fun _ _ _ _ _ => True) (fun _ U o U' => ∃ v L, o = .returned v ∧ Qm8n_o Z a1 a2 p3 u_swapped_a1 u_mover_a1 w5 u_moveBeforeLast_a1 h0 n0 v U'.heap L ∧ FrameEnd U o U' L ({ frames := 0, cells := 0, slots := 0, locals := 0 } : Room).cells ({ frames := 0, cells := 0, slots := 0, locals := 0 } : Room).slots) := by
  refine MetFree.of_bodySF (plainFor_of_name pn_8) hisR ?_
  intro p e s m args below meth c s₁ Bd hml0 hP hK
  obtain ⟨rfl, hZ, hh⟩ := hP
  have hx := Bd.exec
  have hby := Bd.bytes
  have hml : c.maxLocals = 3 := hml0
  have hown : s.vm.findClass "com/example/tabulon/tabulon/game/State" = some m.cls := findClass_of_methodNamed Bd.named
  have hnm := (name_of_methodNamed Bd.named Bd.method).1
  have X0 : Stand p l e ({ frames := 0, cells := 0, slots := 0, locals := 0 } : Room) s m #[(.ref a1), (.ref a2), (.int p3)] below meth c s₁ [] 0 0 := Stand.of_body Bd
  have e0 : s₁.heap = h0 := by rw [← hh, Bd.state]; rfl
  have N0 := Fr.nil n0
  refine Go.en (ef_8 m a1 a2 p3) ?_
  show Go p e below _ (s₁.setTop (mkF m 0 #[.val (.ref a1), .val (.ref a2), .val (.int p3)] []))
  refine Go.st (fun _ kk => XS.aloadN X0.here hx rfl (hb hby d8_0) rfl rfl  kk) ?_
  show Go p e below _ (s₁.setTop (mkF m 1 #[.val (.ref a1), .val (.ref a2), .val (.int p3)] [(.ref a1)]))
  refine Go.st (fun _ kk => XS.iloadN X0.here hx rfl (hb hby d8_1) rfl  kk) ?_
  show Go p e below _ (s₁.setTop (mkF m 2 #[.val (.ref a1), .val (.ref a2), .val (.int p3)] [(.int p3), (.ref a1)]))
  obtain ⟨T4, h4, X4, e4, W4, st4⟩ := putF X0 hx hZ hown (host := "") (Or.inl (hw _ (List.mem_of_getElem? (i := 35) rfl))) Via.refl e0 F_mover_a1 E_a1 (Or.inl (hw _ (List.mem_of_getElem? (i := 36) rfl))) (hw _ (List.mem_of_getElem? (i := 2) rfl)) (ty := .int) (by decide) rfl rfl (g := (mkF m 2 #[.val (.ref a1), .val (.ref a2), .val (.int p3)] [(.int p3), (.ref a1)])) rfl rfl (hb hby d8_2)
  refine Go.st st4 ?_
  have Fw4 : Fld Z h4 a1 "com/example/tabulon/tabulon/game/State" "mover" "I" (.int p3) := Fld.same W4 F_mover_a1
  have K4 : Keep h0 h4 [a1] := (Keep.refl h0 [a1]).wr W4 (Or.inl (List.mem_of_getElem? (i := 0) rfl))
  have N4 := Fr.snoc X4 N0 g_a1
  show Go p e below _ (T4.setTop (mkF m 5 #[.val (.ref a1), .val (.ref a2), .val (.int p3)] []))
  refine Go.st (fun _ kk => XS.aloadN X4.here hx rfl (hb hby d8_5) rfl rfl  kk) ?_
  show Go p e below _ (T4.setTop (mkF m 6 #[.val (.ref a1), .val (.ref a2), .val (.int p3)] [(.ref a1)]))
  refine Go.st (fun _ kk => XS.dup X4.here hx rfl (hb hby d8_6) rfl rfl kk) ?_
  show Go p e below _ (T4.setTop (mkF m 7 #[.val (.ref a1), .val (.ref a2), .val (.int p3)] [(.ref a1), (.ref a1)]))
  have f_6 := (Fld.other W4 F_moves_a1 (Or.inr (slot_ne (Or.inl (hw _ (List.mem_of_getElem? (i := 72) rfl))) (Or.inl (hw _ (List.mem_of_getElem? (i := 36) rfl))) (by decide) (t := .int) (t' := .int) (by decide) (by decide))))
  obtain ⟨T7, X7, e7, st7⟩ := getF X4 hx hZ hown (host := "") (Or.inl (hw _ (List.mem_of_getElem? (i := 71) rfl))) Via.refl e4 f_6 (g := (mkF m 7 #[.val (.ref a1), .val (.ref a2), .val (.int p3)] [(.ref a1), (.ref a1)])) rfl rfl (hb hby d8_7)
  refine Go.st st7 ?_
  show Go p e below _ (T7.setTop (mkF m 10 #[.val (.ref a1), .val (.ref a2), .val (.int p3)] [(.int w5), (.ref a1)]))
  refine Go.st (fun _ kk => XS.iconst X7.here hx rfl (hb hby d8_10) kk) ?_
  show Go p e below _ (T7.setTop (mkF m 11 #[.val (.ref a1), .val (.ref a2), .val (.int p3)] [(.int (1 : Int32)), (.int w5), (.ref a1)]))
  refine Go.st (fun _ kk => XS.iadd X7.here hx rfl (hb hby d8_11) rfl kk) ?_
  show Go p e below _ (T7.setTop (mkF m 12 #[.val (.ref a1), .val (.ref a2), .val (.int p3)] [(.int (w5 + (1 : Int32))), (.ref a1)]))
  have f_8 := (Exa.wr W4 E_a1)
  obtain ⟨T9, h9, X9, e9, W9, st9⟩ := putF X7 hx hZ hown (host := "") (Or.inl (hw _ (List.mem_of_getElem? (i := 71) rfl))) Via.refl e7 f_6 f_8 (Or.inl (hw _ (List.mem_of_getElem? (i := 72) rfl))) (hw _ (List.mem_of_getElem? (i := 2) rfl)) (ty := .int) (by decide) rfl rfl (g := (mkF m 12 #[.val (.ref a1), .val (.ref a2), .val (.int p3)] [(.int (w5 + (1 : Int32))), (.ref a1)])) rfl rfl (hb hby d8_12)
  refine Go.st st9 ?_
  have Fw9 : Fld Z h9 a1 "com/example/tabulon/tabulon/game/State" "moves" "I" (.int (w5 + (1 : Int32))) := Fld.same W9 f_6
  have K9 : Keep h0 h9 [a1] := K4.wr W9 (Or.inl (List.mem_of_getElem? (i := 0) rfl))
  have N9 := Fr.snoc X9 N4 g_a1
  show Go p e below _ (T9.setTop (mkF m 15 #[.val (.ref a1), .val (.ref a2), .val (.int p3)] []))
  refine Go.st (fun _ kk => XS.aloadN X9.here hx rfl (hb hby d8_15) rfl rfl  kk) ?_
  show Go p e below _ (T9.setTop (mkF m 16 #[.val (.ref a1), .val (.ref a2), .val (.int p3)] [(.ref a1)]))
  refine Go.st (fun _ kk => XS.aloadN X9.here hx rfl (hb hby d8_16) rfl rfl  kk) ?_
  show Go p e below _ (T9.setTop (mkF m 17 #[.val (.ref a1), .val (.ref a2), .val (.int p3)] [(.ref a1), (.ref a1)]))
  have f_10 := (Fld.other W9 (Fld.other W4 F_lastMove_a1 (Or.inr (slot_ne (Or.inl (hw _ (List.mem_of_getElem? (i := 74) rfl))) (Or.inl (hw _ (List.mem_of_getElem? (i := 36) rfl))) (by decide) (t := (.object "com/example/tabulon/tabulon/game/Move")) (t' := .int) (by decide) (by decide)))) (Or.inr (slot_ne (Or.inl (hw _ (List.mem_of_getElem? (i := 74) rfl))) (Or.inl (hw _ (List.mem_of_getElem? (i := 72) rfl))) (by decide) (t := (.object "com/example/tabulon/tabulon/game/Move")) (t' := .int) (by decide) (by decide))))
  obtain ⟨T11, X11, e11, st11⟩ := getF X9 hx hZ hown (host := "") (Or.inl (hw _ (List.mem_of_getElem? (i := 73) rfl))) Via.refl e9 f_10 (g := (mkF m 17 #[.val (.ref a1), .val (.ref a2), .val (.int p3)] [(.ref a1), (.ref a1)])) rfl rfl (hb hby d8_17)
  refine Go.st st11 ?_
  show Go p e below _ (T11.setTop (mkF m 20 #[.val (.ref a1), .val (.ref a2), .val (.int p3)] [.null, (.ref a1)]))
  have f_12 := (Exa.wr W9 f_8)
  have f_13 := (Fld.other W9 (Fld.other W4 F_moveBeforeLast_a1 (Or.inr (slot_ne (Or.inl (hw _ (List.mem_of_getElem? (i := 76) rfl))) (Or.inl (hw _ (List.mem_of_getElem? (i := 36) rfl))) (by decide) (t := (.object "com/example/tabulon/tabulon/game/Move")) (t' := .int) (by decide) (by decide)))) (Or.inr (slot_ne (Or.inl (hw _ (List.mem_of_getElem? (i := 76) rfl))) (Or.inl (hw _ (List.mem_of_getElem? (i := 72) rfl))) (by decide) (t := (.object "com/example/tabulon/tabulon/game/Move")) (t' := .int) (by decide) (by decide))))
  obtain ⟨T14, h14, X14, e14, W14, st14⟩ := putF X11 hx hZ hown (host := "") (Or.inl (hw _ (List.mem_of_getElem? (i := 75) rfl))) Via.refl e11 f_13 f_12 (Or.inl (hw _ (List.mem_of_getElem? (i := 76) rfl))) (hw _ (List.mem_of_getElem? (i := 2) rfl)) (ty := (.object "com/example/tabulon/tabulon/game/Move")) (by decide) rfl rfl (g := (mkF m 20 #[.val (.ref a1), .val (.ref a2), .val (.int p3)] [.null, (.ref a1)])) rfl rfl (hb hby d8_20)
  refine Go.st st14 ?_
  have Fw14 : Fld Z h14 a1 "com/example/tabulon/tabulon/game/State" "moveBeforeLast" "Lcom/example/tabulon/tabulon/game/Move;" .null := Fld.same W14 f_13
  have K14 : Keep h0 h14 [a1] := K9.wr W14 (Or.inl (List.mem_of_getElem? (i := 0) rfl))
  have N14 := Fr.snoc X14 N9 g_a1
  show Go p e below _ (T14.setTop (mkF m 23 #[.val (.ref a1), .val (.ref a2), .val (.int p3)] []))
  refine Go.st (fun _ kk => XS.aloadN X14.here hx rfl (hb hby d8_23) rfl rfl  kk) ?_
  show Go p e below _ (T14.setTop (mkF m 24 #[.val (.ref a1), .val (.ref a2), .val (.int p3)] [(.ref a1)]))
  refine Go.st (fun _ kk => XS.aloadN X14.here hx rfl (hb hby d8_24) rfl rfl  kk) ?_
  show Go p e below _ (T14.setTop (mkF m 25 #[.val (.ref a1), .val (.ref a2), .val (.int p3)] [(.ref a2), (.ref a1)]))
  have f_15 := (Exa.wr W14 f_12)
  have f_16 := (Fld.other W14 f_10 (Or.inr (slot_ne (Or.inl (hw _ (List.mem_of_getElem? (i := 74) rfl))) (Or.inl (hw _ (List.mem_of_getElem? (i := 76) rfl))) (by decide) (t := (.object "com/example/tabulon/tabulon/game/Move")) (t' := (.object "com/example/tabulon/tabulon/game/Move")) (by decide) (by decide))))
  obtain ⟨T17, h17, X17, e17, W17, st17⟩ := putF X14 hx hZ hown (host := "") (Or.inl (hw _ (List.mem_of_getElem? (i := 73) rfl))) Via.refl e14 f_16 f_15 (Or.inl (hw _ (List.mem_of_getElem? (i := 74) rfl))) (hw _ (List.mem_of_getElem? (i := 2) rfl)) (ty := (.object "com/example/tabulon/tabulon/game/Move")) (by decide) rfl rfl (g := (mkF m 25 #[.val (.ref a1), .val (.ref a2), .val (.int p3)] [(.ref a2), (.ref a1)])) rfl rfl (hb hby d8_25)
  refine Go.st st17 ?_
  have Fw17 : Fld Z h17 a1 "com/example/tabulon/tabulon/game/State" "lastMove" "Lcom/example/tabulon/tabulon/game/Move;" (.ref a2) := Fld.same W17 f_16
  have K17 : Keep h0 h17 [a1] := K14.wr W17 (Or.inl (List.mem_of_getElem? (i := 0) rfl))
  have N17 := Fr.snoc X17 N14 g_a1
  show Go p e below _ (T17.setTop (mkF m 28 #[.val (.ref a1), .val (.ref a2), .val (.int p3)] []))
  have f_18 := (Exa.wr W17 f_15)
  have f_19 := (Fld.other W17 (Fld.other W14 (Fld.other W9 (Fld.other W4 F_swapped_a1 (Or.inr (slot_ne (Or.inl (hw _ (List.mem_of_getElem? (i := 103) rfl))) (Or.inl (hw _ (List.mem_of_getElem? (i := 36) rfl))) (by decide) (t := .boolean) (t' := .int) (by decide) (by decide)))) (Or.inr (slot_ne (Or.inl (hw _ (List.mem_of_getElem? (i := 103) rfl))) (Or.inl (hw _ (List.mem_of_getElem? (i := 72) rfl))) (by decide) (t := .boolean) (t' := .int) (by decide) (by decide)))) (Or.inr (slot_ne (Or.inl (hw _ (List.mem_of_getElem? (i := 103) rfl))) (Or.inl (hw _ (List.mem_of_getElem? (i := 76) rfl))) (by decide) (t := .boolean) (t' := (.object "com/example/tabulon/tabulon/game/Move")) (by decide) (by decide)))) (Or.inr (slot_ne (Or.inl (hw _ (List.mem_of_getElem? (i := 103) rfl))) (Or.inl (hw _ (List.mem_of_getElem? (i := 74) rfl))) (by decide) (t := .boolean) (t' := (.object "com/example/tabulon/tabulon/game/Move")) (by decide) (by decide))))
  have f_20 := (Fld.other W17 (Fld.other W14 (Fld.other W9 Fw4 (Or.inr (slot_ne (Or.inl (hw _ (List.mem_of_getElem? (i := 36) rfl))) (Or.inl (hw _ (List.mem_of_getElem? (i := 72) rfl))) (by decide) (t := .int) (t' := .int) (by decide) (by decide)))) (Or.inr (slot_ne (Or.inl (hw _ (List.mem_of_getElem? (i := 36) rfl))) (Or.inl (hw _ (List.mem_of_getElem? (i := 76) rfl))) (by decide) (t := .int) (t' := (.object "com/example/tabulon/tabulon/game/Move")) (by decide) (by decide)))) (Or.inr (slot_ne (Or.inl (hw _ (List.mem_of_getElem? (i := 36) rfl))) (Or.inl (hw _ (List.mem_of_getElem? (i := 74) rfl))) (by decide) (t := .int) (t' := (.object "com/example/tabulon/tabulon/game/Move")) (by decide) (by decide))))
  have f_21 := (Fld.other W17 (Fld.other W14 Fw9 (Or.inr (slot_ne (Or.inl (hw _ (List.mem_of_getElem? (i := 72) rfl))) (Or.inl (hw _ (List.mem_of_getElem? (i := 76) rfl))) (by decide) (t := .int) (t' := (.object "com/example/tabulon/tabulon/game/Move")) (by decide) (by decide)))) (Or.inr (slot_ne (Or.inl (hw _ (List.mem_of_getElem? (i := 72) rfl))) (Or.inl (hw _ (List.mem_of_getElem? (i := 74) rfl))) (by decide) (t := .int) (t' := (.object "com/example/tabulon/tabulon/game/Move")) (by decide) (by decide))))
  have f_22 := (Fld.other W17 Fw14 (Or.inr (slot_ne (Or.inl (hw _ (List.mem_of_getElem? (i := 76) rfl))) (Or.inl (hw _ (List.mem_of_getElem? (i := 74) rfl))) (by decide) (t := (.object "com/example/tabulon/tabulon/game/Move")) (t' := (.object "com/example/tabulon/tabulon/game/Move")) (by decide) (by decide))))
  exact Go.ret (Q := Qm8n_o Z a1 a2 p3 u_swapped_a1 u_mover_a1 w5 u_moveBeforeLast_a1 h0 n0) X17 (v := none) (fun _ => rfl) Bd.notSynchronized (fun fs hr => X17.returnOut hx Bd.returns (hb hby d8_28) hr) e17 ⟨rfl, N17, K17, f_18, Fw17, f_19, f_20, f_21, f_22⟩ (by decide) (by decide)
def Qm8_o (Z : State) (a1 : Addr) (a2 : Addr) (p3 : Int32) (u_swapped_a1 : Value) (u_mover_a1 : Value) (w5 : Int32) (w10 : Addr) (u_moveBeforeLast_a1 : Value) (h0 : Heap) (n0 : Nat) (v : Option Value) (h : Heap) (L : List Loc) : Prop := v = none ∧ Fr n0 L ∧ Keep h0 h [a1] ∧ Exa Z h a1 "com/example/tabulon/tabulon/game/State" ∧ Fld Z h a1 "com/example/tabulon/tabulon/game/State" "swapped" "Z" u_swapped_a1 ∧ Fld Z h a1 "com/example/tabulon/tabulon/game/State" "mover" "I" (.int p3) ∧ Fld Z h a1 "com/example/tabulon/tabulon/game/State" "moves" "I" (.int (w5 + (1 : Int32))) ∧ Fld Z h a1 "com/example/tabulon/tabulon/game/State" "lastMove" "Lcom/example/tabulon/tabulon/game/Move;" (.ref a2) ∧ Fld Z h a1 "com/example/tabulon/tabulon/game/State" "moveBeforeLast" "Lcom/example/tabulon/tabulon/game/Move;" (.ref w10)
set_option maxRecDepth 65536 in
set_option maxHeartbeats 40000000 in
theorem rm8_o (l : Launch) (Z : State) (a0 : Array Value) (hw : ∀ d ∈ tables_1, d.before a0 Z = true) (ws : List Jvm.Cond) (a1 : Addr) (a2 : Addr) (p3 : Int32) (u_swapped_a1 : Value) (u_mover_a1 : Value) (w5 : Int32) (w10 : Addr) (u_moveBeforeLast_a1 : Value) (h0 : Heap) (n0 : Nat) (Z0 : n0 ≤ h0.size) (F_swapped_a1 : Fld Z h0 a1 "com/example/tabulon/tabulon/game/State" "swapped" "Z" u_swapped_a1) (E_a1 : Exa Z h0 a1 "com/example/tabulon/tabulon/game/State") (F_mover_a1 : Fld Z h0 a1 "com/example/tabulon/tabulon/game/State" "mover" "I" u_mover_a1) (g_a1 : n0 ≤ a1) (F_moves_a1 : Fld Z h0 a1 "com/example/tabulon/tabulon/game/State" "moves" "I" (.int w5)) (F_lastMove_a1 : Fld Z h0 a1 "com/example/tabulon/tabulon/game/State" "lastMove" "Lcom/example/tabulon/tabulon/game/Move;" (.ref w10)) (F_moveBeforeLast_a1 : Fld Z h0 a1 "com/example/tabulon/tabulon/game/State" "moveBeforeLast" "Lcom/example/tabulon/tabulon/game/Move;" u_moveBeforeLast_a1) :
    MetFree l (⟨"com/example/tabulon/tabulon/game/State", "passTurn", "(Lcom/example/tabulon/tabulon/game/Move;I)V"⟩ : MethodName) (head1 (Jvm.Cond.code (⟨"com/example/tabulon/tabulon/game/State", "passTurn", "(Lcom/example/tabulon/tabulon/game/Move;I)V"⟩ : MethodName) prog_93_method_29_code 3 none :: ws) ({ frames := 0, cells := 0, slots := 0, locals := 0 } : Room)) (fun a U => a = #[(.ref a1), (.ref a2), (.int p3)] ∧ Z.Warmed39 U.vm ∧ U.heap = h0) (fun _ _ _ _ _ => True) (fun _ U o U' => ∃ v L, o = .returned v ∧ Qm8_o Z a1 a2 p3 u_swapped_a1 u_mover_a1 w5 w10 u_moveBeforeLast_a1 h0 n0 v U'.heap L ∧ FrameEnd U o U' L ({ frames := 0, cells := 0, slots := 0, locals := 0 } : Room).cells ({ frames := 0, cells := 0, slots := 0, locals := 0 } : Room).slots) := by
  refine MetFree.of_bodySF (plainFor_of_name pn_8) hisR ?_
  intro p e s m args below meth c s₁ Bd hml0 hP hK
  obtain ⟨rfl, hZ, hh⟩ := hP
  have hx := Bd.exec
  have hby := Bd.bytes
  have hml : c.maxLocals = 3 := hml0
  have hown : s.vm.findClass "com/example/tabulon/tabulon/game/State" = some m.cls := findClass_of_methodNamed Bd.named
  have hnm := (name_of_methodNamed Bd.named Bd.method).1
  have X0 : Stand p l e ({ frames := 0, cells := 0, slots := 0, locals := 0 } : Room) s m #[(.ref a1), (.ref a2), (.int p3)] below meth c s₁ [] 0 0 := Stand.of_body Bd
  have e0 : s₁.heap = h0 := by rw [← hh, Bd.state]; rfl
  have N0 := Fr.nil n0
  refine Go.en (ef_8 m a1 a2 p3) ?_
  show Go p e below _ (s₁.setTop (mkF m 0 #[.val (.ref a1), .val (.ref a2), .val (.int p3)] []))
  refine Go.st (fun _ kk => XS.aloadN X0.here hx rfl (hb hby d8_0) rfl rfl  kk) ?_
  show Go p e below _ (s₁.setTop (mkF m 1 #[.val (.ref a1), .val (.ref a2), .val (.int p3)] [(.ref a1)]))
  refine Go.st (fun _ kk => XS.iloadN X0.here hx rfl (hb hby d8_1) rfl  kk) ?_
  show Go p e below _ (s₁.setTop (mkF m 2 #[.val (.ref a1), .val (.ref a2), .val (.int p3)] [(.int p3), (.ref a1)]))
  obtain ⟨T4, h4, X4, e4, W4, st4⟩ := putF X0 hx hZ hown (host := "") (Or.inl (hw _ (List.mem_of_getElem? (i := 35) rfl))) Via.refl e0 F_mover_a1 E_a1 (Or.inl (hw _ (List.mem_of_getElem? (i := 36) rfl))) (hw _ (List.mem_of_getElem? (i := 2) rfl)) (ty := .int) (by decide) rfl rfl (g := (mkF m 2 #[.val (.ref a1), .val (.ref a2), .val (.int p3)] [(.int p3), (.ref a1)])) rfl rfl (hb hby d8_2)
  refine Go.st st4 ?_
  have Fw4 : Fld Z h4 a1 "com/example/tabulon/tabulon/game/State" "mover" "I" (.int p3) := Fld.same W4 F_mover_a1
  have K4 : Keep h0 h4 [a1] := (Keep.refl h0 [a1]).wr W4 (Or.inl (List.mem_of_getElem? (i := 0) rfl))
  have N4 := Fr.snoc X4 N0 g_a1
  show Go p e below _ (T4.setTop (mkF m 5 #[.val (.ref a1), .val (.ref a2), .val (.int p3)] []))
  refine Go.st (fun _ kk => XS.aloadN X4.here hx rfl (hb hby d8_5) rfl rfl  kk) ?_
  show Go p e below _ (T4.setTop (mkF m 6 #[.val (.ref a1), .val (.ref a2), .val (.int p3)] [(.ref a1)]))
  refine Go.st (fun _ kk => XS.dup X4.here hx rfl (hb hby d8_6) rfl rfl kk) ?_
  show Go p e below _ (T4.setTop (mkF m 7 #[.val (.ref a1), .val (.ref a2), .val (.int p3)] [(.ref a1), (.ref a1)]))
  have f_6 := (Fld.other W4 F_moves_a1 (Or.inr (slot_ne (Or.inl (hw _ (List.mem_of_getElem? (i := 72) rfl))) (Or.inl (hw _ (List.mem_of_getElem? (i := 36) rfl))) (by decide) (t := .int) (t' := .int) (by decide) (by decide))))
  obtain ⟨T7, X7, e7, st7⟩ := getF X4 hx hZ hown (host := "") (Or.inl (hw _ (List.mem_of_getElem? (i := 71) rfl))) Via.refl e4 f_6 (g := (mkF m 7 #[.val (.ref a1), .val (.ref a2), .val (.int p3)] [(.ref a1), (.ref a1)])) rfl rfl (hb hby d8_7)
  refine Go.st st7 ?_
  show Go p e below _ (T7.setTop (mkF m 10 #[.val (.ref a1), .val (.ref a2), .val (.int p3)] [(.int w5), (.ref a1)]))
  refine Go.st (fun _ kk => XS.iconst X7.here hx rfl (hb hby d8_10) kk) ?_
  show Go p e below _ (T7.setTop (mkF m 11 #[.val (.ref a1), .val (.ref a2), .val (.int p3)] [(.int (1 : Int32)), (.int w5), (.ref a1)]))
  refine Go.st (fun _ kk => XS.iadd X7.here hx rfl (hb hby d8_11) rfl kk) ?_
  show Go p e below _ (T7.setTop (mkF m 12 #[.val (.ref a1), .val (.ref a2), .val (.int p3)] [(.int (w5 + (1 : Int32))), (.ref a1)]))
  have f_8 := (Exa.wr W4 E_a1)
  obtain ⟨T9, h9, X9, e9, W9, st9⟩ := putF X7 hx hZ hown (host := "") (Or.inl (hw _ (List.mem_of_getElem? (i := 71) rfl))) Via.refl e7 f_6 f_8 (Or.inl (hw _ (List.mem_of_getElem? (i := 72) rfl))) (hw _ (List.mem_of_getElem? (i := 2) rfl)) (ty := .int) (by decide) rfl rfl (g := (mkF m 12 #[.val (.ref a1), .val (.ref a2), .val (.int p3)] [(.int (w5 + (1 : Int32))), (.ref a1)])) rfl rfl (hb hby d8_12)
  refine Go.st st9 ?_
  have Fw9 : Fld Z h9 a1 "com/example/tabulon/tabulon/game/State" "moves" "I" (.int (w5 + (1 : Int32))) := Fld.same W9 f_6
  have K9 : Keep h0 h9 [a1] := K4.wr W9 (Or.inl (List.mem_of_getElem? (i := 0) rfl))
  have N9 := Fr.snoc X9 N4 g_a1
  show Go p e below _ (T9.setTop (mkF m 15 #[.val (.ref a1), .val (.ref a2), .val (.int p3)] []))
  refine Go.st (fun _ kk => XS.aloadN X9.here hx rfl (hb hby d8_15) rfl rfl  kk) ?_
  show Go p e below _ (T9.setTop (mkF m 16 #[.val (.ref a1), .val (.ref a2), .val (.int p3)] [(.ref a1)]))
  refine Go.st (fun _ kk => XS.aloadN X9.here hx rfl (hb hby d8_16) rfl rfl  kk) ?_
  show Go p e below _ (T9.setTop (mkF m 17 #[.val (.ref a1), .val (.ref a2), .val (.int p3)] [(.ref a1), (.ref a1)]))
  have f_11 := (Fld.other W9 (Fld.other W4 F_lastMove_a1 (Or.inr (slot_ne (Or.inl (hw _ (List.mem_of_getElem? (i := 74) rfl))) (Or.inl (hw _ (List.mem_of_getElem? (i := 36) rfl))) (by decide) (t := (.object "com/example/tabulon/tabulon/game/Move")) (t' := .int) (by decide) (by decide)))) (Or.inr (slot_ne (Or.inl (hw _ (List.mem_of_getElem? (i := 74) rfl))) (Or.inl (hw _ (List.mem_of_getElem? (i := 72) rfl))) (by decide) (t := (.object "com/example/tabulon/tabulon/game/Move")) (t' := .int) (by decide) (by decide))))
  obtain ⟨T12, X12, e12, st12⟩ := getF X9 hx hZ hown (host := "") (Or.inl (hw _ (List.mem_of_getElem? (i := 73) rfl))) Via.refl e9 f_11 (g := (mkF m 17 #[.val (.ref a1), .val (.ref a2), .val (.int p3)] [(.ref a1), (.ref a1)])) rfl rfl (hb hby d8_17)
  refine Go.st st12 ?_
  show Go p e below _ (T12.setTop (mkF m 20 #[.val (.ref a1), .val (.ref a2), .val (.int p3)] [(.ref w10), (.ref a1)]))
  have f_13 := (Exa.wr W9 f_8)
  have f_14 := (Fld.other W9 (Fld.other W4 F_moveBeforeLast_a1 (Or.inr (slot_ne (Or.inl (hw _ (List.mem_of_getElem? (i := 76) rfl))) (Or.inl (hw _ (List.mem_of_getElem? (i := 36) rfl))) (by decide) (t := (.object "com/example/tabulon/tabulon/game/Move")) (t' := .int) (by decide) (by decide)))) (Or.inr (slot_ne (Or.inl (hw _ (List.mem_of_getElem? (i := 76) rfl))) (Or.inl (hw _ (List.mem_of_getElem? (i := 72) rfl))) (by decide) (t := (.object "com/example/tabulon/tabulon/game/Move")) (t' := .int) (by decide) (by decide))))
  obtain ⟨T15, h15, X15, e15, W15, st15⟩ := putF X12 hx hZ hown (host := "") (Or.inl (hw _ (List.mem_of_getElem? (i := 75) rfl))) Via.refl e12 f_14 f_13 (Or.inl (hw _ (List.mem_of_getElem? (i := 76) rfl))) (hw _ (List.mem_of_getElem? (i := 2) rfl)) (ty := (.object "com/example/tabulon/tabulon/game/Move")) (by decide) rfl rfl (g := (mkF m 20 #[.val (.ref a1), .val (.ref a2), .val (.int p3)] [(.ref w10), (.ref a1)])) rfl rfl (hb hby d8_20)
  refine Go.st st15 ?_
  have Fw15 : Fld Z h15 a1 "com/example/tabulon/tabulon/game/State" "moveBeforeLast" "Lcom/example/tabulon/tabulon/game/Move;" (.ref w10) := Fld.same W15 f_14
  have K15 : Keep h0 h15 [a1] := K9.wr W15 (Or.inl (List.mem_of_getElem? (i := 0) rfl))
  have N15 := Fr.snoc X15 N9 g_a1
  show Go p e below _ (T15.setTop (mkF m 23 #[.val (.ref a1), .val (.ref a2), .val (.int p3)] []))
  refine Go.st (fun _ kk => XS.aloadN X15.here hx rfl (hb hby d8_23) rfl rfl  kk) ?_
  show Go p e below _ (T15.setTop (mkF m 24 #[.val (.ref a1), .val (.ref a2), .val (.int p3)] [(.ref a1)]))
  refine Go.st (fun _ kk => XS.aloadN X15.here hx rfl (hb hby d8_24) rfl rfl  kk) ?_
  show Go p e below _ (T15.setTop (mkF m 25 #[.val (.ref a1), .val (.ref a2), .val (.int p3)] [(.ref a2), (.ref a1)]))
  have f_16 := (Exa.wr W15 f_13)
  have f_17 := (Fld.other W15 f_11 (Or.inr (slot_ne (Or.inl (hw _ (List.mem_of_getElem? (i := 74) rfl))) (Or.inl (hw _ (List.mem_of_getElem? (i := 76) rfl))) (by decide) (t := (.object "com/example/tabulon/tabulon/game/Move")) (t' := (.object "com/example/tabulon/tabulon/game/Move")) (by decide) (by decide))))
  obtain ⟨T18, h18, X18, e18, W18, st18⟩ := putF X15 hx hZ hown (host := "") (Or.inl (hw _ (List.mem_of_getElem? (i := 73) rfl))) Via.refl e15 f_17 f_16 (Or.inl (hw _ (List.mem_of_getElem? (i := 74) rfl))) (hw _ (List.mem_of_getElem? (i := 2) rfl)) (ty := (.object "com/example/tabulon/tabulon/game/Move")) (by decide) rfl rfl (g := (mkF m 25 #[.val (.ref a1), .val (.ref a2), .val (.int p3)] [(.ref a2), (.ref a1)])) rfl rfl (hb hby d8_25)
  refine Go.st st18 ?_
  have Fw18 : Fld Z h18 a1 "com/example/tabulon/tabulon/game/State" "lastMove" "Lcom/example/tabulon/tabulon/game/Move;" (.ref a2) := Fld.same W18 f_17
  have K18 : Keep h0 h18 [a1] := K15.wr W18 (Or.inl (List.mem_of_getElem? (i := 0) rfl))
  have N18 := Fr.snoc X18 N15 g_a1
  show Go p e below _ (T18.setTop (mkF m 28 #[.val (.ref a1), .val (.ref a2), .val (.int p3)] []))
  have f_19 := (Exa.wr W18 f_16)
  have f_20 := (Fld.other W18 (Fld.other W15 (Fld.other W9 (Fld.other W4 F_swapped_a1 (Or.inr (slot_ne (Or.inl (hw _ (List.mem_of_getElem? (i := 103) rfl))) (Or.inl (hw _ (List.mem_of_getElem? (i := 36) rfl))) (by decide) (t := .boolean) (t' := .int) (by decide) (by decide)))) (Or.inr (slot_ne (Or.inl (hw _ (List.mem_of_getElem? (i := 103) rfl))) (Or.inl (hw _ (List.mem_of_getElem? (i := 72) rfl))) (by decide) (t := .boolean) (t' := .int) (by decide) (by decide)))) (Or.inr (slot_ne (Or.inl (hw _ (List.mem_of_getElem? (i := 103) rfl))) (Or.inl (hw _ (List.mem_of_getElem? (i := 76) rfl))) (by decide) (t := .boolean) (t' := (.object "com/example/tabulon/tabulon/game/Move")) (by decide) (by decide)))) (Or.inr (slot_ne (Or.inl (hw _ (List.mem_of_getElem? (i := 103) rfl))) (Or.inl (hw _ (List.mem_of_getElem? (i := 74) rfl))) (by decide) (t := .boolean) (t' := (.object "com/example/tabulon/tabulon/game/Move")) (by decide) (by decide))))
  have f_21 := (Fld.other W18 (Fld.other W15 (Fld.other W9 Fw4 (Or.inr (slot_ne (Or.inl (hw _ (List.mem_of_getElem? (i := 36) rfl))) (Or.inl (hw _ (List.mem_of_getElem? (i := 72) rfl))) (by decide) (t := .int) (t' := .int) (by decide) (by decide)))) (Or.inr (slot_ne (Or.inl (hw _ (List.mem_of_getElem? (i := 36) rfl))) (Or.inl (hw _ (List.mem_of_getElem? (i := 76) rfl))) (by decide) (t := .int) (t' := (.object "com/example/tabulon/tabulon/game/Move")) (by decide) (by decide)))) (Or.inr (slot_ne (Or.inl (hw _ (List.mem_of_getElem? (i := 36) rfl))) (Or.inl (hw _ (List.mem_of_getElem? (i := 74) rfl))) (by decide) (t := .int) (t' := (.object "com/example/tabulon/tabulon/game/Move")) (by decide) (by decide))))
  have f_22 := (Fld.other W18 (Fld.other W15 Fw9 (Or.inr (slot_ne (Or.inl (hw _ (List.mem_of_getElem? (i := 72) rfl))) (Or.inl (hw _ (List.mem_of_getElem? (i := 76) rfl))) (by decide) (t := .int) (t' := (.object "com/example/tabulon/tabulon/game/Move")) (by decide) (by decide)))) (Or.inr (slot_ne (Or.inl (hw _ (List.mem_of_getElem? (i := 72) rfl))) (Or.inl (hw _ (List.mem_of_getElem? (i := 74) rfl))) (by decide) (t := .int) (t' := (.object "com/example/tabulon/tabulon/game/Move")) (by decide) (by decide))))
  have f_23 := (Fld.other W18 Fw15 (Or.inr (slot_ne (Or.inl (hw _ (List.mem_of_getElem? (i := 76) rfl))) (Or.inl (hw _ (List.mem_of_getElem? (i := 74) rfl))) (by decide) (t := (.object "com/example/tabulon/tabulon/game/Move")) (t' := (.object "com/example/tabulon/tabulon/game/Move")) (by decide) (by decide))))
  exact Go.ret (Q := Qm8_o Z a1 a2 p3 u_swapped_a1 u_mover_a1 w5 w10 u_moveBeforeLast_a1 h0 n0) X18 (v := none) (fun _ => rfl) Bd.notSynchronized (fun fs hr => X18.returnOut hx Bd.returns (hb hby d8_28) hr) e18 ⟨rfl, N18, K18, f_19, f_20, f_21, f_22, Fw18, f_23⟩ (by decide) (by decide)
def Qm1_o (Z : State) (a1 : Addr) (p2 : Int32) (a3 : Addr) (p4 : Int32) (z0 : Int32) (u_moves_a1 : Value) (u_lastMove_a1 : Value) (u_moveBeforeLast_a1 : Value) (u_swapped_a1 : Value) (w6 : Addr) (u_frames_a1 : Value) (u_pieces_a1 : Value) (u_words_a1 : Value) (u_sitesOfKind_a1 : Value) (u_ownerOfKind_a1 : Value) (u_unmoved_a1 : Value) (u_lastMoveOf_a1 : Value) (u_mover_a1 : Value) (h0 : Heap) (n0 : Nat) (v : Option Value) (h : Heap) (L : List Loc) : Prop := v = none ∧ Fr n0 L ∧ Keep h0 h [a1] ∧ Exa Z h a1 "com/example/tabulon/tabulon/game/State" ∧ Fld Z h a1 "com/example/tabulon/tabulon/game/State" "moves" "I" u_moves_a1 ∧ Fld Z h a1 "com/example/tabulon/tabulon/game/State" "lastMove" "Lcom/example/tabulon/tabulon/game/Move;" u_lastMove_a1 ∧ Fld Z h a1 "com/example/tabulon/tabulon/game/State" "moveBeforeLast" "Lcom/example/tabulon/tabulon/game/Move;" u_moveBeforeLast_a1 ∧ Fld Z h a1 "com/example/tabulon/tabulon/game/State" "swapped" "Z" u_swapped_a1 ∧ Fld Z h a1 "com/example/tabulon/tabulon/game/State" "mover" "I" (.int p4)
set_option maxRecDepth 65536 in
set_option maxHeartbeats 40000000 in
theorem rm1_o (l : Launch) (Z : State) (a0 : Array Value) (hw : ∀ d ∈ tables_1, d.before a0 Z = true) (ws : List Jvm.Cond) (a1 : Addr) (p2 : Int32) (a3 : Addr) (p4 : Int32) (z0 : Int32) (u_moves_a1 : Value) (u_lastMove_a1 : Value) (u_moveBeforeLast_a1 : Value) (u_swapped_a1 : Value) (w6 : Addr) (u_frames_a1 : Value) (u_pieces_a1 : Value) (u_words_a1 : Value) (u_sitesOfKind_a1 : Value) (u_ownerOfKind_a1 : Value) (u_unmoved_a1 : Value) (u_lastMoveOf_a1 : Value) (u_mover_a1 : Value) (h0 : Heap) (n0 : Nat) (Z0 : n0 ≤ h0.size) (V_a3 : Arn Z h0 a3 .int z0) (hne_a3_a1 : ¬ (a3 = a1)) (hs : 1 ≤ p2.toInt ∧ p2.toInt ≤ 8) (hz : z0.toInt ≤ 3) (F_moves_a1 : Fld Z h0 a1 "com/example/tabulon/tabulon/game/State" "moves" "I" u_moves_a1) (F_lastMove_a1 : Fld Z h0 a1 "com/example/tabulon/tabulon/game/State" "lastMove" "Lcom/example/tabulon/tabulon/game/Move;" u_lastMove_a1) (F_moveBeforeLast_a1 : Fld Z h0 a1 "com/example/tabulon/tabulon/game/State" "moveBeforeLast" "Lcom/example/tabulon/tabulon/game/Move;" u_moveBeforeLast_a1) (F_swapped_a1 : Fld Z h0 a1 "com/example/tabulon/tabulon/game/State" "swapped" "Z" u_swapped_a1) (S_NO_FRAMES : Sta Z h0 "com/example/tabulon/tabulon/game/State" "NO_FRAMES" "[Lcom/example/tabulon/tabulon/game/State$Replaced;" (.ref w6)) (E_a1 : Exa Z h0 a1 "com/example/tabulon/tabulon/game/State") (F_frames_a1 : Fld Z h0 a1 "com/example/tabulon/tabulon/game/State" "frames" "[Lcom/example/tabulon/tabulon/game/State$Replaced;" u_frames_a1) (g_a1 : n0 ≤ a1) (F_pieces_a1 : Fld Z h0 a1 "com/example/tabulon/tabulon/game/State" "pieces" "[I" u_pieces_a1) (F_words_a1 : Fld Z h0 a1 "com/example/tabulon/tabulon/game/State" "words" "I" u_words_a1) (F_sitesOfKind_a1 : Fld Z h0 a1 "com/example/tabulon/tabulon/game/State" "sitesOfKind" "[J" u_sitesOfKind_a1) (F_ownerOfKind_a1 : Fld Z h0 a1 "com/example/tabulon/tabulon/game/State" "ownerOfKind" "[I" u_ownerOfKind_a1) (F_unmoved_a1 : Fld Z h0 a1 "com/example/tabulon/tabulon/game/State" "unmoved" "[Z" u_unmoved_a1) (F_lastMoveOf_a1 : Fld Z h0 a1 "com/example/tabulon/tabulon/game/State" "lastMoveOf" "[I" u_lastMoveOf_a1) (F_mover_a1 : Fld Z h0 a1 "com/example/tabulon/tabulon/game/State" "mover" "I" u_mover_a1) :
    MetFree l (⟨"com/example/tabulon/tabulon/game/State", "<init>", "(I[II)V"⟩ : MethodName) (head1 (Jvm.Cond.code (⟨"com/example/tabulon/tabulon/game/State", "<init>", "(I[II)V"⟩ : MethodName) prog_93_method_1_code 5 none :: ws) ({ frames := 1, cells := 4, slots := 22, locals := 15 } : Room)) (fun a U => a = #[(.ref a1), (.int p2), (.ref a3), (.int p4)] ∧ Z.Warmed39 U.vm ∧ U.heap = h0) (fun _ _ _ _ _ => True) (fun _ U o U' => ∃ v L, o = .returned v ∧ Qm1_o Z a1 p2 a3 p4 z0 u_moves_a1 u_lastMove_a1 u_moveBeforeLast_a1 u_swapped_a1 w6 u_frames_a1 u_pieces_a1 u_words_a1 u_sitesOfKind_a1 u_ownerOfKind_a1 u_unmoved_a1 u_lastMoveOf_a1 u_mover_a1 h0 n0 v U'.heap L ∧ FrameEnd U o U' L ({ frames := 1, cells := 4, slots := 22, locals := 15 } : Room).cells ({ frames := 1, cells := 4, slots := 22, locals := 15 } : Room).slots) := by
  refine MetFree.of_bodySF (plainFor_of_name pn_1) hisR ?_
  intro p e s m args below meth c s₁ Bd hml0 hP hK
  obtain ⟨rfl, hZ, hh⟩ := hP
  have hx := Bd.exec
  have hby := Bd.bytes
  have hml : c.maxLocals = 5 := hml0
  have hown : s.vm.findClass "com/example/tabulon/tabulon/game/State" = some m.cls := findClass_of_methodNamed Bd.named
  have hnm := (name_of_methodNamed Bd.named Bd.method).1
  have X0 : Stand p l e ({ frames := 1, cells := 4, slots := 22, locals := 15 } : Room) s m #[(.ref a1), (.int p2), (.ref a3), (.int p4)] below meth c s₁ [] 0 0 := Stand.of_body Bd
  have e0 : s₁.heap = h0 := by rw [← hh, Bd.state]; rfl
  have N0 := Fr.nil n0
  refine Go.en (ef_1 m a1 p2 a3 p4) ?_
  show Go p e below _ (s₁.setTop (mkF m 0 #[.val (.ref a1), .val (.int p2), .val (.ref a3), .val (.int p4), .unset] []))
  refine Go.st (fun _ kk => XS.aloadN X0.here hx rfl (hb hby d1_0) rfl rfl  kk) ?_
  show Go p e below _ (s₁.setTop (mkF m 1 #[.val (.ref a1), .val (.int p2), .val (.ref a3), .val (.int p4), .unset] [(.ref a1)]))
  obtain ⟨T5, X5, e5, st5⟩ := initO X0 hx hZ hown (hw _ (List.mem_of_getElem? (i := 7) rfl)) (hw _ (List.mem_of_getElem? (i := 8) rfl)) (hw _ (List.mem_of_getElem? (i := 9) rfl)) e0 (g := (mkF m 1 #[.val (.ref a1), .val (.int p2), .val (.ref a3), .val (.int p4), .unset] [(.ref a1)])) rfl (by rw [hml]; rfl) rfl (hb hby d1_1) (by decide) (W := 0) (by show 2 * 0 + _ ≤ _; exact Nat.le_of_eq rfl) (by decide)
  refine Go.st st5 ?_
  show Go p e below _ (T5.setTop (mkF m 4 #[.val (.ref a1), .val (.int p2), .val (.ref a3), .val (.int p4), .unset] []))
  refine Go.st (fun _ kk => XS.aloadN X5.here hx rfl (hb hby d1_4) rfl rfl  kk) ?_
  show Go p e below _ (T5.setTop (mkF m 5 #[.val (.ref a1), .val (.int p2), .val (.ref a3), .val (.int p4), .unset] [(.ref a1)]))
  obtain ⟨T7, X7, e7, st7⟩ := getS2 X5 hx hZ hown (host := "") (Or.inl (hw _ (List.mem_of_getElem? (i := 10) rfl))) Via.refl e5 S_NO_FRAMES (g := (mkF m 5 #[.val (.ref a1), .val (.int p2), .val (.ref a3), .val (.int p4), .unset] [(.ref a1)])) rfl (hb hby d1_5)
  refine Go.st st7 ?_
  show Go p e below _ (T7.setTop (mkF m 8 #[.val (.ref a1), .val (.int p2), .val (.ref a3), .val (.int p4), .unset] [(.ref w6), (.ref a1)]))
  obtain ⟨T8, h8, X8, e8, W8, st8⟩ := putF X7 hx hZ hown (host := "") (Or.inl (hw _ (List.mem_of_getElem? (i := 12) rfl))) Via.refl e7 F_frames_a1 E_a1 (Or.inl (hw _ (List.mem_of_getElem? (i := 13) rfl))) (hw _ (List.mem_of_getElem? (i := 2) rfl)) (ty := (.array (.object "com/example/tabulon/tabulon/game/State$Replaced"))) (by decide) rfl rfl (g := (mkF m 8 #[.val (.ref a1), .val (.int p2), .val (.ref a3), .val (.int p4), .unset] [(.ref w6), (.ref a1)])) rfl rfl (hb hby d1_8)
  refine Go.st st8 ?_
  have Fw8 : Fld Z h8 a1 "com/example/tabulon/tabulon/game/State" "frames" "[Lcom/example/tabulon/tabulon/game/State$Replaced;" (.ref w6) := Fld.same W8 F_frames_a1
  have K8 : Keep h0 h8 [a1] := (Keep.refl h0 [a1]).wr W8 (Or.inl (List.mem_of_getElem? (i := 0) rfl))
  have N8 := Fr.snoc X8 N0 g_a1
  show Go p e below _ (T8.setTop (mkF m 11 #[.val (.ref a1), .val (.int p2), .val (.ref a3), .val (.int p4), .unset] []))
  refine Go.st (fun _ kk => XS.aloadN X8.here hx rfl (hb hby d1_11) rfl rfl  kk) ?_
  show Go p e below _ (T8.setTop (mkF m 12 #[.val (.ref a1), .val (.int p2), .val (.ref a3), .val (.int p4), .unset] [(.ref a3)]))
  have f_9 := (V_a3.keep K8 (ninS hne_a3_a1 nin0))
  obtain ⟨clq10, Arq10, saq10, naq10⟩ := id f_9
  refine Go.st (fun _ kk => X8.arraylength hx (by rw [e8]; exact Arq10.1) (State.isArrayOf_alike hZ.alike Arq10.2.1) (g := (mkF m 12 #[.val (.ref a1), .val (.int p2), .val (.ref a3), .val (.int p4), .unset] [(.ref a3)])) rfl rfl (hb hby d1_12) _ kk) ?_
  rw [len_of saq10 naq10]
  show Go p e below _ (T8.setTop (mkF m 13 #[.val (.ref a1), .val (.int p2), .val (.ref a3), .val (.int p4), .unset] [(.int z0)]))
  refine Go.st (fun _ kk => XS.istore X8.here hx rfl (hb hby d1_13) rfl (l' := #[.val (.ref a1), .val (.int p2), .val (.ref a3), .val (.int p4), .val (.int z0)]) rfl kk) ?_
  show Go p e below _ (T8.setTop (mkF m 15 #[.val (.ref a1), .val (.int p2), .val (.ref a3), .val (.int p4), .val (.int z0)] []))
  refine Go.st (fun _ kk => XS.aloadN X8.here hx rfl (hb hby d1_15) rfl rfl  kk) ?_
  show Go p e below _ (T8.setTop (mkF m 16 #[.val (.ref a1), .val (.int p2), .val (.ref a3), .val (.int p4), .val (.int z0)] [(.ref a1)]))
  refine Go.st (fun _ kk => XS.iloadN X8.here hx rfl (hb hby d1_16) rfl  kk) ?_
  show Go p e below _ (T8.setTop (mkF m 17 #[.val (.ref a1), .val (.int p2), .val (.ref a3), .val (.int p4), .val (.int z0)] [(.int p2), (.ref a1)]))
  obtain ⟨T11, h11, k11, X11, e11, E11, A11, st11⟩ := newP X8 hx hZ (hw _ (List.mem_of_getElem? (i := 0) rfl)) e8 (g := (mkF m 17 #[.val (.ref a1), .val (.int p2), .val (.ref a3), .val (.int p4), .val (.int z0)] [(.int p2), (.ref a1)])) rfl (hb hby d1_17) rfl (own_nn (by omega : 0 ≤ p2.toInt)) (cap := 8) (own_cap hs.2) (by decide) (by decide) (by decide)
  obtain ⟨b11, g11⟩ : ∃ z, z = h8.size := ⟨_, rfl⟩
  rw [← g11] at A11 st11
  refine Go.st st11 ?_
  have g_b11 : n0 ≤ b11 := Nat.le_trans (Nat.le_trans Z0 K8.1) (Nat.le_of_eq g11.symm)
  have sz_b11 : h0.size ≤ b11 := Nat.le_trans K8.1 (Nat.le_of_eq g11.symm)
  have K11 : Keep h0 h11 [a1] := K8.ext E11
  have V_b11 : Arv Z h11 b11 k11 .int p2 [] (.int (0 : Int32)) := Arv.new A11 (own_nn (by omega : 0 ≤ p2.toInt))
  show Go p e below _ (T11.setTop (mkF m 19 #[.val (.ref a1), .val (.int p2), .val (.ref a3), .val (.int p4), .val (.int z0)] [(.ref b11), (.ref a1)]))
  have f_12 := (Exa.ext E11 (Exa.wr W8 E_a1))
  have f_13 := (Fld.ext E11 (Fld.other W8 F_pieces_a1 (Or.inr (slot_ne (Or.inr (hw _ (List.mem_of_getElem? (i := 15) rfl))) (Or.inl (hw _ (List.mem_of_getElem? (i := 13) rfl))) (by decide) (t := (.array .int)) (t' := (.array (.object "com/example/tabulon/tabulon/game/State$Replaced"))) (by decide) (by decide)))))
  obtain ⟨T14, h14, X14, e14, W14, st14⟩ := putF X11 hx hZ hown (host := "") (Or.inl (hw _ (List.mem_of_getElem? (i := 14) rfl))) Via.refl e11 f_13 f_12 (Or.inr ⟨(hw _ (List.mem_of_getElem? (i := 15) rfl)), rfl, hnm⟩) (hw _ (List.mem_of_getElem? (i := 2) rfl)) (ty := (.array .int)) (by decide) rfl rfl (g := (mkF m 19 #[.val (.ref a1), .val (.int p2), .val (.ref a3), .val (.int p4), .val (.int z0)] [(.ref b11), (.ref a1)])) rfl rfl (hb hby d1_19)
  refine Go.st st14 ?_
  have Fw14 : Fld Z h14 a1 "com/example/tabulon/tabulon/game/State" "pieces" "[I" (.ref b11) := Fld.same W14 f_13
  have K14 : Keep h0 h14 [a1] := K11.wr W14 (Or.inl (List.mem_of_getElem? (i := 0) rfl))
  have N14 := Fr.snoc X14 N8 g_a1
  show Go p e below _ (T14.setTop (mkF m 22 #[.val (.ref a1), .val (.int p2), .val (.ref a3), .val (.int p4), .val (.int z0)] []))
  refine Go.st (fun _ kk => XS.aloadN X14.here hx rfl (hb hby d1_22) rfl rfl  kk) ?_
  show Go p e below _ (T14.setTop (mkF m 23 #[.val (.ref a1), .val (.int p2), .val (.ref a3), .val (.int p4), .val (.int z0)] [(.ref a1)]))
  obtain ⟨T15, X15, e15, st15⟩ := getF X14 hx hZ hown (host := "") (Or.inl (hw _ (List.mem_of_getElem? (i := 14) rfl))) Via.refl e14 Fw14 (g := (mkF m 23 #[.val (.ref a1), .val (.int p2), .val (.ref a3), .val (.int p4), .val (.int z0)] [(.ref a1)])) rfl rfl (hb hby d1_23)
  refine Go.st st15 ?_
  show Go p e below _ (T15.setTop (mkF m 26 #[.val (.ref a1), .val (.int p2), .val (.ref a3), .val (.int p4), .val (.int z0)] [(.ref b11)]))
  refine Go.st (fun _ kk => XS.iconst X15.here hx rfl (hb hby d1_26) kk) ?_
  show Go p e below _ (T15.setTop (mkF m 27 #[.val (.ref a1), .val (.int p2), .val (.ref a3), .val (.int p4), .val (.int z0)] [(.int (-1 : Int32)), (.ref b11)]))
  have f_16 := (V_b11.other W14 (Ne.symm (Nat.ne_of_lt (Nat.lt_of_lt_of_le F_moves_a1.lt sz_b11))))
  obtain ⟨_, _, ⟨T17, L17, k17, n17⟩, -, X17, ⟨Lc17, hQ17, l17, y17, z17⟩, st17⟩ := Jvm.LawKit.callS X15 hx (y := (⟨"java/util/Arrays", "fill", "([II)V"⟩ : MethodName)) hown (mvT hZ (hw _ (List.mem_of_getElem? (i := 16) rfl))) (mvT hZ (hw _ (List.mem_of_getElem? (i := 17) rfl))) (mvT hZ (hw _ (List.mem_of_getElem? (i := 18) rfl))) (mvT hZ (hw _ (List.mem_of_getElem? (i := 19) rfl))) (by decide) (backOf (W := 0) (rm3_o l Z a0 hw [] b11 (-1 : Int32) p2 h14 n0 (Nat.le_trans Z0 K14.1) (Arv.arn f_16) g_b11) hZ (hw _ (List.mem_of_getElem? (i := 19) rfl)) (hw _ (List.mem_of_getElem? (i := 18) rfl)) (by decide) (by decide)) (g := (mkF m 27 #[.val (.ref a1), .val (.int p2), .val (.ref a3), .val (.int p4), .val (.int z0)] [(.int (-1 : Int32)), (.ref b11)])) rfl (by rw [hml]; rfl) (argsL := [(.ref b11), (.int (-1 : Int32))]) (rest := []) (lenOf pd_2 rfl) rfl (by show 2 * 0 + _ ≤ _; exact Nat.le_of_eq rfl) (hb hby d1_27) (fun _ _ => ⟨rfl, e15, (by decide : 1 + 0 ≤ _), (by decide : 8 + 0 ≤ _)⟩)
  dsimp only [Pt.U, Pt.locs, Pt.cells, Pt.slots] at X17 l17 y17 z17 st17 hQ17
  subst l17 y17 z17
  obtain ⟨rfl, N17q, Kc17, P17_0⟩ := hQ17
  have K17 : Keep h0 T17.heap [a1] := K14.trans Kc17 (allS (Or.inr sz_b11) all0)
  have N17 := Fr.app N14 N17q
  refine Go.st st17 ?_
  show Go p e below _ (T17.setTop (mkF m 30 #[.val (.ref a1), .val (.int p2), .val (.ref a3), .val (.int p4), .val (.int z0)] []))
  refine Go.st (fun _ kk => XS.aloadN X17.here hx rfl (hb hby d1_30) rfl rfl  kk) ?_
  show Go p e below _ (T17.setTop (mkF m 31 #[.val (.ref a1), .val (.int p2), .val (.ref a3), .val (.int p4), .val (.int z0)] [(.ref a1)]))
  refine Go.st (fun _ kk => XS.iloadN X17.here hx rfl (hb hby d1_31) rfl  kk) ?_
  show Go p e below _ (T17.setTop (mkF m 32 #[.val (.ref a1), .val (.int p2), .val (.ref a3), .val (.int p4), .val (.int z0)] [(.int p2), (.ref a1)]))
  refine Go.st (fun _ kk => XS.bipush X17.here hx rfl (hb hby d1_32) kk) ?_
  show Go p e below _ (T17.setTop (mkF m 34 #[.val (.ref a1), .val (.int p2), .val (.ref a3), .val (.int p4), .val (.int z0)] [(.int (64 : Int32)), (.int p2), (.ref a1)]))
  refine Go.st (fun _ kk => XS.iadd X17.here hx rfl (hb hby d1_34) rfl kk) ?_
  show Go p e below _ (T17.setTop (mkF m 35 #[.val (.ref a1), .val (.int p2), .val (.ref a3), .val (.int p4), .val (.int z0)] [(.int (p2 + (64 : Int32))), (.ref a1)]))
  refine Go.st (fun _ kk => XS.iconst X17.here hx rfl (hb hby d1_35) kk) ?_
  show Go p e below _ (T17.setTop (mkF m 36 #[.val (.ref a1), .val (.int p2), .val (.ref a3), .val (.int p4), .val (.int z0)] [(.int (1 : Int32)), (.int (p2 + (64 : Int32))), (.ref a1)]))
  refine Go.st (fun _ kk => XS.isub X17.here hx rfl (hb hby d1_36) rfl kk) ?_
  show Go p e below _ (T17.setTop (mkF m 37 #[.val (.ref a1), .val (.int p2), .val (.ref a3), .val (.int p4), .val (.int z0)] [(.int ((p2 + (64 : Int32)) - (1 : Int32))), (.ref a1)]))
  refine Go.st (fun _ kk => XS.bipush X17.here hx rfl (hb hby d1_37) kk) ?_
  show Go p e below _ (T17.setTop (mkF m 39 #[.val (.ref a1), .val (.int p2), .val (.ref a3), .val (.int p4), .val (.int z0)] [(.int (64 : Int32)), (.int ((p2 + (64 : Int32)) - (1 : Int32))), (.ref a1)]))
  refine Go.st (fun _ kk => XS.idiv X17.here hx rfl (hb hby d1_39) rfl (by decide : ¬ ((64 : Int32) = (0 : Int32))) kk) ?_
  show Go p e below _ (T17.setTop (mkF m 40 #[.val (.ref a1), .val (.int p2), .val (.ref a3), .val (.int p4), .val (.int z0)] [(.int (((p2 + (64 : Int32)) - (1 : Int32)) / (64 : Int32))), (.ref a1)]))
  have f_18 := ((Exa.wr W14 f_12).keep Kc17)
  have f_19 := ((Fld.other W14 (Fld.ext E11 (Fld.other W8 F_words_a1 (Or.inr (slot_ne (Or.inr (hw _ (List.mem_of_getElem? (i := 21) rfl))) (Or.inl (hw _ (List.mem_of_getElem? (i := 13) rfl))) (by decide) (t := .int) (t' := (.array (.object "com/example/tabulon/tabulon/game/State$Replaced"))) (by decide) (by decide))))) (Or.inr (slot_ne (Or.inr (hw _ (List.mem_of_getElem? (i := 21) rfl))) (Or.inr (hw _ (List.mem_of_getElem? (i := 15) rfl))) (by decide) (t := .int) (t' := (.array .int)) (by decide) (by decide)))).keep Kc17 (ninS (Nat.ne_of_lt (Nat.lt_of_lt_of_le F_moves_a1.lt sz_b11)) nin0))
  obtain ⟨T20, h20, X20, e20, W20, st20⟩ := putF X17 hx hZ hown (host := "") (Or.inl (hw _ (List.mem_of_getElem? (i := 20) rfl))) Via.refl rfl f_19 f_18 (Or.inr ⟨(hw _ (List.mem_of_getElem? (i := 21) rfl)), rfl, hnm⟩) (hw _ (List.mem_of_getElem? (i := 2) rfl)) (ty := .int) (by decide) rfl rfl (g := (mkF m 40 #[.val (.ref a1), .val (.int p2), .val (.ref a3), .val (.int p4), .val (.int z0)] [(.int (((p2 + (64 : Int32)) - (1 : Int32)) / (64 : Int32))), (.ref a1)])) rfl rfl (hb hby d1_40)
  refine Go.st st20 ?_
  have Fw20 : Fld Z h20 a1 "com/example/tabulon/tabulon/game/State" "words" "I" (.int (((p2 + (64 : Int32)) - (1 : Int32)) / (64 : Int32))) := Fld.same W20 f_19
  have K20 : Keep h0 h20 [a1] := K17.wr W20 (Or.inl (List.mem_of_getElem? (i := 0) rfl))
  have N20 := Fr.snoc X20 N17 g_a1
  show Go p e below _ (T20.setTop (mkF m 43 #[.val (.ref a1), .val (.int p2), .val (.ref a3), .val (.int p4), .val (.int z0)] []))
  refine Go.st (fun _ kk => XS.aloadN X20.here hx rfl (hb hby d1_43) rfl rfl  kk) ?_
  show Go p e below _ (T20.setTop (mkF m 44 #[.val (.ref a1), .val (.int p2), .val (.ref a3), .val (.int p4), .val (.int z0)] [(.ref a1)]))
  refine Go.st (fun _ kk => XS.iload X20.here hx rfl (hb hby d1_44) rfl  kk) ?_
  show Go p e below _ (T20.setTop (mkF m 46 #[.val (.ref a1), .val (.int p2), .val (.ref a3), .val (.int p4), .val (.int z0)] [(.int z0), (.ref a1)]))
  refine Go.st (fun _ kk => XS.aloadN X20.here hx rfl (hb hby d1_46) rfl rfl  kk) ?_
  show Go p e below _ (T20.setTop (mkF m 47 #[.val (.ref a1), .val (.int p2), .val (.ref a3), .val (.int p4), .val (.int z0)] [(.ref a1), (.int z0), (.ref a1)]))
  obtain ⟨T21, X21, e21, st21⟩ := getF X20 hx hZ hown (host := "") (Or.inl (hw _ (List.mem_of_getElem? (i := 20) rfl))) Via.refl e20 Fw20 (g := (mkF m 47 #[.val (.ref a1), .val (.int p2), .val (.ref a3), .val (.int p4), .val (.int z0)] [(.ref a1), (.int z0), (.ref a1)])) rfl rfl (hb hby d1_47)
  refine Go.st st21 ?_
  show Go p e below _ (T21.setTop (mkF m 50 #[.val (.ref a1), .val (.int p2), .val (.ref a3), .val (.int p4), .val (.int z0)] [(.int (((p2 + (64 : Int32)) - (1 : Int32)) / (64 : Int32))), (.int z0), (.ref a1)]))
  refine Go.st (fun _ kk => XS.imul X21.here hx rfl (hb hby d1_50) rfl kk) ?_
  show Go p e below _ (T21.setTop (mkF m 51 #[.val (.ref a1), .val (.int p2), .val (.ref a3), .val (.int p4), .val (.int z0)] [(.int (z0 * (((p2 + (64 : Int32)) - (1 : Int32)) / (64 : Int32)))), (.ref a1)]))
  obtain ⟨T22, h22, k22, X22, e22, E22, A22, st22⟩ := newP X21 hx hZ (hw _ (List.mem_of_getElem? (i := 22) rfl)) e21 (g := (mkF m 51 #[.val (.ref a1), .val (.int p2), .val (.ref a3), .val (.int p4), .val (.int z0)] [(.int (z0 * (((p2 + (64 : Int32)) - (1 : Int32)) / (64 : Int32)))), (.ref a1)])) rfl (hb hby d1_51) rfl (own_nn (own_kw (own_n0 (Arn.nn V_a3)) hz hs).1) (cap := 3) (own_cap (own_kw (own_n0 (Arn.nn V_a3)) hz hs).2) (by decide) (by decide) (by decide)
  obtain ⟨b22, g22⟩ : ∃ z, z = h20.size := ⟨_, rfl⟩
  rw [← g22] at A22 st22
  refine Go.st st22 ?_
  have g_b22 : n0 ≤ b22 := Nat.le_trans (Nat.le_trans Z0 K20.1) (Nat.le_of_eq g22.symm)
  have sz_b22 : h0.size ≤ b22 := Nat.le_trans K20.1 (Nat.le_of_eq g22.symm)
  have f_23 := (P17_0.other W20 (Ne.symm (Nat.ne_of_lt (Nat.lt_of_lt_of_le F_moves_a1.lt sz_b11))))
  have lt_b11_b22 : b11 < b22 := Nat.lt_of_lt_of_le f_23.lt (Nat.le_of_eq g22.symm)
  have K22 : Keep h0 h22 [a1] := K20.ext E22
  have V_b22 : Arv Z h22 b22 k22 .long (z0 * (((p2 + (64 : Int32)) - (1 : Int32)) / (64 : Int32))) [] (.long (0 : Int64)) := Arv.new A22 (own_nn (own_kw (own_n0 (Arn.nn V_a3)) hz hs).1)
  show Go p e below _ (T22.setTop (mkF m 53 #[.val (.ref a1), .val (.int p2), .val (.ref a3), .val (.int p4), .val (.int z0)] [(.ref b22), (.ref a1)]))
  have f_24 := (Exa.ext E22 (Exa.wr W20 f_18))
  have f_25 := (Fld.ext E22 (Fld.other W20 ((Fld.other W14 (Fld.ext E11 (Fld.other W8 F_sitesOfKind_a1 (Or.inr (slot_ne (Or.inr (hw _ (List.mem_of_getElem? (i := 24) rfl))) (Or.inl (hw _ (List.mem_of_getElem? (i := 13) rfl))) (by decide) (t := (.array .long)) (t' := (.array (.object "com/example/tabulon/tabulon/game/State$Replaced"))) (by decide) (by decide))))) (Or.inr (slot_ne (Or.inr (hw _ (List.mem_of_getElem? (i := 24) rfl))) (Or.inr (hw _ (List.mem_of_getElem? (i := 15) rfl))) (by decide) (t := (.array .long)) (t' := (.array .int)) (by decide) (by decide)))).keep Kc17 (ninS (Nat.ne_of_lt (Nat.lt_of_lt_of_le F_moves_a1.lt sz_b11)) nin0)) (Or.inr (slot_ne (Or.inr (hw _ (List.mem_of_getElem? (i := 24) rfl))) (Or.inr (hw _ (List.mem_of_getElem? (i := 21) rfl))) (by decide) (t := (.array .long)) (t' := .int) (by decide) (by decide)))))
  obtain ⟨T26, h26, X26, e26, W26, st26⟩ := putF X22 hx hZ hown (host := "") (Or.inl (hw _ (List.mem_of_getElem? (i := 23) rfl))) Via.refl e22 f_25 f_24 (Or.inr ⟨(hw _ (List.mem_of_getElem? (i := 24) rfl)), rfl, hnm⟩) (hw _ (List.mem_of_getElem? (i := 2) rfl)) (ty := (.array .long)) (by decide) rfl rfl (g := (mkF m 53 #[.val (.ref a1), .val (.int p2), .val (.ref a3), .val (.int p4), .val (.int z0)] [(.ref b22), (.ref a1)])) rfl rfl (hb hby d1_53)
  refine Go.st st26 ?_
  have Fw26 : Fld Z h26 a1 "com/example/tabulon/tabulon/game/State" "sitesOfKind" "[J" (.ref b22) := Fld.same W26 f_25
  have K26 : Keep h0 h26 [a1] := K22.wr W26 (Or.inl (List.mem_of_getElem? (i := 0) rfl))
  have N26 := Fr.snoc X26 N20 g_a1
  show Go p e below _ (T26.setTop (mkF m 56 #[.val (.ref a1), .val (.int p2), .val (.ref a3), .val (.int p4), .val (.int z0)] []))
  refine Go.st (fun _ kk => XS.aloadN X26.here hx rfl (hb hby d1_56) rfl rfl  kk) ?_
  show Go p e below _ (T26.setTop (mkF m 57 #[.val (.ref a1), .val (.int p2), .val (.ref a3), .val (.int p4), .val (.int z0)] [(.ref a1)]))
  refine Go.st (fun _ kk => XS.aloadN X26.here hx rfl (hb hby d1_57) rfl rfl  kk) ?_
  show Go p e below _ (T26.setTop (mkF m 58 #[.val (.ref a1), .val (.int p2), .val (.ref a3), .val (.int p4), .val (.int z0)] [(.ref a3), (.ref a1)]))
  have f_27 := (Exa.wr W26 f_24)
  have f_28 := (Fld.other W26 (Fld.ext E22 (Fld.other W20 ((Fld.other W14 (Fld.ext E11 (Fld.other W8 F_ownerOfKind_a1 (Or.inr (slot_ne (Or.inr (hw _ (List.mem_of_getElem? (i := 26) rfl))) (Or.inl (hw _ (List.mem_of_getElem? (i := 13) rfl))) (by decide) (t := (.array .int)) (t' := (.array (.object "com/example/tabulon/tabulon/game/State$Replaced"))) (by decide) (by decide))))) (Or.inr (slot_ne (Or.inr (hw _ (List.mem_of_getElem? (i := 26) rfl))) (Or.inr (hw _ (List.mem_of_getElem? (i := 15) rfl))) (by decide) (t := (.array .int)) (t' := (.array .int)) (by decide) (by decide)))).keep Kc17 (ninS (Nat.ne_of_lt (Nat.lt_of_lt_of_le F_moves_a1.lt sz_b11)) nin0)) (Or.inr (slot_ne (Or.inr (hw _ (List.mem_of_getElem? (i := 26) rfl))) (Or.inr (hw _ (List.mem_of_getElem? (i := 21) rfl))) (by decide) (t := (.array .int)) (t' := .int) (by decide) (by decide))))) (Or.inr (slot_ne (Or.inr (hw _ (List.mem_of_getElem? (i := 26) rfl))) (Or.inr (hw _ (List.mem_of_getElem? (i := 24) rfl))) (by decide) (t := (.array .int)) (t' := (.array .long)) (by decide) (by decide))))
  obtain ⟨T29, h29, X29, e29, W29, st29⟩ := putF X26 hx hZ hown (host := "") (Or.inl (hw _ (List.mem_of_getElem? (i := 25) rfl))) Via.refl e26 f_28 f_27 (Or.inr ⟨(hw _ (List.mem_of_getElem? (i := 26) rfl)), rfl, hnm⟩) (hw _ (List.mem_of_getElem? (i := 2) rfl)) (ty := (.array .int)) (by decide) rfl rfl (g := (mkF m 58 #[.val (.ref a1), .val (.int p2), .val (.ref a3), .val (.int p4), .val (.int z0)] [(.ref a3), (.ref a1)])) rfl rfl (hb hby d1_58)
  refine Go.st st29 ?_
  have Fw29 : Fld Z h29 a1 "com/example/tabulon/tabulon/game/State" "ownerOfKind" "[I" (.ref a3) := Fld.same W29 f_28
  have K29 : Keep h0 h29 [a1] := K26.wr W29 (Or.inl (List.mem_of_getElem? (i := 0) rfl))
  have N29 := Fr.snoc X29 N26 g_a1
  show Go p e below _ (T29.setTop (mkF m 61 #[.val (.ref a1), .val (.int p2), .val (.ref a3), .val (.int p4), .val (.int z0)] []))
  refine Go.st (fun _ kk => XS.aloadN X29.here hx rfl (hb hby d1_61) rfl rfl  kk) ?_
  show Go p e below _ (T29.setTop (mkF m 62 #[.val (.ref a1), .val (.int p2), .val (.ref a3), .val (.int p4), .val (.int z0)] [(.ref a1)]))
  refine Go.st (fun _ kk => XS.iloadN X29.here hx rfl (hb hby d1_62) rfl  kk) ?_
  show Go p e below _ (T29.setTop (mkF m 63 #[.val (.ref a1), .val (.int p2), .val (.ref a3), .val (.int p4), .val (.int z0)] [(.int p2), (.ref a1)]))
  obtain ⟨T30, h30, k30, X30, e30, E30, A30, st30⟩ := newP X29 hx hZ (hw _ (List.mem_of_getElem? (i := 27) rfl)) e29 (g := (mkF m 63 #[.val (.ref a1), .val (.int p2), .val (.ref a3), .val (.int p4), .val (.int z0)] [(.int p2), (.ref a1)])) rfl (hb hby d1_63) rfl (own_nn (by omega : 0 ≤ p2.toInt)) (cap := 8) (own_cap hs.2) (by decide) (by decide) (by decide)
  obtain ⟨b30, g30⟩ : ∃ z, z = h29.size := ⟨_, rfl⟩
  rw [← g30] at A30 st30
  refine Go.st st30 ?_
  have g_b30 : n0 ≤ b30 := Nat.le_trans (Nat.le_trans Z0 K29.1) (Nat.le_of_eq g30.symm)
  have sz_b30 : h0.size ≤ b30 := Nat.le_trans K29.1 (Nat.le_of_eq g30.symm)
  have f_31 := (((f_23.ext E22).other W26 (Ne.symm (Nat.ne_of_lt (Nat.lt_of_lt_of_le F_moves_a1.lt sz_b11)))).other W29 (Ne.symm (Nat.ne_of_lt (Nat.lt_of_lt_of_le F_moves_a1.lt sz_b11))))
  have lt_b11_b30 : b11 < b30 := Nat.lt_of_lt_of_le f_31.lt (Nat.le_of_eq g30.symm)
  have f_32 := ((V_b22.other W26 (Ne.symm (Nat.ne_of_lt (Nat.lt_of_lt_of_le F_moves_a1.lt sz_b22)))).other W29 (Ne.symm (Nat.ne_of_lt (Nat.lt_of_lt_of_le F_moves_a1.lt sz_b22))))
  have lt_b22_b30 : b22 < b30 := Nat.lt_of_lt_of_le f_32.lt (Nat.le_of_eq g30.symm)
  have K30 : Keep h0 h30 [a1] := K29.ext E30
  have V_b30 : Arv Z h30 b30 k30 .boolean p2 [] (.int (0 : Int32)) := Arv.new A30 (own_nn (by omega : 0 ≤ p2.toInt))
  show Go p e below _ (T30.setTop (mkF m 65 #[.val (.ref a1), .val (.int p2), .val (.ref a3), .val (.int p4), .val (.int z0)] [(.ref b30), (.ref a1)]))
  have f_33 := (Exa.ext E30 (Exa.wr W29 f_27))
  have f_34 := (Fld.ext E30 (Fld.other W29 (Fld.other W26 (Fld.ext E22 (Fld.other W20 ((Fld.other W14 (Fld.ext E11 (Fld.other W8 F_unmoved_a1 (Or.inr (slot_ne (Or.inr (hw _ (List.mem_of_getElem? (i := 29) rfl))) (Or.inl (hw _ (List.mem_of_getElem? (i := 13) rfl))) (by decide) (t := (.array .boolean)) (t' := (.array (.object "com/example/tabulon/tabulon/game/State$Replaced"))) (by decide) (by decide))))) (Or.inr (slot_ne (Or.inr (hw _ (List.mem_of_getElem? (i := 29) rfl))) (Or.inr (hw _ (List.mem_of_getElem? (i := 15) rfl))) (by decide) (t := (.array .boolean)) (t' := (.array .int)) (by decide) (by decide)))).keep Kc17 (ninS (Nat.ne_of_lt (Nat.lt_of_lt_of_le F_moves_a1.lt sz_b11)) nin0)) (Or.inr (slot_ne (Or.inr (hw _ (List.mem_of_getElem? (i := 29) rfl))) (Or.inr (hw _ (List.mem_of_getElem? (i := 21) rfl))) (by decide) (t := (.array .boolean)) (t' := .int) (by decide) (by decide))))) (Or.inr (slot_ne (Or.inr (hw _ (List.mem_of_getElem? (i := 29) rfl))) (Or.inr (hw _ (List.mem_of_getElem? (i := 24) rfl))) (by decide) (t := (.array .boolean)) (t' := (.array .long)) (by decide) (by decide)))) (Or.inr (slot_ne (Or.inr (hw _ (List.mem_of_getElem? (i := 29) rfl))) (Or.inr (hw _ (List.mem_of_getElem? (i := 26) rfl))) (by decide) (t := (.array .boolean)) (t' := (.array .int)) (by decide) (by decide)))))
  obtain ⟨T35, h35, X35, e35, W35, st35⟩ := putF X30 hx hZ hown (host := "") (Or.inl (hw _ (List.mem_of_getElem? (i := 28) rfl))) Via.refl e30 f_34 f_33 (Or.inr ⟨(hw _ (List.mem_of_getElem? (i := 29) rfl)), rfl, hnm⟩) (hw _ (List.mem_of_getElem? (i := 2) rfl)) (ty := (.array .boolean)) (by decide) rfl rfl (g := (mkF m 65 #[.val (.ref a1), .val (.int p2), .val (.ref a3), .val (.int p4), .val (.int z0)] [(.ref b30), (.ref a1)])) rfl rfl (hb hby d1_65)
  refine Go.st st35 ?_
  have Fw35 : Fld Z h35 a1 "com/example/tabulon/tabulon/game/State" "unmoved" "[Z" (.ref b30) := Fld.same W35 f_34
  have K35 : Keep h0 h35 [a1] := K30.wr W35 (Or.inl (List.mem_of_getElem? (i := 0) rfl))
  have N35 := Fr.snoc X35 N29 g_a1
  show Go p e below _ (T35.setTop (mkF m 68 #[.val (.ref a1), .val (.int p2), .val (.ref a3), .val (.int p4), .val (.int z0)] []))
  refine Go.st (fun _ kk => XS.aloadN X35.here hx rfl (hb hby d1_68) rfl rfl  kk) ?_
  show Go p e below _ (T35.setTop (mkF m 69 #[.val (.ref a1), .val (.int p2), .val (.ref a3), .val (.int p4), .val (.int z0)] [(.ref a1)]))
  obtain ⟨T36, X36, e36, st36⟩ := getF X35 hx hZ hown (host := "") (Or.inl (hw _ (List.mem_of_getElem? (i := 28) rfl))) Via.refl e35 Fw35 (g := (mkF m 69 #[.val (.ref a1), .val (.int p2), .val (.ref a3), .val (.int p4), .val (.int z0)] [(.ref a1)])) rfl rfl (hb hby d1_69)
  refine Go.st st36 ?_
  show Go p e below _ (T36.setTop (mkF m 72 #[.val (.ref a1), .val (.int p2), .val (.ref a3), .val (.int p4), .val (.int z0)] [(.ref b30)]))
  refine Go.st (fun _ kk => XS.iconst X36.here hx rfl (hb hby d1_72) kk) ?_
  show Go p e below _ (T36.setTop (mkF m 73 #[.val (.ref a1), .val (.int p2), .val (.ref a3), .val (.int p4), .val (.int z0)] [(.int (1 : Int32)), (.ref b30)]))
  have f_37 := (V_b30.other W35 (Ne.symm (Nat.ne_of_lt (Nat.lt_of_lt_of_le F_moves_a1.lt sz_b30))))
  obtain ⟨_, _, ⟨T38, L38, k38, n38⟩, -, X38, ⟨Lc38, hQ38, l38, y38, z38⟩, st38⟩ := Jvm.LawKit.callS X36 hx (y := (⟨"java/util/Arrays", "fill", "([ZZ)V"⟩ : MethodName)) hown (mvT hZ (hw _ (List.mem_of_getElem? (i := 30) rfl))) (mvT hZ (hw _ (List.mem_of_getElem? (i := 31) rfl))) (mvT hZ (hw _ (List.mem_of_getElem? (i := 18) rfl))) (mvT hZ (hw _ (List.mem_of_getElem? (i := 32) rfl))) (by decide) (backOf (W := 0) (rm4_o l Z a0 hw [] b30 (1 : Int32) p2 h35 n0 (Nat.le_trans Z0 K35.1) (Arv.arn f_37) g_b30) hZ (hw _ (List.mem_of_getElem? (i := 32) rfl)) (hw _ (List.mem_of_getElem? (i := 18) rfl)) (by decide) (by decide)) (g := (mkF m 73 #[.val (.ref a1), .val (.int p2), .val (.ref a3), .val (.int p4), .val (.int z0)] [(.int (1 : Int32)), (.ref b30)])) rfl (by rw [hml]; rfl) (argsL := [(.ref b30), (.int (1 : Int32))]) (rest := []) (lenOf pd_3 rfl) rfl (by show 2 * 0 + _ ≤ _; exact Nat.le_of_eq rfl) (hb hby d1_73) (fun _ _ => ⟨rfl, e36, (by decide : 3 + 0 ≤ _), (by decide : 19 + 0 ≤ _)⟩)
  dsimp only [Pt.U, Pt.locs, Pt.cells, Pt.slots] at X38 l38 y38 z38 st38 hQ38
  subst l38 y38 z38
  obtain ⟨rfl, N38q, Kc38, P38_0⟩ := hQ38
  have K38 : Keep h0 T38.heap [a1] := K35.trans Kc38 (allS (Or.inr sz_b30) all0)
  have N38 := Fr.app N35 N38q
  refine Go.st st38 ?_
  show Go p e below _ (T38.setTop (mkF m 76 #[.val (.ref a1), .val (.int p2), .val (.ref a3), .val (.int p4), .val (.int z0)] []))
  refine Go.st (fun _ kk => XS.aloadN X38.here hx rfl (hb hby d1_76) rfl rfl  kk) ?_
  show Go p e below _ (T38.setTop (mkF m 77 #[.val (.ref a1), .val (.int p2), .val (.ref a3), .val (.int p4), .val (.int z0)] [(.ref a1)]))
  refine Go.st (fun _ kk => XS.iload X38.here hx rfl (hb hby d1_77) rfl  kk) ?_
  show Go p e below _ (T38.setTop (mkF m 79 #[.val (.ref a1), .val (.int p2), .val (.ref a3), .val (.int p4), .val (.int z0)] [(.int z0), (.ref a1)]))
  obtain ⟨T39, h39, k39, X39, e39, E39, A39, st39⟩ := newP X38 hx hZ (hw _ (List.mem_of_getElem? (i := 0) rfl)) rfl (g := (mkF m 79 #[.val (.ref a1), .val (.int p2), .val (.ref a3), .val (.int p4), .val (.int z0)] [(.int z0), (.ref a1)])) rfl (hb hby d1_79) rfl (Arn.nn V_a3) (cap := 3) (own_cap hz) (by decide) (by decide) (by decide)
  obtain ⟨b39, g39⟩ : ∃ z, z = T38.heap.size := ⟨_, rfl⟩
  rw [← g39] at A39 st39
  refine Go.st st39 ?_
  have g_b39 : n0 ≤ b39 := Nat.le_trans (Nat.le_trans Z0 K38.1) (Nat.le_of_eq g39.symm)
  have sz_b39 : h0.size ≤ b39 := Nat.le_trans K38.1 (Nat.le_of_eq g39.symm)
  have f_40 := (((f_31.ext E30).other W35 (Ne.symm (Nat.ne_of_lt (Nat.lt_of_lt_of_le F_moves_a1.lt sz_b11)))).keep Kc38 (ninS (Nat.ne_of_lt lt_b11_b30) nin0))
  have lt_b11_b39 : b11 < b39 := Nat.lt_of_lt_of_le f_40.lt (Nat.le_of_eq g39.symm)
  have f_41 := (((f_32.ext E30).other W35 (Ne.symm (Nat.ne_of_lt (Nat.lt_of_lt_of_le F_moves_a1.lt sz_b22)))).keep Kc38 (ninS (Nat.ne_of_lt lt_b22_b30) nin0))
  have lt_b22_b39 : b22 < b39 := Nat.lt_of_lt_of_le f_41.lt (Nat.le_of_eq g39.symm)
  have lt_b30_b39 : b30 < b39 := Nat.lt_of_lt_of_le P38_0.lt (Nat.le_of_eq g39.symm)
  have K39 : Keep h0 h39 [a1] := K38.ext E39
  have V_b39 : Arv Z h39 b39 k39 .int z0 [] (.int (0 : Int32)) := Arv.new A39 (Arn.nn V_a3)
  show Go p e below _ (T39.setTop (mkF m 81 #[.val (.ref a1), .val (.int p2), .val (.ref a3), .val (.int p4), .val (.int z0)] [(.ref b39), (.ref a1)]))
  have f_42 := (Exa.ext E39 ((Exa.wr W35 f_33).keep Kc38))
  have f_43 := (Fld.ext E39 ((Fld.other W35 (Fld.ext E30 (Fld.other W29 (Fld.other W26 (Fld.ext E22 (Fld.other W20 ((Fld.other W14 (Fld.ext E11 (Fld.other W8 F_lastMoveOf_a1 (Or.inr (slot_ne (Or.inr (hw _ (List.mem_of_getElem? (i := 34) rfl))) (Or.inl (hw _ (List.mem_of_getElem? (i := 13) rfl))) (by decide) (t := (.array .int)) (t' := (.array (.object "com/example/tabulon/tabulon/game/State$Replaced"))) (by decide) (by decide))))) (Or.inr (slot_ne (Or.inr (hw _ (List.mem_of_getElem? (i := 34) rfl))) (Or.inr (hw _ (List.mem_of_getElem? (i := 15) rfl))) (by decide) (t := (.array .int)) (t' := (.array .int)) (by decide) (by decide)))).keep Kc17 (ninS (Nat.ne_of_lt (Nat.lt_of_lt_of_le F_moves_a1.lt sz_b11)) nin0)) (Or.inr (slot_ne (Or.inr (hw _ (List.mem_of_getElem? (i := 34) rfl))) (Or.inr (hw _ (List.mem_of_getElem? (i := 21) rfl))) (by decide) (t := (.array .int)) (t' := .int) (by decide) (by decide))))) (Or.inr (slot_ne (Or.inr (hw _ (List.mem_of_getElem? (i := 34) rfl))) (Or.inr (hw _ (List.mem_of_getElem? (i := 24) rfl))) (by decide) (t := (.array .int)) (t' := (.array .long)) (by decide) (by decide)))) (Or.inr (slot_ne (Or.inr (hw _ (List.mem_of_getElem? (i := 34) rfl))) (Or.inr (hw _ (List.mem_of_getElem? (i := 26) rfl))) (by decide) (t := (.array .int)) (t' := (.array .int)) (by decide) (by decide))))) (Or.inr (slot_ne (Or.inr (hw _ (List.mem_of_getElem? (i := 34) rfl))) (Or.inr (hw _ (List.mem_of_getElem? (i := 29) rfl))) (by decide) (t := (.array .int)) (t' := (.array .boolean)) (by decide) (by decide)))).keep Kc38 (ninS (Nat.ne_of_lt (Nat.lt_of_lt_of_le F_moves_a1.lt sz_b30)) nin0)))
  obtain ⟨T44, h44, X44, e44, W44, st44⟩ := putF X39 hx hZ hown (host := "") (Or.inl (hw _ (List.mem_of_getElem? (i := 33) rfl))) Via.refl e39 f_43 f_42 (Or.inr ⟨(hw _ (List.mem_of_getElem? (i := 34) rfl)), rfl, hnm⟩) (hw _ (List.mem_of_getElem? (i := 2) rfl)) (ty := (.array .int)) (by decide) rfl rfl (g := (mkF m 81 #[.val (.ref a1), .val (.int p2), .val (.ref a3), .val (.int p4), .val (.int z0)] [(.ref b39), (.ref a1)])) rfl rfl (hb hby d1_81)
  refine Go.st st44 ?_
  have Fw44 : Fld Z h44 a1 "com/example/tabulon/tabulon/game/State" "lastMoveOf" "[I" (.ref b39) := Fld.same W44 f_43
  have K44 : Keep h0 h44 [a1] := K39.wr W44 (Or.inl (List.mem_of_getElem? (i := 0) rfl))
  have N44 := Fr.snoc X44 N38 g_a1
  show Go p e below _ (T44.setTop (mkF m 84 #[.val (.ref a1), .val (.int p2), .val (.ref a3), .val (.int p4), .val (.int z0)] []))
  refine Go.st (fun _ kk => XS.aloadN X44.here hx rfl (hb hby d1_84) rfl rfl  kk) ?_
  show Go p e below _ (T44.setTop (mkF m 85 #[.val (.ref a1), .val (.int p2), .val (.ref a3), .val (.int p4), .val (.int z0)] [(.ref a1)]))
  refine Go.st (fun _ kk => XS.iloadN X44.here hx rfl (hb hby d1_85) rfl  kk) ?_
  show Go p e below _ (T44.setTop (mkF m 86 #[.val (.ref a1), .val (.int p2), .val (.ref a3), .val (.int p4), .val (.int z0)] [(.int p4), (.ref a1)]))
  have f_45 := (Exa.wr W44 f_42)
  have f_46 := (Fld.other W44 (Fld.ext E39 ((Fld.other W35 (Fld.ext E30 (Fld.other W29 (Fld.other W26 (Fld.ext E22 (Fld.other W20 ((Fld.other W14 (Fld.ext E11 (Fld.other W8 F_mover_a1 (Or.inr (slot_ne (Or.inl (hw _ (List.mem_of_getElem? (i := 36) rfl))) (Or.inl (hw _ (List.mem_of_getElem? (i := 13) rfl))) (by decide) (t := .int) (t' := (.array (.object "com/example/tabulon/tabulon/game/State$Replaced"))) (by decide) (by decide))))) (Or.inr (slot_ne (Or.inl (hw _ (List.mem_of_getElem? (i := 36) rfl))) (Or.inr (hw _ (List.mem_of_getElem? (i := 15) rfl))) (by decide) (t := .int) (t' := (.array .int)) (by decide) (by decide)))).keep Kc17 (ninS (Nat.ne_of_lt (Nat.lt_of_lt_of_le F_moves_a1.lt sz_b11)) nin0)) (Or.inr (slot_ne (Or.inl (hw _ (List.mem_of_getElem? (i := 36) rfl))) (Or.inr (hw _ (List.mem_of_getElem? (i := 21) rfl))) (by decide) (t := .int) (t' := .int) (by decide) (by decide))))) (Or.inr (slot_ne (Or.inl (hw _ (List.mem_of_getElem? (i := 36) rfl))) (Or.inr (hw _ (List.mem_of_getElem? (i := 24) rfl))) (by decide) (t := .int) (t' := (.array .long)) (by decide) (by decide)))) (Or.inr (slot_ne (Or.inl (hw _ (List.mem_of_getElem? (i := 36) rfl))) (Or.inr (hw _ (List.mem_of_getElem? (i := 26) rfl))) (by decide) (t := .int) (t' := (.array .int)) (by decide) (by decide))))) (Or.inr (slot_ne (Or.inl (hw _ (List.mem_of_getElem? (i := 36) rfl))) (Or.inr (hw _ (List.mem_of_getElem? (i := 29) rfl))) (by decide) (t := .int) (t' := (.array .boolean)) (by decide) (by decide)))).keep Kc38 (ninS (Nat.ne_of_lt (Nat.lt_of_lt_of_le F_moves_a1.lt sz_b30)) nin0))) (Or.inr (slot_ne (Or.inl (hw _ (List.mem_of_getElem? (i := 36) rfl))) (Or.inr (hw _ (List.mem_of_getElem? (i := 34) rfl))) (by decide) (t := .int) (t' := (.array .int)) (by decide) (by decide))))
  obtain ⟨T47, h47, X47, e47, W47, st47⟩ := putF X44 hx hZ hown (host := "") (Or.inl (hw _ (List.mem_of_getElem? (i := 35) rfl))) Via.refl e44 f_46 f_45 (Or.inl (hw _ (List.mem_of_getElem? (i := 36) rfl))) (hw _ (List.mem_of_getElem? (i := 2) rfl)) (ty := .int) (by decide) rfl rfl (g := (mkF m 86 #[.val (.ref a1), .val (.int p2), .val (.ref a3), .val (.int p4), .val (.int z0)] [(.int p4), (.ref a1)])) rfl rfl (hb hby d1_86)
  refine Go.st st47 ?_
  have Fw47 : Fld Z h47 a1 "com/example/tabulon/tabulon/game/State" "mover" "I" (.int p4) := Fld.same W47 f_46
  have K47 : Keep h0 h47 [a1] := K44.wr W47 (Or.inl (List.mem_of_getElem? (i := 0) rfl))
  have N47 := Fr.snoc X47 N44 g_a1
  show Go p e below _ (T47.setTop (mkF m 89 #[.val (.ref a1), .val (.int p2), .val (.ref a3), .val (.int p4), .val (.int z0)] []))
  have f_48 := (Exa.wr W47 f_45)
  have f_49 := (Fld.other W47 (Fld.other W44 (Fld.ext E39 ((Fld.other W35 (Fld.ext E30 (Fld.other W29 (Fld.other W26 (Fld.ext E22 (Fld.other W20 ((Fld.other W14 (Fld.ext E11 (Fld.other W8 F_moves_a1 (Or.inr (slot_ne (Or.inl (hw _ (List.mem_of_getElem? (i := 72) rfl))) (Or.inl (hw _ (List.mem_of_getElem? (i := 13) rfl))) (by decide) (t := .int) (t' := (.array (.object "com/example/tabulon/tabulon/game/State$Replaced"))) (by decide) (by decide))))) (Or.inr (slot_ne (Or.inl (hw _ (List.mem_of_getElem? (i := 72) rfl))) (Or.inr (hw _ (List.mem_of_getElem? (i := 15) rfl))) (by decide) (t := .int) (t' := (.array .int)) (by decide) (by decide)))).keep Kc17 (ninS (Nat.ne_of_lt (Nat.lt_of_lt_of_le F_moves_a1.lt sz_b11)) nin0)) (Or.inr (slot_ne (Or.inl (hw _ (List.mem_of_getElem? (i := 72) rfl))) (Or.inr (hw _ (List.mem_of_getElem? (i := 21) rfl))) (by decide) (t := .int) (t' := .int) (by decide) (by decide))))) (Or.inr (slot_ne (Or.inl (hw _ (List.mem_of_getElem? (i := 72) rfl))) (Or.inr (hw _ (List.mem_of_getElem? (i := 24) rfl))) (by decide) (t := .int) (t' := (.array .long)) (by decide) (by decide)))) (Or.inr (slot_ne (Or.inl (hw _ (List.mem_of_getElem? (i := 72) rfl))) (Or.inr (hw _ (List.mem_of_getElem? (i := 26) rfl))) (by decide) (t := .int) (t' := (.array .int)) (by decide) (by decide))))) (Or.inr (slot_ne (Or.inl (hw _ (List.mem_of_getElem? (i := 72) rfl))) (Or.inr (hw _ (List.mem_of_getElem? (i := 29) rfl))) (by decide) (t := .int) (t' := (.array .boolean)) (by decide) (by decide)))).keep Kc38 (ninS (Nat.ne_of_lt (Nat.lt_of_lt_of_le F_moves_a1.lt sz_b30)) nin0))) (Or.inr (slot_ne (Or.inl (hw _ (List.mem_of_getElem? (i := 72) rfl))) (Or.inr (hw _ (List.mem_of_getElem? (i := 34) rfl))) (by decide) (t := .int) (t' := (.array .int)) (by decide) (by decide)))) (Or.inr (slot_ne (Or.inl (hw _ (List.mem_of_getElem? (i := 72) rfl))) (Or.inl (hw _ (List.mem_of_getElem? (i := 36) rfl))) (by decide) (t := .int) (t' := .int) (by decide) (by decide))))
  have f_50 := (Fld.other W47 (Fld.other W44 (Fld.ext E39 ((Fld.other W35 (Fld.ext E30 (Fld.other W29 (Fld.other W26 (Fld.ext E22 (Fld.other W20 ((Fld.other W14 (Fld.ext E11 (Fld.other W8 F_lastMove_a1 (Or.inr (slot_ne (Or.inl (hw _ (List.mem_of_getElem? (i := 74) rfl))) (Or.inl (hw _ (List.mem_of_getElem? (i := 13) rfl))) (by decide) (t := (.object "com/example/tabulon/tabulon/game/Move")) (t' := (.array (.object "com/example/tabulon/tabulon/game/State$Replaced"))) (by decide) (by decide))))) (Or.inr (slot_ne (Or.inl (hw _ (List.mem_of_getElem? (i := 74) rfl))) (Or.inr (hw _ (List.mem_of_getElem? (i := 15) rfl))) (by decide) (t := (.object "com/example/tabulon/tabulon/game/Move")) (t' := (.array .int)) (by decide) (by decide)))).keep Kc17 (ninS (Nat.ne_of_lt (Nat.lt_of_lt_of_le F_moves_a1.lt sz_b11)) nin0)) (Or.inr (slot_ne (Or.inl (hw _ (List.mem_of_getElem? (i := 74) rfl))) (Or.inr (hw _ (List.mem_of_getElem? (i := 21) rfl))) (by decide) (t := (.object "com/example/tabulon/tabulon/game/Move")) (t' := .int) (by decide) (by decide))))) (Or.inr (slot_ne (Or.inl (hw _ (List.mem_of_getElem? (i := 74) rfl))) (Or.inr (hw _ (List.mem_of_getElem? (i := 24) rfl))) (by decide) (t := (.object "com/example/tabulon/tabulon/game/Move")) (t' := (.array .long)) (by decide) (by decide)))) (Or.inr (slot_ne (Or.inl (hw _ (List.mem_of_getElem? (i := 74) rfl))) (Or.inr (hw _ (List.mem_of_getElem? (i := 26) rfl))) (by decide) (t := (.object "com/example/tabulon/tabulon/game/Move")) (t' := (.array .int)) (by decide) (by decide))))) (Or.inr (slot_ne (Or.inl (hw _ (List.mem_of_getElem? (i := 74) rfl))) (Or.inr (hw _ (List.mem_of_getElem? (i := 29) rfl))) (by decide) (t := (.object "com/example/tabulon/tabulon/game/Move")) (t' := (.array .boolean)) (by decide) (by decide)))).keep Kc38 (ninS (Nat.ne_of_lt (Nat.lt_of_lt_of_le F_moves_a1.lt sz_b30)) nin0))) (Or.inr (slot_ne (Or.inl (hw _ (List.mem_of_getElem? (i := 74) rfl))) (Or.inr (hw _ (List.mem_of_getElem? (i := 34) rfl))) (by decide) (t := (.object "com/example/tabulon/tabulon/game/Move")) (t' := (.array .int)) (by decide) (by decide)))) (Or.inr (slot_ne (Or.inl (hw _ (List.mem_of_getElem? (i := 74) rfl))) (Or.inl (hw _ (List.mem_of_getElem? (i := 36) rfl))) (by decide) (t := (.object "com/example/tabulon/tabulon/game/Move")) (t' := .int) (by decide) (by decide))))
  have f_51 := (Fld.other W47 (Fld.other W44 (Fld.ext E39 ((Fld.other W35 (Fld.ext E30 (Fld.other W29 (Fld.other W26 (Fld.ext E22 (Fld.other W20 ((Fld.other W14 (Fld.ext E11 (Fld.other W8 F_moveBeforeLast_a1 (Or.inr (slot_ne (Or.inl (hw _ (List.mem_of_getElem? (i := 76) rfl))) (Or.inl (hw _ (List.mem_of_getElem? (i := 13) rfl))) (by decide) (t := (.object "com/example/tabulon/tabulon/game/Move")) (t' := (.array (.object "com/example/tabulon/tabulon/game/State$Replaced"))) (by decide) (by decide))))) (Or.inr (slot_ne (Or.inl (hw _ (List.mem_of_getElem? (i := 76) rfl))) (Or.inr (hw _ (List.mem_of_getElem? (i := 15) rfl))) (by decide) (t := (.object "com/example/tabulon/tabulon/game/Move")) (t' := (.array .int)) (by decide) (by decide)))).keep Kc17 (ninS (Nat.ne_of_lt (Nat.lt_of_lt_of_le F_moves_a1.lt sz_b11)) nin0)) (Or.inr (slot_ne (Or.inl (hw _ (List.mem_of_getElem? (i := 76) rfl))) (Or.inr (hw _ (List.mem_of_getElem? (i := 21) rfl))) (by decide) (t := (.object "com/example/tabulon/tabulon/game/Move")) (t' := .int) (by decide) (by decide))))) (Or.inr (slot_ne (Or.inl (hw _ (List.mem_of_getElem? (i := 76) rfl))) (Or.inr (hw _ (List.mem_of_getElem? (i := 24) rfl))) (by decide) (t := (.object "com/example/tabulon/tabulon/game/Move")) (t' := (.array .long)) (by decide) (by decide)))) (Or.inr (slot_ne (Or.inl (hw _ (List.mem_of_getElem? (i := 76) rfl))) (Or.inr (hw _ (List.mem_of_getElem? (i := 26) rfl))) (by decide) (t := (.object "com/example/tabulon/tabulon/game/Move")) (t' := (.array .int)) (by decide) (by decide))))) (Or.inr (slot_ne (Or.inl (hw _ (List.mem_of_getElem? (i := 76) rfl))) (Or.inr (hw _ (List.mem_of_getElem? (i := 29) rfl))) (by decide) (t := (.object "com/example/tabulon/tabulon/game/Move")) (t' := (.array .boolean)) (by decide) (by decide)))).keep Kc38 (ninS (Nat.ne_of_lt (Nat.lt_of_lt_of_le F_moves_a1.lt sz_b30)) nin0))) (Or.inr (slot_ne (Or.inl (hw _ (List.mem_of_getElem? (i := 76) rfl))) (Or.inr (hw _ (List.mem_of_getElem? (i := 34) rfl))) (by decide) (t := (.object "com/example/tabulon/tabulon/game/Move")) (t' := (.array .int)) (by decide) (by decide)))) (Or.inr (slot_ne (Or.inl (hw _ (List.mem_of_getElem? (i := 76) rfl))) (Or.inl (hw _ (List.mem_of_getElem? (i := 36) rfl))) (by decide) (t := (.object "com/example/tabulon/tabulon/game/Move")) (t' := .int) (by decide) (by decide))))
  have f_52 := (Fld.other W47 (Fld.other W44 (Fld.ext E39 ((Fld.other W35 (Fld.ext E30 (Fld.other W29 (Fld.other W26 (Fld.ext E22 (Fld.other W20 ((Fld.other W14 (Fld.ext E11 (Fld.other W8 F_swapped_a1 (Or.inr (slot_ne (Or.inl (hw _ (List.mem_of_getElem? (i := 103) rfl))) (Or.inl (hw _ (List.mem_of_getElem? (i := 13) rfl))) (by decide) (t := .boolean) (t' := (.array (.object "com/example/tabulon/tabulon/game/State$Replaced"))) (by decide) (by decide))))) (Or.inr (slot_ne (Or.inl (hw _ (List.mem_of_getElem? (i := 103) rfl))) (Or.inr (hw _ (List.mem_of_getElem? (i := 15) rfl))) (by decide) (t := .boolean) (t' := (.array .int)) (by decide) (by decide)))).keep Kc17 (ninS (Nat.ne_of_lt (Nat.lt_of_lt_of_le F_moves_a1.lt sz_b11)) nin0)) (Or.inr (slot_ne (Or.inl (hw _ (List.mem_of_getElem? (i := 103) rfl))) (Or.inr (hw _ (List.mem_of_getElem? (i := 21) rfl))) (by decide) (t := .boolean) (t' := .int) (by decide) (by decide))))) (Or.inr (slot_ne (Or.inl (hw _ (List.mem_of_getElem? (i := 103) rfl))) (Or.inr (hw _ (List.mem_of_getElem? (i := 24) rfl))) (by decide) (t := .boolean) (t' := (.array .long)) (by decide) (by decide)))) (Or.inr (slot_ne (Or.inl (hw _ (List.mem_of_getElem? (i := 103) rfl))) (Or.inr (hw _ (List.mem_of_getElem? (i := 26) rfl))) (by decide) (t := .boolean) (t' := (.array .int)) (by decide) (by decide))))) (Or.inr (slot_ne (Or.inl (hw _ (List.mem_of_getElem? (i := 103) rfl))) (Or.inr (hw _ (List.mem_of_getElem? (i := 29) rfl))) (by decide) (t := .boolean) (t' := (.array .boolean)) (by decide) (by decide)))).keep Kc38 (ninS (Nat.ne_of_lt (Nat.lt_of_lt_of_le F_moves_a1.lt sz_b30)) nin0))) (Or.inr (slot_ne (Or.inl (hw _ (List.mem_of_getElem? (i := 103) rfl))) (Or.inr (hw _ (List.mem_of_getElem? (i := 34) rfl))) (by decide) (t := .boolean) (t' := (.array .int)) (by decide) (by decide)))) (Or.inr (slot_ne (Or.inl (hw _ (List.mem_of_getElem? (i := 103) rfl))) (Or.inl (hw _ (List.mem_of_getElem? (i := 36) rfl))) (by decide) (t := .boolean) (t' := .int) (by decide) (by decide))))
  exact Go.ret (Q := Qm1_o Z a1 p2 a3 p4 z0 u_moves_a1 u_lastMove_a1 u_moveBeforeLast_a1 u_swapped_a1 w6 u_frames_a1 u_pieces_a1 u_words_a1 u_sitesOfKind_a1 u_ownerOfKind_a1 u_unmoved_a1 u_lastMoveOf_a1 u_mover_a1 h0 n0) X47 (v := none) (fun _ => rfl) Bd.notSynchronized (fun fs hr => X47.returnOut hx Bd.returns (hb hby d1_89) hr) e47 ⟨rfl, N47, K47, f_48, f_49, f_50, f_51, f_52, Fw47⟩ (by decide) (by decide)
def Q0 (n0 : Nat) (v : Option Value) (h : Heap) (L : List Loc) : Prop := v = some (.int (1 : Int32)) ∧ Fr n0 L
set_option maxRecDepth 65536 in
set_option maxHeartbeats 40000000 in
theorem rm0 (l : Launch) (Z : State) (a0 : Array Value) (hw : ∀ d ∈ tables_1, d.before a0 Z = true) (ws : List Jvm.Cond) (p1 : Int32) (p2 : Int32) (p3 : Int32) (p4 : Int32) (q5 : Int64) (p6 : Int32) (w_SWAP : Addr) (w_NO_FRAMES : Addr) (h0 : Heap) (n0 : Nat) (Z0 : n0 ≤ h0.size) (S_SWAP : Sta Z h0 "com/example/tabulon/tabulon/game/Move" "SWAP" "Lcom/example/tabulon/tabulon/game/Move;" (.ref w_SWAP)) (E_w_SWAP : Exa Z h0 w_SWAP "com/example/tabulon/tabulon/game/Move") (S_NO_FRAMES : Sta Z h0 "com/example/tabulon/tabulon/game/State" "NO_FRAMES" "[Lcom/example/tabulon/tabulon/game/State$Replaced;" (.ref w_NO_FRAMES)) :
    MetFree l x (head1 (Jvm.Cond.code x code maxLocals ret :: ws) room_1) (fun a U => a = #[(.int p1), (.int p2), (.int p3), (.int p4), (.long q5), (.int p6)] ∧ Z.Warmed39 U.vm ∧ U.heap = h0) (fun _ _ _ _ _ => True) (fun _ U o U' => ∃ v L, o = .returned v ∧ Q0 n0 v U'.heap L ∧ FrameEnd U o U' L room_1.cells room_1.slots) := by
  refine MetFree.of_bodySF (plainFor_of_name pn_0) hisR ?_
  intro p e s m args below meth c s₁ Bd hml0 hP hK
  obtain ⟨rfl, hZ, hh⟩ := hP
  have hx := Bd.exec
  have hby := Bd.bytes
  have hml : c.maxLocals = 15 := hml0
  have hown : s.vm.findClass "com/example/tabulon/tabulon/game/StatePassTurnPinLaw" = some m.cls := findClass_of_methodNamed Bd.named
  have hnm := (name_of_methodNamed Bd.named Bd.method).1
  have X0 : Stand p l e room_1 s m #[(.int p1), (.int p2), (.int p3), (.int p4), (.long q5), (.int p6)] below meth c s₁ [] 0 0 := Stand.of_body Bd
  have e0 : s₁.heap = h0 := by rw [← hh, Bd.state]; rfl
  have N0 := Fr.nil n0
  refine Go.en (ef_0 m p1 p2 p3 p4 q5 p6) ?_
  show Go p e below _ (s₁.setTop (mkF m 0 #[.val (.int p1), .val (.int p2), .val (.int p3), .val (.int p4), .val (.long q5), .second, .val (.int p6), .unset, .unset, .unset, .unset, .unset, .unset, .unset, .unset] []))
  refine Go.st (fun _ kk => XS.iloadN X0.here hx rfl (hb hby at_0) rfl  kk) ?_
  show Go p e below _ (s₁.setTop (mkF m 1 #[.val (.int p1), .val (.int p2), .val (.int p3), .val (.int p4), .val (.long q5), .second, .val (.int p6), .unset, .unset, .unset, .unset, .unset, .unset, .unset, .unset] [(.int p1)]))
  refine Go.st (fun _ kk => XS.bipush X0.here hx rfl (hb hby at_1) kk) ?_
  show Go p e below _ (s₁.setTop (mkF m 3 #[.val (.int p1), .val (.int p2), .val (.int p3), .val (.int p4), .val (.long q5), .second, .val (.int p6), .unset, .unset, .unset, .unset, .unset, .unset, .unset, .unset] [(.int (7 : Int32)), (.int p1)]))
  refine Go.st (fun _ kk => XS.iand X0.here hx rfl (hb hby at_3) rfl kk) ?_
  show Go p e below _ (s₁.setTop (mkF m 4 #[.val (.int p1), .val (.int p2), .val (.int p3), .val (.int p4), .val (.long q5), .second, .val (.int p6), .unset, .unset, .unset, .unset, .unset, .unset, .unset, .unset] [(.int (p1 &&& (7 : Int32)))]))
  refine Go.st (fun _ kk => XS.iconst X0.here hx rfl (hb hby at_4) kk) ?_
  show Go p e below _ (s₁.setTop (mkF m 5 #[.val (.int p1), .val (.int p2), .val (.int p3), .val (.int p4), .val (.long q5), .second, .val (.int p6), .unset, .unset, .unset, .unset, .unset, .unset, .unset, .unset] [(.int (1 : Int32)), (.int (p1 &&& (7 : Int32)))]))
  refine Go.st (fun _ kk => XS.iadd X0.here hx rfl (hb hby at_5) rfl kk) ?_
  show Go p e below _ (s₁.setTop (mkF m 6 #[.val (.int p1), .val (.int p2), .val (.int p3), .val (.int p4), .val (.long q5), .second, .val (.int p6), .unset, .unset, .unset, .unset, .unset, .unset, .unset, .unset] [(.int ((p1 &&& (7 : Int32)) + (1 : Int32)))]))
  refine Go.st (fun _ kk => XS.istore X0.here hx rfl (hb hby at_6) rfl (l' := #[.val (.int p1), .val (.int p2), .val (.int p3), .val (.int p4), .val (.long q5), .second, .val (.int p6), .val (.int ((p1 &&& (7 : Int32)) + (1 : Int32))), .unset, .unset, .unset, .unset, .unset, .unset, .unset]) rfl kk) ?_
  show Go p e below _ (s₁.setTop (mkF m 8 #[.val (.int p1), .val (.int p2), .val (.int p3), .val (.int p4), .val (.long q5), .second, .val (.int p6), .val (.int ((p1 &&& (7 : Int32)) + (1 : Int32))), .unset, .unset, .unset, .unset, .unset, .unset, .unset] []))
  refine Go.st (fun _ kk => XS.iloadN X0.here hx rfl (hb hby at_8) rfl  kk) ?_
  show Go p e below _ (s₁.setTop (mkF m 9 #[.val (.int p1), .val (.int p2), .val (.int p3), .val (.int p4), .val (.long q5), .second, .val (.int p6), .val (.int ((p1 &&& (7 : Int32)) + (1 : Int32))), .unset, .unset, .unset, .unset, .unset, .unset, .unset] [(.int p1)]))
  refine Go.st (fun _ kk => XS.iconst X0.here hx rfl (hb hby at_9) kk) ?_
  show Go p e below _ (s₁.setTop (mkF m 10 #[.val (.int p1), .val (.int p2), .val (.int p3), .val (.int p4), .val (.long q5), .second, .val (.int p6), .val (.int ((p1 &&& (7 : Int32)) + (1 : Int32))), .unset, .unset, .unset, .unset, .unset, .unset, .unset] [(.int (3 : Int32)), (.int p1)]))
  refine Go.st (fun _ kk => XS.iushr X0.here hx rfl (hb hby at_10) rfl kk) ?_
  show Go p e below _ (s₁.setTop (mkF m 11 #[.val (.int p1), .val (.int p2), .val (.int p3), .val (.int p4), .val (.long q5), .second, .val (.int p6), .val (.int ((p1 &&& (7 : Int32)) + (1 : Int32))), .unset, .unset, .unset, .unset, .unset, .unset, .unset] [(.int ((p1.toUInt32 >>> ((3 : Int32) &&& 31).toUInt32).toInt32))]))
  refine Go.st (fun _ kk => XS.iconst X0.here hx rfl (hb hby at_11) kk) ?_
  show Go p e below _ (s₁.setTop (mkF m 12 #[.val (.int p1), .val (.int p2), .val (.int p3), .val (.int p4), .val (.long q5), .second, .val (.int p6), .val (.int ((p1 &&& (7 : Int32)) + (1 : Int32))), .unset, .unset, .unset, .unset, .unset, .unset, .unset] [(.int (3 : Int32)), (.int ((p1.toUInt32 >>> ((3 : Int32) &&& 31).toUInt32).toInt32))]))
  refine Go.st (fun _ kk => XS.iand X0.here hx rfl (hb hby at_12) rfl kk) ?_
  show Go p e below _ (s₁.setTop (mkF m 13 #[.val (.int p1), .val (.int p2), .val (.int p3), .val (.int p4), .val (.long q5), .second, .val (.int p6), .val (.int ((p1 &&& (7 : Int32)) + (1 : Int32))), .unset, .unset, .unset, .unset, .unset, .unset, .unset] [(.int (((p1.toUInt32 >>> ((3 : Int32) &&& 31).toUInt32).toInt32) &&& (3 : Int32)))]))
  refine Go.st (fun _ kk => XS.istore X0.here hx rfl (hb hby at_13) rfl (l' := #[.val (.int p1), .val (.int p2), .val (.int p3), .val (.int p4), .val (.long q5), .second, .val (.int p6), .val (.int ((p1 &&& (7 : Int32)) + (1 : Int32))), .val (.int (((p1.toUInt32 >>> ((3 : Int32) &&& 31).toUInt32).toInt32) &&& (3 : Int32))), .unset, .unset, .unset, .unset, .unset, .unset]) rfl kk) ?_
  show Go p e below _ (s₁.setTop (mkF m 15 #[.val (.int p1), .val (.int p2), .val (.int p3), .val (.int p4), .val (.long q5), .second, .val (.int p6), .val (.int ((p1 &&& (7 : Int32)) + (1 : Int32))), .val (.int (((p1.toUInt32 >>> ((3 : Int32) &&& 31).toUInt32).toInt32) &&& (3 : Int32))), .unset, .unset, .unset, .unset, .unset, .unset] []))
  refine Go.st (fun _ kk => XS.iload X0.here hx rfl (hb hby at_15) rfl  kk) ?_
  show Go p e below _ (s₁.setTop (mkF m 17 #[.val (.int p1), .val (.int p2), .val (.int p3), .val (.int p4), .val (.long q5), .second, .val (.int p6), .val (.int ((p1 &&& (7 : Int32)) + (1 : Int32))), .val (.int (((p1.toUInt32 >>> ((3 : Int32) &&& 31).toUInt32).toInt32) &&& (3 : Int32))), .unset, .unset, .unset, .unset, .unset, .unset] [(.int (((p1.toUInt32 >>> ((3 : Int32) &&& 31).toUInt32).toInt32) &&& (3 : Int32)))]))
  obtain ⟨T7, h7, k7, X7, e7, E7, A7, st7⟩ := newP X0 hx hZ (hw _ (List.mem_of_getElem? (i := 0) rfl)) e0 (g := (mkF m 17 #[.val (.int p1), .val (.int p2), .val (.int p3), .val (.int p4), .val (.long q5), .second, .val (.int p6), .val (.int ((p1 &&& (7 : Int32)) + (1 : Int32))), .val (.int (((p1.toUInt32 >>> ((3 : Int32) &&& 31).toUInt32).toInt32) &&& (3 : Int32))), .unset, .unset, .unset, .unset, .unset, .unset] [(.int (((p1.toUInt32 >>> ((3 : Int32) &&& 31).toUInt32).toInt32) &&& (3 : Int32)))])) rfl (hb hby at_17) rfl (own_nn (own_kinds p1).1) (cap := 3) (own_cap (own_kinds p1).2) (by decide) (by decide) (by decide)
  obtain ⟨b7, g7⟩ : ∃ z, z = h0.size := ⟨_, rfl⟩
  rw [← g7] at A7 st7
  refine Go.st st7 ?_
  have g_b7 : n0 ≤ b7 := Nat.le_trans Z0 (Nat.le_of_eq g7.symm)
  have sz_b7 : h0.size ≤ b7 := Nat.le_of_eq g7.symm
  have K7 : Keep h0 h7 [] := (Keep.refl h0 []).ext E7
  have V_b7 : Arv Z h7 b7 k7 .int (((p1.toUInt32 >>> ((3 : Int32) &&& 31).toUInt32).toInt32) &&& (3 : Int32)) [] (.int (0 : Int32)) := Arv.new A7 (own_nn (own_kinds p1).1)
  show Go p e below _ (T7.setTop (mkF m 19 #[.val (.int p1), .val (.int p2), .val (.int p3), .val (.int p4), .val (.long q5), .second, .val (.int p6), .val (.int ((p1 &&& (7 : Int32)) + (1 : Int32))), .val (.int (((p1.toUInt32 >>> ((3 : Int32) &&& 31).toUInt32).toInt32) &&& (3 : Int32))), .unset, .unset, .unset, .unset, .unset, .unset] [(.ref b7)]))
  refine Go.st (fun _ kk => XS.astore X7.here hx rfl (hb hby at_19) rfl rfl (l' := #[.val (.int p1), .val (.int p2), .val (.int p3), .val (.int p4), .val (.long q5), .second, .val (.int p6), .val (.int ((p1 &&& (7 : Int32)) + (1 : Int32))), .val (.int (((p1.toUInt32 >>> ((3 : Int32) &&& 31).toUInt32).toInt32) &&& (3 : Int32))), .val (.ref b7), .unset, .unset, .unset, .unset, .unset]) rfl kk) ?_
  show Go p e below _ (T7.setTop (mkF m 21 #[.val (.int p1), .val (.int p2), .val (.int p3), .val (.int p4), .val (.long q5), .second, .val (.int p6), .val (.int ((p1 &&& (7 : Int32)) + (1 : Int32))), .val (.int (((p1.toUInt32 >>> ((3 : Int32) &&& 31).toUInt32).toInt32) &&& (3 : Int32))), .val (.ref b7), .unset, .unset, .unset, .unset, .unset] []))
  obtain ⟨T8, h8, X8, e8, E8, A8, D8, -, st8⟩ := newO X7 hx hZ hown (hw _ (List.mem_of_getElem? (i := 1) rfl)) (hw _ (List.mem_of_getElem? (i := 2) rfl)) (hw _ (List.mem_of_getElem? (i := 3) rfl)) e7 (g := (mkF m 21 #[.val (.int p1), .val (.int p2), .val (.int p3), .val (.int p4), .val (.long q5), .second, .val (.int p6), .val (.int ((p1 &&& (7 : Int32)) + (1 : Int32))), .val (.int (((p1.toUInt32 >>> ((3 : Int32) &&& 31).toUInt32).toInt32) &&& (3 : Int32))), .val (.ref b7), .unset, .unset, .unset, .unset, .unset] [])) rfl (hb hby at_21) (by decide) (by decide)
  obtain ⟨b8, g8⟩ : ∃ z, z = h7.size := ⟨_, rfl⟩
  rw [← g8] at A8 D8 st8
  refine Go.st st8 ?_
  have g_b8 : n0 ≤ b8 := Nat.le_trans (Nat.le_trans Z0 K7.1) (Nat.le_of_eq g8.symm)
  have sz_b8 : h0.size ≤ b8 := Nat.le_trans K7.1 (Nat.le_of_eq g8.symm)
  have lt_b7_b8 : b7 < b8 := Nat.lt_of_lt_of_le V_b7.lt (Nat.le_of_eq g8.symm)
  have K8 : Keep h0 h8 [] := K7.ext E8
  have E_b8 : Exa Z h8 b8 "com/example/tabulon/tabulon/game/State" := A8
  have F_frames_b8 : Fld Z h8 b8 "com/example/tabulon/tabulon/game/State" "frames" "[Lcom/example/tabulon/tabulon/game/State$Replaced;" .null := D8 (Or.inl (hw _ (List.mem_of_getElem? (i := 13) rfl))) (ty := (.array (.object "com/example/tabulon/tabulon/game/State$Replaced"))) (by decide)
  have F_pieces_b8 : Fld Z h8 b8 "com/example/tabulon/tabulon/game/State" "pieces" "[I" .null := D8 (Or.inr (hw _ (List.mem_of_getElem? (i := 15) rfl))) (ty := (.array .int)) (by decide)
  have F_words_b8 : Fld Z h8 b8 "com/example/tabulon/tabulon/game/State" "words" "I" (.int (0 : Int32)) := D8 (Or.inr (hw _ (List.mem_of_getElem? (i := 21) rfl))) (ty := .int) (by decide)
  have F_sitesOfKind_b8 : Fld Z h8 b8 "com/example/tabulon/tabulon/game/State" "sitesOfKind" "[J" .null := D8 (Or.inr (hw _ (List.mem_of_getElem? (i := 24) rfl))) (ty := (.array .long)) (by decide)
  have F_ownerOfKind_b8 : Fld Z h8 b8 "com/example/tabulon/tabulon/game/State" "ownerOfKind" "[I" .null := D8 (Or.inr (hw _ (List.mem_of_getElem? (i := 26) rfl))) (ty := (.array .int)) (by decide)
  have F_unmoved_b8 : Fld Z h8 b8 "com/example/tabulon/tabulon/game/State" "unmoved" "[Z" .null := D8 (Or.inr (hw _ (List.mem_of_getElem? (i := 29) rfl))) (ty := (.array .boolean)) (by decide)
  have F_lastMoveOf_b8 : Fld Z h8 b8 "com/example/tabulon/tabulon/game/State" "lastMoveOf" "[I" .null := D8 (Or.inr (hw _ (List.mem_of_getElem? (i := 34) rfl))) (ty := (.array .int)) (by decide)
  have F_mover_b8 : Fld Z h8 b8 "com/example/tabulon/tabulon/game/State" "mover" "I" (.int (0 : Int32)) := D8 (Or.inl (hw _ (List.mem_of_getElem? (i := 36) rfl))) (ty := .int) (by decide)
  have F_moves_b8 : Fld Z h8 b8 "com/example/tabulon/tabulon/game/State" "moves" "I" (.int (0 : Int32)) := D8 (Or.inl (hw _ (List.mem_of_getElem? (i := 72) rfl))) (ty := .int) (by decide)
  have F_lastMove_b8 : Fld Z h8 b8 "com/example/tabulon/tabulon/game/State" "lastMove" "Lcom/example/tabulon/tabulon/game/Move;" .null := D8 (Or.inl (hw _ (List.mem_of_getElem? (i := 74) rfl))) (ty := (.object "com/example/tabulon/tabulon/game/Move")) (by decide)
  have F_moveBeforeLast_b8 : Fld Z h8 b8 "com/example/tabulon/tabulon/game/State" "moveBeforeLast" "Lcom/example/tabulon/tabulon/game/Move;" .null := D8 (Or.inl (hw _ (List.mem_of_getElem? (i := 76) rfl))) (ty := (.object "com/example/tabulon/tabulon/game/Move")) (by decide)
  have F_swapped_b8 : Fld Z h8 b8 "com/example/tabulon/tabulon/game/State" "swapped" "Z" (.int (0 : Int32)) := D8 (Or.inl (hw _ (List.mem_of_getElem? (i := 103) rfl))) (ty := .boolean) (by decide)
  show Go p e below _ (T8.setTop (mkF m 24 #[.val (.int p1), .val (.int p2), .val (.int p3), .val (.int p4), .val (.long q5), .second, .val (.int p6), .val (.int ((p1 &&& (7 : Int32)) + (1 : Int32))), .val (.int (((p1.toUInt32 >>> ((3 : Int32) &&& 31).toUInt32).toInt32) &&& (3 : Int32))), .val (.ref b7), .unset, .unset, .unset, .unset, .unset] [(.ref b8)]))
  refine Go.st (fun _ kk => XS.dup X8.here hx rfl (hb hby at_24) rfl rfl kk) ?_
  show Go p e below _ (T8.setTop (mkF m 25 #[.val (.int p1), .val (.int p2), .val (.int p3), .val (.int p4), .val (.long q5), .second, .val (.int p6), .val (.int ((p1 &&& (7 : Int32)) + (1 : Int32))), .val (.int (((p1.toUInt32 >>> ((3 : Int32) &&& 31).toUInt32).toInt32) &&& (3 : Int32))), .val (.ref b7), .unset, .unset, .unset, .unset, .unset] [(.ref b8), (.ref b8)]))
  refine Go.st (fun _ kk => XS.iload X8.here hx rfl (hb hby at_25) rfl  kk) ?_
  show Go p e below _ (T8.setTop (mkF m 27 #[.val (.int p1), .val (.int p2), .val (.int p3), .val (.int p4), .val (.long q5), .second, .val (.int p6), .val (.int ((p1 &&& (7 : Int32)) + (1 : Int32))), .val (.int (((p1.toUInt32 >>> ((3 : Int32) &&& 31).toUInt32).toInt32) &&& (3 : Int32))), .val (.ref b7), .unset, .unset, .unset, .unset, .unset] [(.int ((p1 &&& (7 : Int32)) + (1 : Int32))), (.ref b8), (.ref b8)]))
  refine Go.st (fun _ kk => XS.aload X8.here hx rfl (hb hby at_27) rfl rfl  kk) ?_
  show Go p e below _ (T8.setTop (mkF m 29 #[.val (.int p1), .val (.int p2), .val (.int p3), .val (.int p4), .val (.long q5), .second, .val (.int p6), .val (.int ((p1 &&& (7 : Int32)) + (1 : Int32))), .val (.int (((p1.toUInt32 >>> ((3 : Int32) &&& 31).toUInt32).toInt32) &&& (3 : Int32))), .val (.ref b7), .unset, .unset, .unset, .unset, .unset] [(.ref b7), (.int ((p1 &&& (7 : Int32)) + (1 : Int32))), (.ref b8), (.ref b8)]))
  refine Go.st (fun _ kk => XS.iloadN X8.here hx rfl (hb hby at_29) rfl  kk) ?_
  show Go p e below _ (T8.setTop (mkF m 30 #[.val (.int p1), .val (.int p2), .val (.int p3), .val (.int p4), .val (.long q5), .second, .val (.int p6), .val (.int ((p1 &&& (7 : Int32)) + (1 : Int32))), .val (.int (((p1.toUInt32 >>> ((3 : Int32) &&& 31).toUInt32).toInt32) &&& (3 : Int32))), .val (.ref b7), .unset, .unset, .unset, .unset, .unset] [(.int p2), (.ref b7), (.int ((p1 &&& (7 : Int32)) + (1 : Int32))), (.ref b8), (.ref b8)]))
  have f_9 := (V_b7.ext E8)
  have f_10 := (staKeep0 S_NO_FRAMES K8)
  obtain ⟨_, _, ⟨T11, L11, k11, n11⟩, -, X11, ⟨Lc11, hQ11, l11, y11, z11⟩, st11⟩ := X8.specialBack hx (y := (⟨"com/example/tabulon/tabulon/game/State", "<init>", "(I[II)V"⟩ : MethodName)) rfl hown (mvT hZ (hw _ (List.mem_of_getElem? (i := 4) rfl))) (mvT hZ (hw _ (List.mem_of_getElem? (i := 5) rfl))) (mvT hZ (hw _ (List.mem_of_getElem? (i := 6) rfl))) (by decide) (backOf (W := 1) (rm1_o l Z a0 hw [] b8 ((p1 &&& (7 : Int32)) + (1 : Int32)) b7 p2 (((p1.toUInt32 >>> ((3 : Int32) &&& 31).toUInt32).toInt32) &&& (3 : Int32)) (.int (0 : Int32)) .null .null (.int (0 : Int32)) w_NO_FRAMES .null .null (.int (0 : Int32)) .null .null .null .null (.int (0 : Int32)) h8 n0 (Nat.le_trans Z0 K8.1) (Arv.arn f_9) (Nat.ne_of_lt lt_b7_b8) (own_sites p1) (own_kinds p1).2 F_moves_b8 F_lastMove_b8 F_moveBeforeLast_b8 F_swapped_b8 f_10 E_b8 F_frames_b8 g_b8 F_pieces_b8 F_words_b8 F_sitesOfKind_b8 F_ownerOfKind_b8 F_unmoved_b8 F_lastMoveOf_b8 F_mover_b8) hZ (hw _ (List.mem_of_getElem? (i := 6) rfl)) (hw _ (List.mem_of_getElem? (i := 3) rfl)) (by decide) (by decide)) (g := (mkF m 30 #[.val (.int p1), .val (.int p2), .val (.int p3), .val (.int p4), .val (.long q5), .second, .val (.int p6), .val (.int ((p1 &&& (7 : Int32)) + (1 : Int32))), .val (.int (((p1.toUInt32 >>> ((3 : Int32) &&& 31).toUInt32).toInt32) &&& (3 : Int32))), .val (.ref b7), .unset, .unset, .unset, .unset, .unset] [(.int p2), (.ref b7), (.int ((p1 &&& (7 : Int32)) + (1 : Int32))), (.ref b8), (.ref b8)])) rfl (by rw [hml]; rfl) (Steps.refl _) (a := b8) (argsL := [(.int ((p1 &&& (7 : Int32)) + (1 : Int32))), (.ref b7), (.int p2)]) (rest := [(.ref b8)]) (lenOf pd_4 rfl) rfl (by show 2 * 0 + _ ≤ _; exact Nat.le_of_eq rfl) (hb hby at_30) (fun _ _ => ⟨rfl, e8, (by decide : 2 + 4 ≤ _), (by decide : 19 + 22 ≤ _)⟩)
  dsimp only [Pt.U, Pt.locs, Pt.cells, Pt.slots] at X11 l11 y11 z11 st11 hQ11
  subst l11 y11 z11
  obtain ⟨rfl, N11q, Kc11, P11_0, P11_1, P11_2, P11_3, P11_4, P11_5⟩ := hQ11
  have K11 : Keep h0 T11.heap [] := K8.trans Kc11 (allS (Or.inr sz_b8) all0)
  have N11 := Fr.app N0 N11q
  refine Go.tr st11 ?_
  show Go p e below _ (T11.setTop (mkF m 33 #[.val (.int p1), .val (.int p2), .val (.int p3), .val (.int p4), .val (.long q5), .second, .val (.int p6), .val (.int ((p1 &&& (7 : Int32)) + (1 : Int32))), .val (.int (((p1.toUInt32 >>> ((3 : Int32) &&& 31).toUInt32).toInt32) &&& (3 : Int32))), .val (.ref b7), .unset, .unset, .unset, .unset, .unset] [(.ref b8)]))
  refine Go.st (fun _ kk => XS.astore X11.here hx rfl (hb hby at_33) rfl rfl (l' := #[.val (.int p1), .val (.int p2), .val (.int p3), .val (.int p4), .val (.long q5), .second, .val (.int p6), .val (.int ((p1 &&& (7 : Int32)) + (1 : Int32))), .val (.int (((p1.toUInt32 >>> ((3 : Int32) &&& 31).toUInt32).toInt32) &&& (3 : Int32))), .val (.ref b7), .val (.ref b8), .unset, .unset, .unset, .unset]) rfl kk) ?_
  show Go p e below _ (T11.setTop (mkF m 35 #[.val (.int p1), .val (.int p2), .val (.int p3), .val (.int p4), .val (.long q5), .second, .val (.int p6), .val (.int ((p1 &&& (7 : Int32)) + (1 : Int32))), .val (.int (((p1.toUInt32 >>> ((3 : Int32) &&& 31).toUInt32).toInt32) &&& (3 : Int32))), .val (.ref b7), .val (.ref b8), .unset, .unset, .unset, .unset] []))
  obtain ⟨T12, h12, X12, e12, E12, A12, D12, -, st12⟩ := newO X11 hx hZ hown (hw _ (List.mem_of_getElem? (i := 37) rfl)) (hw _ (List.mem_of_getElem? (i := 38) rfl)) (hw _ (List.mem_of_getElem? (i := 39) rfl)) rfl (g := (mkF m 35 #[.val (.int p1), .val (.int p2), .val (.int p3), .val (.int p4), .val (.long q5), .second, .val (.int p6), .val (.int ((p1 &&& (7 : Int32)) + (1 : Int32))), .val (.int (((p1.toUInt32 >>> ((3 : Int32) &&& 31).toUInt32).toInt32) &&& (3 : Int32))), .val (.ref b7), .val (.ref b8), .unset, .unset, .unset, .unset] [])) rfl (hb hby at_35) (by decide) (by decide)
  obtain ⟨b12, g12⟩ : ∃ z, z = T11.heap.size := ⟨_, rfl⟩
  rw [← g12] at A12 D12 st12
  refine Go.st st12 ?_
  have g_b12 : n0 ≤ b12 := Nat.le_trans (Nat.le_trans Z0 K11.1) (Nat.le_of_eq g12.symm)
  have sz_b12 : h0.size ≤ b12 := Nat.le_trans K11.1 (Nat.le_of_eq g12.symm)
  have f_13 := (f_9.keep Kc11 (ninS (Nat.ne_of_lt lt_b7_b8) nin0))
  have lt_b7_b12 : b7 < b12 := Nat.lt_of_lt_of_le f_13.lt (Nat.le_of_eq g12.symm)
  have lt_b8_b12 : b8 < b12 := Nat.lt_of_lt_of_le P11_0.lt (Nat.le_of_eq g12.symm)
  have K12 : Keep h0 h12 [] := K11.ext E12
  have E_b12 : Exa Z h12 b12 "com/example/tabulon/tabulon/game/Move" := A12
  have F_from_b12 : Fld Z h12 b12 "com/example/tabulon/tabulon/game/Move" "from" "I" (.int (0 : Int32)) := D12 (Or.inr (hw _ (List.mem_of_getElem? (i := 53) rfl))) (ty := .int) (by decide)
  have F_to_b12 : Fld Z h12 b12 "com/example/tabulon/tabulon/game/Move" "to" "I" (.int (0 : Int32)) := D12 (Or.inr (hw _ (List.mem_of_getElem? (i := 55) rfl))) (ty := .int) (by decide)
  have F_piece_b12 : Fld Z h12 b12 "com/example/tabulon/tabulon/game/Move" "piece" "I" (.int (0 : Int32)) := D12 (Or.inr (hw _ (List.mem_of_getElem? (i := 57) rfl))) (ty := .int) (by decide)
  have F_promotes_b12 : Fld Z h12 b12 "com/example/tabulon/tabulon/game/Move" "promotes" "Z" (.int (0 : Int32)) := D12 (Or.inr (hw _ (List.mem_of_getElem? (i := 59) rfl))) (ty := .boolean) (by decide)
  have F_alsoFrom_b12 : Fld Z h12 b12 "com/example/tabulon/tabulon/game/Move" "alsoFrom" "I" (.int (0 : Int32)) := D12 (Or.inr (hw _ (List.mem_of_getElem? (i := 61) rfl))) (ty := .int) (by decide)
  have F_alsoTo_b12 : Fld Z h12 b12 "com/example/tabulon/tabulon/game/Move" "alsoTo" "I" (.int (0 : Int32)) := D12 (Or.inr (hw _ (List.mem_of_getElem? (i := 63) rfl))) (ty := .int) (by decide)
  show Go p e below _ (T12.setTop (mkF m 38 #[.val (.int p1), .val (.int p2), .val (.int p3), .val (.int p4), .val (.long q5), .second, .val (.int p6), .val (.int ((p1 &&& (7 : Int32)) + (1 : Int32))), .val (.int (((p1.toUInt32 >>> ((3 : Int32) &&& 31).toUInt32).toInt32) &&& (3 : Int32))), .val (.ref b7), .val (.ref b8), .unset, .unset, .unset, .unset] [(.ref b12)]))
  refine Go.st (fun _ kk => XS.dup X12.here hx rfl (hb hby at_38) rfl rfl kk) ?_
  show Go p e below _ (T12.setTop (mkF m 39 #[.val (.int p1), .val (.int p2), .val (.int p3), .val (.int p4), .val (.long q5), .second, .val (.int p6), .val (.int ((p1 &&& (7 : Int32)) + (1 : Int32))), .val (.int (((p1.toUInt32 >>> ((3 : Int32) &&& 31).toUInt32).toInt32) &&& (3 : Int32))), .val (.ref b7), .val (.ref b8), .unset, .unset, .unset, .unset] [(.ref b12), (.ref b12)]))
  refine Go.st (fun _ kk => XS.lload X12.here hx rfl (hb hby at_39) rfl  kk) ?_
  show Go p e below _ (T12.setTop (mkF m 41 #[.val (.int p1), .val (.int p2), .val (.int p3), .val (.int p4), .val (.long q5), .second, .val (.int p6), .val (.int ((p1 &&& (7 : Int32)) + (1 : Int32))), .val (.int (((p1.toUInt32 >>> ((3 : Int32) &&& 31).toUInt32).toInt32) &&& (3 : Int32))), .val (.ref b7), .val (.ref b8), .unset, .unset, .unset, .unset] [(.long q5), (.ref b12), (.ref b12)]))
  refine Go.st (fun _ kk => XS.l2i X12.here hx rfl (hb hby at_41) rfl kk) ?_
  show Go p e below _ (T12.setTop (mkF m 42 #[.val (.int p1), .val (.int p2), .val (.int p3), .val (.int p4), .val (.long q5), .second, .val (.int p6), .val (.int ((p1 &&& (7 : Int32)) + (1 : Int32))), .val (.int (((p1.toUInt32 >>> ((3 : Int32) &&& 31).toUInt32).toInt32) &&& (3 : Int32))), .val (.ref b7), .val (.ref b8), .unset, .unset, .unset, .unset] [(.int (q5.toInt32)), (.ref b12), (.ref b12)]))
  refine Go.st (fun _ kk => XS.lload X12.here hx rfl (hb hby at_42) rfl  kk) ?_
  show Go p e below _ (T12.setTop (mkF m 44 #[.val (.int p1), .val (.int p2), .val (.int p3), .val (.int p4), .val (.long q5), .second, .val (.int p6), .val (.int ((p1 &&& (7 : Int32)) + (1 : Int32))), .val (.int (((p1.toUInt32 >>> ((3 : Int32) &&& 31).toUInt32).toInt32) &&& (3 : Int32))), .val (.ref b7), .val (.ref b8), .unset, .unset, .unset, .unset] [(.long q5), (.int (q5.toInt32)), (.ref b12), (.ref b12)]))
  refine Go.st (fun _ kk => XS.bipush X12.here hx rfl (hb hby at_44) kk) ?_
  show Go p e below _ (T12.setTop (mkF m 46 #[.val (.int p1), .val (.int p2), .val (.int p3), .val (.int p4), .val (.long q5), .second, .val (.int p6), .val (.int ((p1 &&& (7 : Int32)) + (1 : Int32))), .val (.int (((p1.toUInt32 >>> ((3 : Int32) &&& 31).toUInt32).toInt32) &&& (3 : Int32))), .val (.ref b7), .val (.ref b8), .unset, .unset, .unset, .unset] [(.int (32 : Int32)), (.long q5), (.int (q5.toInt32)), (.ref b12), (.ref b12)]))
  refine Go.st (fun _ kk => XS.lushr X12.here hx rfl (hb hby at_46) rfl kk) ?_
  show Go p e below _ (T12.setTop (mkF m 47 #[.val (.int p1), .val (.int p2), .val (.int p3), .val (.int p4), .val (.long q5), .second, .val (.int p6), .val (.int ((p1 &&& (7 : Int32)) + (1 : Int32))), .val (.int (((p1.toUInt32 >>> ((3 : Int32) &&& 31).toUInt32).toInt32) &&& (3 : Int32))), .val (.ref b7), .val (.ref b8), .unset, .unset, .unset, .unset] [(.long ((q5.toUInt64 >>> ((32 : Int32) &&& 0x3f).toInt64.toUInt64).toInt64)), (.int (q5.toInt32)), (.ref b12), (.ref b12)]))
  refine Go.st (fun _ kk => XS.l2i X12.here hx rfl (hb hby at_47) rfl kk) ?_
  show Go p e below _ (T12.setTop (mkF m 48 #[.val (.int p1), .val (.int p2), .val (.int p3), .val (.int p4), .val (.long q5), .second, .val (.int p6), .val (.int ((p1 &&& (7 : Int32)) + (1 : Int32))), .val (.int (((p1.toUInt32 >>> ((3 : Int32) &&& 31).toUInt32).toInt32) &&& (3 : Int32))), .val (.ref b7), .val (.ref b8), .unset, .unset, .unset, .unset] [(.int (((q5.toUInt64 >>> ((32 : Int32) &&& 0x3f).toInt64.toUInt64).toInt64).toInt32)), (.int (q5.toInt32)), (.ref b12), (.ref b12)]))
  refine Go.st (fun _ kk => XS.iload X12.here hx rfl (hb hby at_48) rfl  kk) ?_
  show Go p e below _ (T12.setTop (mkF m 50 #[.val (.int p1), .val (.int p2), .val (.int p3), .val (.int p4), .val (.long q5), .second, .val (.int p6), .val (.int ((p1 &&& (7 : Int32)) + (1 : Int32))), .val (.int (((p1.toUInt32 >>> ((3 : Int32) &&& 31).toUInt32).toInt32) &&& (3 : Int32))), .val (.ref b7), .val (.ref b8), .unset, .unset, .unset, .unset] [(.int p6), (.int (((q5.toUInt64 >>> ((32 : Int32) &&& 0x3f).toInt64.toUInt64).toInt64).toInt32)), (.int (q5.toInt32)), (.ref b12), (.ref b12)]))
  obtain ⟨_, _, ⟨T14, L14, k14, n14⟩, -, X14, ⟨Lc14, hQ14, l14, y14, z14⟩, st14⟩ := X12.specialBack hx (y := (⟨"com/example/tabulon/tabulon/game/Move", "<init>", "(III)V"⟩ : MethodName)) rfl hown (mvT hZ (hw _ (List.mem_of_getElem? (i := 40) rfl))) (mvT hZ (hw _ (List.mem_of_getElem? (i := 41) rfl))) (mvT hZ (hw _ (List.mem_of_getElem? (i := 42) rfl))) (by decide) (backOf (W := 1) (rm5_o l Z a0 hw [] b12 (q5.toInt32) (((q5.toUInt64 >>> ((32 : Int32) &&& 0x3f).toInt64.toUInt64).toInt64).toInt32) p6 (.int (0 : Int32)) (.int (0 : Int32)) (.int (0 : Int32)) (.int (0 : Int32)) (.int (0 : Int32)) (.int (0 : Int32)) h12 n0 (Nat.le_trans Z0 K12.1) E_b12 F_from_b12 g_b12 F_to_b12 F_piece_b12 F_promotes_b12 F_alsoFrom_b12 F_alsoTo_b12) hZ (hw _ (List.mem_of_getElem? (i := 42) rfl)) (hw _ (List.mem_of_getElem? (i := 39) rfl)) (by decide) (by decide)) (g := (mkF m 50 #[.val (.int p1), .val (.int p2), .val (.int p3), .val (.int p4), .val (.long q5), .second, .val (.int p6), .val (.int ((p1 &&& (7 : Int32)) + (1 : Int32))), .val (.int (((p1.toUInt32 >>> ((3 : Int32) &&& 31).toUInt32).toInt32) &&& (3 : Int32))), .val (.ref b7), .val (.ref b8), .unset, .unset, .unset, .unset] [(.int p6), (.int (((q5.toUInt64 >>> ((32 : Int32) &&& 0x3f).toInt64.toUInt64).toInt64).toInt32)), (.int (q5.toInt32)), (.ref b12), (.ref b12)])) rfl (by rw [hml]; rfl) (Steps.refl _) (a := b12) (argsL := [(.int (q5.toInt32)), (.int (((q5.toUInt64 >>> ((32 : Int32) &&& 0x3f).toInt64.toUInt64).toInt64).toInt32)), (.int p6)]) (rest := [(.ref b12)]) (lenOf pd_5 rfl) rfl (by show 2 * 0 + _ ≤ _; exact Nat.le_of_eq rfl) (hb hby at_50) (fun _ _ => ⟨rfl, e12, (by decide : 7 + 0 ≤ _), (by decide : 47 + 0 ≤ _)⟩)
  dsimp only [Pt.U, Pt.locs, Pt.cells, Pt.slots] at X14 l14 y14 z14 st14 hQ14
  subst l14 y14 z14
  obtain ⟨rfl, N14q, Kc14, P14_0⟩ := hQ14
  have K14 : Keep h0 T14.heap [] := K12.trans Kc14 (allS (Or.inr sz_b12) all0)
  have N14 := Fr.app N11 N14q
  refine Go.tr st14 ?_
  show Go p e below _ (T14.setTop (mkF m 53 #[.val (.int p1), .val (.int p2), .val (.int p3), .val (.int p4), .val (.long q5), .second, .val (.int p6), .val (.int ((p1 &&& (7 : Int32)) + (1 : Int32))), .val (.int (((p1.toUInt32 >>> ((3 : Int32) &&& 31).toUInt32).toInt32) &&& (3 : Int32))), .val (.ref b7), .val (.ref b8), .unset, .unset, .unset, .unset] [(.ref b12)]))
  refine Go.st (fun _ kk => XS.astore X14.here hx rfl (hb hby at_53) rfl rfl (l' := #[.val (.int p1), .val (.int p2), .val (.int p3), .val (.int p4), .val (.long q5), .second, .val (.int p6), .val (.int ((p1 &&& (7 : Int32)) + (1 : Int32))), .val (.int (((p1.toUInt32 >>> ((3 : Int32) &&& 31).toUInt32).toInt32) &&& (3 : Int32))), .val (.ref b7), .val (.ref b8), .val (.ref b12), .unset, .unset, .unset]) rfl kk) ?_
  show Go p e below _ (T14.setTop (mkF m 55 #[.val (.int p1), .val (.int p2), .val (.int p3), .val (.int p4), .val (.long q5), .second, .val (.int p6), .val (.int ((p1 &&& (7 : Int32)) + (1 : Int32))), .val (.int (((p1.toUInt32 >>> ((3 : Int32) &&& 31).toUInt32).toInt32) &&& (3 : Int32))), .val (.ref b7), .val (.ref b8), .val (.ref b12), .unset, .unset, .unset] []))
  have f_15 := (staKeep0 S_SWAP K14)
  obtain ⟨T16, X16, e16, st16⟩ := getS2 X14 hx hZ hown (host := "") (Or.inl (hw _ (List.mem_of_getElem? (i := 64) rfl))) Via.refl rfl f_15 (g := (mkF m 55 #[.val (.int p1), .val (.int p2), .val (.int p3), .val (.int p4), .val (.long q5), .second, .val (.int p6), .val (.int ((p1 &&& (7 : Int32)) + (1 : Int32))), .val (.int (((p1.toUInt32 >>> ((3 : Int32) &&& 31).toUInt32).toInt32) &&& (3 : Int32))), .val (.ref b7), .val (.ref b8), .val (.ref b12), .unset, .unset, .unset] [])) rfl (hb hby at_55)
  refine Go.st st16 ?_
  show Go p e below _ (T16.setTop (mkF m 58 #[.val (.int p1), .val (.int p2), .val (.int p3), .val (.int p4), .val (.long q5), .second, .val (.int p6), .val (.int ((p1 &&& (7 : Int32)) + (1 : Int32))), .val (.int (((p1.toUInt32 >>> ((3 : Int32) &&& 31).toUInt32).toInt32) &&& (3 : Int32))), .val (.ref b7), .val (.ref b8), .val (.ref b12), .unset, .unset, .unset] [(.ref w_SWAP)]))
  refine Go.st (fun _ kk => XS.astore X16.here hx rfl (hb hby at_58) rfl rfl (l' := #[.val (.int p1), .val (.int p2), .val (.int p3), .val (.int p4), .val (.long q5), .second, .val (.int p6), .val (.int ((p1 &&& (7 : Int32)) + (1 : Int32))), .val (.int (((p1.toUInt32 >>> ((3 : Int32) &&& 31).toUInt32).toInt32) &&& (3 : Int32))), .val (.ref b7), .val (.ref b8), .val (.ref b12), .val (.ref w_SWAP), .unset, .unset]) rfl kk) ?_
  show Go p e below _ (T16.setTop (mkF m 60 #[.val (.int p1), .val (.int p2), .val (.int p3), .val (.int p4), .val (.long q5), .second, .val (.int p6), .val (.int ((p1 &&& (7 : Int32)) + (1 : Int32))), .val (.int (((p1.toUInt32 >>> ((3 : Int32) &&& 31).toUInt32).toInt32) &&& (3 : Int32))), .val (.ref b7), .val (.ref b8), .val (.ref b12), .val (.ref w_SWAP), .unset, .unset] []))
  refine Go.st (fun _ kk => XS.aload X16.here hx rfl (hb hby at_60) rfl rfl  kk) ?_
  show Go p e below _ (T16.setTop (mkF m 62 #[.val (.int p1), .val (.int p2), .val (.int p3), .val (.int p4), .val (.long q5), .second, .val (.int p6), .val (.int ((p1 &&& (7 : Int32)) + (1 : Int32))), .val (.int (((p1.toUInt32 >>> ((3 : Int32) &&& 31).toUInt32).toInt32) &&& (3 : Int32))), .val (.ref b7), .val (.ref b8), .val (.ref b12), .val (.ref w_SWAP), .unset, .unset] [(.ref b8)]))
  refine Go.st (fun _ kk => XS.aload X16.here hx rfl (hb hby at_62) rfl rfl  kk) ?_
  show Go p e below _ (T16.setTop (mkF m 64 #[.val (.int p1), .val (.int p2), .val (.int p3), .val (.int p4), .val (.long q5), .second, .val (.int p6), .val (.int ((p1 &&& (7 : Int32)) + (1 : Int32))), .val (.int (((p1.toUInt32 >>> ((3 : Int32) &&& 31).toUInt32).toInt32) &&& (3 : Int32))), .val (.ref b7), .val (.ref b8), .val (.ref b12), .val (.ref w_SWAP), .unset, .unset] [(.ref b12), (.ref b8)]))
  refine Go.st (fun _ kk => XS.iloadN X16.here hx rfl (hb hby at_64) rfl  kk) ?_
  show Go p e below _ (T16.setTop (mkF m 65 #[.val (.int p1), .val (.int p2), .val (.int p3), .val (.int p4), .val (.long q5), .second, .val (.int p6), .val (.int ((p1 &&& (7 : Int32)) + (1 : Int32))), .val (.int (((p1.toUInt32 >>> ((3 : Int32) &&& 31).toUInt32).toInt32) &&& (3 : Int32))), .val (.ref b7), .val (.ref b8), .val (.ref b12), .val (.ref w_SWAP), .unset, .unset] [(.int p3), (.ref b12), (.ref b8)]))
  have f_17 := ((Exa.ext E12 P11_0).keep Kc14)
  have f_18 := ((Fld.ext E12 P11_2).keep Kc14 (ninS (Nat.ne_of_lt lt_b8_b12) nin0))
  have f_19 := ((Fld.ext E12 P11_4).keep Kc14 (ninS (Nat.ne_of_lt lt_b8_b12) nin0))
  have f_20 := ((Fld.ext E12 P11_5).keep Kc14 (ninS (Nat.ne_of_lt lt_b8_b12) nin0))
  have f_21 := ((Fld.ext E12 P11_1).keep Kc14 (ninS (Nat.ne_of_lt lt_b8_b12) nin0))
  have f_22 := ((Fld.ext E12 P11_3).keep Kc14 (ninS (Nat.ne_of_lt lt_b8_b12) nin0))
  obtain ⟨cq23, kq23, q23a, q23b, q23c⟩ := isOf hZ e16 f_17
  obtain ⟨_, _, ⟨T23, L23, k23, n23⟩, -, X23, ⟨Lc23, hQ23, l23, y23, z23⟩, st23⟩ := X16.virtualBack hx (y := (⟨"com/example/tabulon/tabulon/game/State", "passTurn", "(Lcom/example/tabulon/tabulon/game/Move;I)V"⟩ : MethodName)) (z := (⟨"com/example/tabulon/tabulon/game/State", "passTurn", "(Lcom/example/tabulon/tabulon/game/Move;I)V"⟩ : MethodName)) hown (mvT hZ (hw _ (List.mem_of_getElem? (i := 66) rfl))) (mvT hZ (hw _ (List.mem_of_getElem? (i := 67) rfl))) (notFace_of_selects (args := #[]) (mvT hZ (hw _ (List.mem_of_getElem? (i := 69) rfl)))) (mvT hZ (hw _ (List.mem_of_getElem? (i := 69) rfl))) (mvT hZ (hw _ (List.mem_of_getElem? (i := 68) rfl))) (by decide) (backOf (W := 0) (rm8n_o l Z a0 hw [] b8 b12 p3 (.int (0 : Int32)) (.int p2) (0 : Int32) .null T14.heap n0 (Nat.le_trans Z0 K14.1) f_18 f_19 f_17 f_20 g_b8 f_21 f_22) hZ (hw _ (List.mem_of_getElem? (i := 70) rfl)) (hw _ (List.mem_of_getElem? (i := 3) rfl)) (by decide) (by decide)) q23a q23c (g := (mkF m 65 #[.val (.int p1), .val (.int p2), .val (.int p3), .val (.int p4), .val (.long q5), .second, .val (.int p6), .val (.int ((p1 &&& (7 : Int32)) + (1 : Int32))), .val (.int (((p1.toUInt32 >>> ((3 : Int32) &&& 31).toUInt32).toInt32) &&& (3 : Int32))), .val (.ref b7), .val (.ref b8), .val (.ref b12), .val (.ref w_SWAP), .unset, .unset] [(.int p3), (.ref b12), (.ref b8)])) rfl (by rw [hml]; rfl) (Steps.refl _) (argsL := [(.ref b12), (.int p3)]) (rest := []) (lenOf pd_6 rfl) rfl (by show 2 * 0 + _ ≤ _; exact Nat.le_of_eq rfl) (hb hby at_65) (fun _ _ => ⟨rfl, e16, (by decide : 7 + 0 ≤ _), (by decide : 47 + 0 ≤ _)⟩)
  dsimp only [Pt.U, Pt.locs, Pt.cells, Pt.slots] at X23 l23 y23 z23 st23 hQ23
  subst l23 y23 z23
  obtain ⟨rfl, N23q, Kc23, P23_0, P23_1, P23_2, P23_3, P23_4, P23_5⟩ := hQ23
  have K23 : Keep h0 T23.heap [] := K14.trans Kc23 (allS (Or.inr sz_b8) all0)
  have N23 := Fr.app N14 N23q
  refine Go.tr st23 ?_
  show Go p e below _ (T23.setTop (mkF m 68 #[.val (.int p1), .val (.int p2), .val (.int p3), .val (.int p4), .val (.long q5), .second, .val (.int p6), .val (.int ((p1 &&& (7 : Int32)) + (1 : Int32))), .val (.int (((p1.toUInt32 >>> ((3 : Int32) &&& 31).toUInt32).toInt32) &&& (3 : Int32))), .val (.ref b7), .val (.ref b8), .val (.ref b12), .val (.ref w_SWAP), .unset, .unset] []))
  refine Go.st (fun _ kk => XS.aload X23.here hx rfl (hb hby at_68) rfl rfl  kk) ?_
  show Go p e below _ (T23.setTop (mkF m 70 #[.val (.int p1), .val (.int p2), .val (.int p3), .val (.int p4), .val (.long q5), .second, .val (.int p6), .val (.int ((p1 &&& (7 : Int32)) + (1 : Int32))), .val (.int (((p1.toUInt32 >>> ((3 : Int32) &&& 31).toUInt32).toInt32) &&& (3 : Int32))), .val (.ref b7), .val (.ref b8), .val (.ref b12), .val (.ref w_SWAP), .unset, .unset] [(.ref b8)]))
  obtain ⟨cq24, kq24, q24a, q24b, q24c⟩ := isOf hZ rfl P23_0
  obtain ⟨_, _, ⟨T24, L24, k24, n24⟩, -, X24, ⟨Lc24, hQ24, l24, y24, z24⟩, st24⟩ := X23.virtualBack hx (y := (⟨"com/example/tabulon/tabulon/game/State", "mover", "()I"⟩ : MethodName)) (z := (⟨"com/example/tabulon/tabulon/game/State", "mover", "()I"⟩ : MethodName)) hown (mvT hZ (hw _ (List.mem_of_getElem? (i := 77) rfl))) (mvT hZ (hw _ (List.mem_of_getElem? (i := 78) rfl))) (notFace_of_selects (args := #[]) (mvT hZ (hw _ (List.mem_of_getElem? (i := 80) rfl)))) (mvT hZ (hw _ (List.mem_of_getElem? (i := 80) rfl))) (mvT hZ (hw _ (List.mem_of_getElem? (i := 79) rfl))) (by decide) (backOf (W := 0) (rm9_o l Z a0 hw [] b8 p3 T23.heap n0 (Nat.le_trans Z0 K23.1) P23_3) hZ (hw _ (List.mem_of_getElem? (i := 81) rfl)) (hw _ (List.mem_of_getElem? (i := 3) rfl)) (by decide) (by decide)) q24a q24c (g := (mkF m 70 #[.val (.int p1), .val (.int p2), .val (.int p3), .val (.int p4), .val (.long q5), .second, .val (.int p6), .val (.int ((p1 &&& (7 : Int32)) + (1 : Int32))), .val (.int (((p1.toUInt32 >>> ((3 : Int32) &&& 31).toUInt32).toInt32) &&& (3 : Int32))), .val (.ref b7), .val (.ref b8), .val (.ref b12), .val (.ref w_SWAP), .unset, .unset] [(.ref b8)])) rfl (by rw [hml]; rfl) (Steps.refl _) (argsL := []) (rest := []) (lenOf pd_7 rfl) rfl (by show 2 * 0 + _ ≤ _; exact Nat.le_of_eq rfl) (hb hby at_70) (fun _ _ => ⟨rfl, rfl, (by decide : 7 + 0 ≤ _), (by decide : 47 + 0 ≤ _)⟩)
  dsimp only [Pt.U, Pt.locs, Pt.cells, Pt.slots] at X24 l24 y24 z24 st24 hQ24
  subst l24 y24 z24
  obtain ⟨rfl, N24q, eq24⟩ := hQ24
  have N24 := Fr.app N23 N24q
  refine Go.tr st24 ?_
  show Go p e below _ (T24.setTop (mkF m 73 #[.val (.int p1), .val (.int p2), .val (.int p3), .val (.int p4), .val (.long q5), .second, .val (.int p6), .val (.int ((p1 &&& (7 : Int32)) + (1 : Int32))), .val (.int (((p1.toUInt32 >>> ((3 : Int32) &&& 31).toUInt32).toInt32) &&& (3 : Int32))), .val (.ref b7), .val (.ref b8), .val (.ref b12), .val (.ref w_SWAP), .unset, .unset] [(.int p3)]))
  refine Go.st (fun _ kk => XS.iloadN X24.here hx rfl (hb hby at_73) rfl  kk) ?_
  show Go p e below _ (T24.setTop (mkF m 74 #[.val (.int p1), .val (.int p2), .val (.int p3), .val (.int p4), .val (.long q5), .second, .val (.int p6), .val (.int ((p1 &&& (7 : Int32)) + (1 : Int32))), .val (.int (((p1.toUInt32 >>> ((3 : Int32) &&& 31).toUInt32).toInt32) &&& (3 : Int32))), .val (.ref b7), .val (.ref b8), .val (.ref b12), .val (.ref w_SWAP), .unset, .unset] [(.int p3), (.int p3)]))
  refine Go.st (fun _ kk => XS.icmpNo X24.here hx rfl (hb hby at_74) rfl (teq (rfl : p3 = p3)).2 kk) ?_
  show Go p e below _ (T24.setTop (mkF m 77 #[.val (.int p1), .val (.int p2), .val (.int p3), .val (.int p4), .val (.long q5), .second, .val (.int p6), .val (.int ((p1 &&& (7 : Int32)) + (1 : Int32))), .val (.int (((p1.toUInt32 >>> ((3 : Int32) &&& 31).toUInt32).toInt32) &&& (3 : Int32))), .val (.ref b7), .val (.ref b8), .val (.ref b12), .val (.ref w_SWAP), .unset, .unset] []))
  refine Go.st (fun _ kk => XS.aload X24.here hx rfl (hb hby at_77) rfl rfl  kk) ?_
  show Go p e below _ (T24.setTop (mkF m 79 #[.val (.int p1), .val (.int p2), .val (.int p3), .val (.int p4), .val (.long q5), .second, .val (.int p6), .val (.int ((p1 &&& (7 : Int32)) + (1 : Int32))), .val (.int (((p1.toUInt32 >>> ((3 : Int32) &&& 31).toUInt32).toInt32) &&& (3 : Int32))), .val (.ref b7), .val (.ref b8), .val (.ref b12), .val (.ref w_SWAP), .unset, .unset] [(.ref b8)]))
  obtain ⟨cq25, kq25, q25a, q25b, q25c⟩ := isOf hZ eq24 P23_0
  obtain ⟨_, _, ⟨T25, L25, k25, n25⟩, -, X25, ⟨Lc25, hQ25, l25, y25, z25⟩, st25⟩ := X24.virtualBack hx (y := (⟨"com/example/tabulon/tabulon/game/State", "moves", "()I"⟩ : MethodName)) (z := (⟨"com/example/tabulon/tabulon/game/State", "moves", "()I"⟩ : MethodName)) hown (mvT hZ (hw _ (List.mem_of_getElem? (i := 82) rfl))) (mvT hZ (hw _ (List.mem_of_getElem? (i := 83) rfl))) (notFace_of_selects (args := #[]) (mvT hZ (hw _ (List.mem_of_getElem? (i := 85) rfl)))) (mvT hZ (hw _ (List.mem_of_getElem? (i := 85) rfl))) (mvT hZ (hw _ (List.mem_of_getElem? (i := 84) rfl))) (by decide) (backOf (W := 0) (rm10_o l Z a0 hw [] b8 ((0 : Int32) + (1 : Int32)) T23.heap n0 (Nat.le_trans Z0 K23.1) P23_4) hZ (hw _ (List.mem_of_getElem? (i := 86) rfl)) (hw _ (List.mem_of_getElem? (i := 3) rfl)) (by decide) (by decide)) q25a q25c (g := (mkF m 79 #[.val (.int p1), .val (.int p2), .val (.int p3), .val (.int p4), .val (.long q5), .second, .val (.int p6), .val (.int ((p1 &&& (7 : Int32)) + (1 : Int32))), .val (.int (((p1.toUInt32 >>> ((3 : Int32) &&& 31).toUInt32).toInt32) &&& (3 : Int32))), .val (.ref b7), .val (.ref b8), .val (.ref b12), .val (.ref w_SWAP), .unset, .unset] [(.ref b8)])) rfl (by rw [hml]; rfl) (Steps.refl _) (argsL := []) (rest := []) (lenOf pd_7 rfl) rfl (by show 2 * 0 + _ ≤ _; exact Nat.le_of_eq rfl) (hb hby at_79) (fun _ _ => ⟨rfl, eq24, (by decide : 7 + 0 ≤ _), (by decide : 47 + 0 ≤ _)⟩)
  dsimp only [Pt.U, Pt.locs, Pt.cells, Pt.slots] at X25 l25 y25 z25 st25 hQ25
  subst l25 y25 z25
  obtain ⟨rfl, N25q, eq25⟩ := hQ25
  have N25 := Fr.app N24 N25q
  refine Go.tr st25 ?_
  show Go p e below _ (T25.setTop (mkF m 82 #[.val (.int p1), .val (.int p2), .val (.int p3), .val (.int p4), .val (.long q5), .second, .val (.int p6), .val (.int ((p1 &&& (7 : Int32)) + (1 : Int32))), .val (.int (((p1.toUInt32 >>> ((3 : Int32) &&& 31).toUInt32).toInt32) &&& (3 : Int32))), .val (.ref b7), .val (.ref b8), .val (.ref b12), .val (.ref w_SWAP), .unset, .unset] [(.int ((0 : Int32) + (1 : Int32)))]))
  refine Go.st (fun _ kk => XS.iconst X25.here hx rfl (hb hby at_82) kk) ?_
  show Go p e below _ (T25.setTop (mkF m 83 #[.val (.int p1), .val (.int p2), .val (.int p3), .val (.int p4), .val (.long q5), .second, .val (.int p6), .val (.int ((p1 &&& (7 : Int32)) + (1 : Int32))), .val (.int (((p1.toUInt32 >>> ((3 : Int32) &&& 31).toUInt32).toInt32) &&& (3 : Int32))), .val (.ref b7), .val (.ref b8), .val (.ref b12), .val (.ref w_SWAP), .unset, .unset] [(.int (1 : Int32)), (.int ((0 : Int32) + (1 : Int32)))]))
  refine Go.st (fun _ kk => XS.icmpNo X25.here hx rfl (hb hby at_83) rfl (teq (by decide : (((0 : Int32) + (1 : Int32)) = (1 : Int32)))).2 kk) ?_
  show Go p e below _ (T25.setTop (mkF m 86 #[.val (.int p1), .val (.int p2), .val (.int p3), .val (.int p4), .val (.long q5), .second, .val (.int p6), .val (.int ((p1 &&& (7 : Int32)) + (1 : Int32))), .val (.int (((p1.toUInt32 >>> ((3 : Int32) &&& 31).toUInt32).toInt32) &&& (3 : Int32))), .val (.ref b7), .val (.ref b8), .val (.ref b12), .val (.ref w_SWAP), .unset, .unset] []))
  refine Go.st (fun _ kk => XS.iconst X25.here hx rfl (hb hby at_86) kk) ?_
  show Go p e below _ (T25.setTop (mkF m 87 #[.val (.int p1), .val (.int p2), .val (.int p3), .val (.int p4), .val (.long q5), .second, .val (.int p6), .val (.int ((p1 &&& (7 : Int32)) + (1 : Int32))), .val (.int (((p1.toUInt32 >>> ((3 : Int32) &&& 31).toUInt32).toInt32) &&& (3 : Int32))), .val (.ref b7), .val (.ref b8), .val (.ref b12), .val (.ref w_SWAP), .unset, .unset] [(.int (1 : Int32))]))
  refine Go.st (fun _ kk => XS.goto X25.here hx rfl (pc0 := 87) (pc' := 91) rfl (hb hby at_87) (by decide) (by decide) kk) ?_
  show Go p e below _ (T25.setTop (mkF m 91 #[.val (.int p1), .val (.int p2), .val (.int p3), .val (.int p4), .val (.long q5), .second, .val (.int p6), .val (.int ((p1 &&& (7 : Int32)) + (1 : Int32))), .val (.int (((p1.toUInt32 >>> ((3 : Int32) &&& 31).toUInt32).toInt32) &&& (3 : Int32))), .val (.ref b7), .val (.ref b8), .val (.ref b12), .val (.ref w_SWAP), .unset, .unset] [(.int (1 : Int32))]))
  refine Go.st (fun _ kk => XS.istore X25.here hx rfl (hb hby at_91) rfl (l' := #[.val (.int p1), .val (.int p2), .val (.int p3), .val (.int p4), .val (.long q5), .second, .val (.int p6), .val (.int ((p1 &&& (7 : Int32)) + (1 : Int32))), .val (.int (((p1.toUInt32 >>> ((3 : Int32) &&& 31).toUInt32).toInt32) &&& (3 : Int32))), .val (.ref b7), .val (.ref b8), .val (.ref b12), .val (.ref w_SWAP), .val (.int (1 : Int32)), .unset]) rfl kk) ?_
  show Go p e below _ (T25.setTop (mkF m 93 #[.val (.int p1), .val (.int p2), .val (.int p3), .val (.int p4), .val (.long q5), .second, .val (.int p6), .val (.int ((p1 &&& (7 : Int32)) + (1 : Int32))), .val (.int (((p1.toUInt32 >>> ((3 : Int32) &&& 31).toUInt32).toInt32) &&& (3 : Int32))), .val (.ref b7), .val (.ref b8), .val (.ref b12), .val (.ref w_SWAP), .val (.int (1 : Int32)), .unset] []))
  refine Go.st (fun _ kk => XS.aload X25.here hx rfl (hb hby at_93) rfl rfl  kk) ?_
  show Go p e below _ (T25.setTop (mkF m 95 #[.val (.int p1), .val (.int p2), .val (.int p3), .val (.int p4), .val (.long q5), .second, .val (.int p6), .val (.int ((p1 &&& (7 : Int32)) + (1 : Int32))), .val (.int (((p1.toUInt32 >>> ((3 : Int32) &&& 31).toUInt32).toInt32) &&& (3 : Int32))), .val (.ref b7), .val (.ref b8), .val (.ref b12), .val (.ref w_SWAP), .val (.int (1 : Int32)), .unset] [(.ref b8)]))
  refine Go.st (fun _ kk => XS.aload X25.here hx rfl (hb hby at_95) rfl rfl  kk) ?_
  show Go p e below _ (T25.setTop (mkF m 97 #[.val (.int p1), .val (.int p2), .val (.int p3), .val (.int p4), .val (.long q5), .second, .val (.int p6), .val (.int ((p1 &&& (7 : Int32)) + (1 : Int32))), .val (.int (((p1.toUInt32 >>> ((3 : Int32) &&& 31).toUInt32).toInt32) &&& (3 : Int32))), .val (.ref b7), .val (.ref b8), .val (.ref b12), .val (.ref w_SWAP), .val (.int (1 : Int32)), .unset] [(.ref w_SWAP), (.ref b8)]))
  refine Go.st (fun _ kk => XS.iloadN X25.here hx rfl (hb hby at_97) rfl  kk) ?_
  show Go p e below _ (T25.setTop (mkF m 98 #[.val (.int p1), .val (.int p2), .val (.int p3), .val (.int p4), .val (.long q5), .second, .val (.int p6), .val (.int ((p1 &&& (7 : Int32)) + (1 : Int32))), .val (.int (((p1.toUInt32 >>> ((3 : Int32) &&& 31).toUInt32).toInt32) &&& (3 : Int32))), .val (.ref b7), .val (.ref b8), .val (.ref b12), .val (.ref w_SWAP), .val (.int (1 : Int32)), .unset] [(.int p4), (.ref w_SWAP), (.ref b8)]))
  obtain ⟨cq26, kq26, q26a, q26b, q26c⟩ := isOf hZ eq25 P23_0
  obtain ⟨_, _, ⟨T26, L26, k26, n26⟩, -, X26, ⟨Lc26, hQ26, l26, y26, z26⟩, st26⟩ := X25.virtualBack hx (y := (⟨"com/example/tabulon/tabulon/game/State", "passTurn", "(Lcom/example/tabulon/tabulon/game/Move;I)V"⟩ : MethodName)) (z := (⟨"com/example/tabulon/tabulon/game/State", "passTurn", "(Lcom/example/tabulon/tabulon/game/Move;I)V"⟩ : MethodName)) hown (mvT hZ (hw _ (List.mem_of_getElem? (i := 66) rfl))) (mvT hZ (hw _ (List.mem_of_getElem? (i := 67) rfl))) (notFace_of_selects (args := #[]) (mvT hZ (hw _ (List.mem_of_getElem? (i := 69) rfl)))) (mvT hZ (hw _ (List.mem_of_getElem? (i := 69) rfl))) (mvT hZ (hw _ (List.mem_of_getElem? (i := 68) rfl))) (by decide) (backOf (W := 0) (rm8_o l Z a0 hw [] b8 w_SWAP p4 (.int (0 : Int32)) (.int p3) ((0 : Int32) + (1 : Int32)) b12 .null T23.heap n0 (Nat.le_trans Z0 K23.1) P23_2 P23_0 P23_3 g_b8 P23_4 P23_1 P23_5) hZ (hw _ (List.mem_of_getElem? (i := 70) rfl)) (hw _ (List.mem_of_getElem? (i := 3) rfl)) (by decide) (by decide)) q26a q26c (g := (mkF m 98 #[.val (.int p1), .val (.int p2), .val (.int p3), .val (.int p4), .val (.long q5), .second, .val (.int p6), .val (.int ((p1 &&& (7 : Int32)) + (1 : Int32))), .val (.int (((p1.toUInt32 >>> ((3 : Int32) &&& 31).toUInt32).toInt32) &&& (3 : Int32))), .val (.ref b7), .val (.ref b8), .val (.ref b12), .val (.ref w_SWAP), .val (.int (1 : Int32)), .unset] [(.int p4), (.ref w_SWAP), (.ref b8)])) rfl (by rw [hml]; rfl) (Steps.refl _) (argsL := [(.ref w_SWAP), (.int p4)]) (rest := []) (lenOf pd_6 rfl) rfl (by show 2 * 0 + _ ≤ _; exact Nat.le_of_eq rfl) (hb hby at_98) (fun _ _ => ⟨rfl, eq25, (by decide : 7 + 0 ≤ _), (by decide : 47 + 0 ≤ _)⟩)
  dsimp only [Pt.U, Pt.locs, Pt.cells, Pt.slots] at X26 l26 y26 z26 st26 hQ26
  subst l26 y26 z26
  obtain ⟨rfl, N26q, Kc26, P26_0, P26_1, P26_2, P26_3, P26_4, P26_5⟩ := hQ26
  have K26 : Keep h0 T26.heap [] := K23.trans Kc26 (allS (Or.inr sz_b8) all0)
  have N26 := Fr.app N25 N26q
  refine Go.tr st26 ?_
  show Go p e below _ (T26.setTop (mkF m 101 #[.val (.int p1), .val (.int p2), .val (.int p3), .val (.int p4), .val (.long q5), .second, .val (.int p6), .val (.int ((p1 &&& (7 : Int32)) + (1 : Int32))), .val (.int (((p1.toUInt32 >>> ((3 : Int32) &&& 31).toUInt32).toInt32) &&& (3 : Int32))), .val (.ref b7), .val (.ref b8), .val (.ref b12), .val (.ref w_SWAP), .val (.int (1 : Int32)), .unset] []))
  refine Go.st (fun _ kk => XS.aload X26.here hx rfl (hb hby at_101) rfl rfl  kk) ?_
  show Go p e below _ (T26.setTop (mkF m 103 #[.val (.int p1), .val (.int p2), .val (.int p3), .val (.int p4), .val (.long q5), .second, .val (.int p6), .val (.int ((p1 &&& (7 : Int32)) + (1 : Int32))), .val (.int (((p1.toUInt32 >>> ((3 : Int32) &&& 31).toUInt32).toInt32) &&& (3 : Int32))), .val (.ref b7), .val (.ref b8), .val (.ref b12), .val (.ref w_SWAP), .val (.int (1 : Int32)), .unset] [(.ref b8)]))
  obtain ⟨cq27, kq27, q27a, q27b, q27c⟩ := isOf hZ rfl P26_0
  obtain ⟨_, _, ⟨T27, L27, k27, n27⟩, -, X27, ⟨Lc27, hQ27, l27, y27, z27⟩, st27⟩ := X26.virtualBack hx (y := (⟨"com/example/tabulon/tabulon/game/State", "mover", "()I"⟩ : MethodName)) (z := (⟨"com/example/tabulon/tabulon/game/State", "mover", "()I"⟩ : MethodName)) hown (mvT hZ (hw _ (List.mem_of_getElem? (i := 77) rfl))) (mvT hZ (hw _ (List.mem_of_getElem? (i := 78) rfl))) (notFace_of_selects (args := #[]) (mvT hZ (hw _ (List.mem_of_getElem? (i := 80) rfl)))) (mvT hZ (hw _ (List.mem_of_getElem? (i := 80) rfl))) (mvT hZ (hw _ (List.mem_of_getElem? (i := 79) rfl))) (by decide) (backOf (W := 0) (rm9_o l Z a0 hw [] b8 p4 T26.heap n0 (Nat.le_trans Z0 K26.1) P26_2) hZ (hw _ (List.mem_of_getElem? (i := 81) rfl)) (hw _ (List.mem_of_getElem? (i := 3) rfl)) (by decide) (by decide)) q27a q27c (g := (mkF m 103 #[.val (.int p1), .val (.int p2), .val (.int p3), .val (.int p4), .val (.long q5), .second, .val (.int p6), .val (.int ((p1 &&& (7 : Int32)) + (1 : Int32))), .val (.int (((p1.toUInt32 >>> ((3 : Int32) &&& 31).toUInt32).toInt32) &&& (3 : Int32))), .val (.ref b7), .val (.ref b8), .val (.ref b12), .val (.ref w_SWAP), .val (.int (1 : Int32)), .unset] [(.ref b8)])) rfl (by rw [hml]; rfl) (Steps.refl _) (argsL := []) (rest := []) (lenOf pd_7 rfl) rfl (by show 2 * 0 + _ ≤ _; exact Nat.le_of_eq rfl) (hb hby at_103) (fun _ _ => ⟨rfl, rfl, (by decide : 7 + 0 ≤ _), (by decide : 47 + 0 ≤ _)⟩)
  dsimp only [Pt.U, Pt.locs, Pt.cells, Pt.slots] at X27 l27 y27 z27 st27 hQ27
  subst l27 y27 z27
  obtain ⟨rfl, N27q, eq27⟩ := hQ27
  have N27 := Fr.app N26 N27q
  refine Go.tr st27 ?_
  show Go p e below _ (T27.setTop (mkF m 106 #[.val (.int p1), .val (.int p2), .val (.int p3), .val (.int p4), .val (.long q5), .second, .val (.int p6), .val (.int ((p1 &&& (7 : Int32)) + (1 : Int32))), .val (.int (((p1.toUInt32 >>> ((3 : Int32) &&& 31).toUInt32).toInt32) &&& (3 : Int32))), .val (.ref b7), .val (.ref b8), .val (.ref b12), .val (.ref w_SWAP), .val (.int (1 : Int32)), .unset] [(.int p4)]))
  refine Go.st (fun _ kk => XS.iloadN X27.here hx rfl (hb hby at_106) rfl  kk) ?_
  show Go p e below _ (T27.setTop (mkF m 107 #[.val (.int p1), .val (.int p2), .val (.int p3), .val (.int p4), .val (.long q5), .second, .val (.int p6), .val (.int ((p1 &&& (7 : Int32)) + (1 : Int32))), .val (.int (((p1.toUInt32 >>> ((3 : Int32) &&& 31).toUInt32).toInt32) &&& (3 : Int32))), .val (.ref b7), .val (.ref b8), .val (.ref b12), .val (.ref w_SWAP), .val (.int (1 : Int32)), .unset] [(.int p4), (.int p4)]))
  refine Go.st (fun _ kk => XS.icmpNo X27.here hx rfl (hb hby at_107) rfl (teq (rfl : p4 = p4)).2 kk) ?_
  show Go p e below _ (T27.setTop (mkF m 110 #[.val (.int p1), .val (.int p2), .val (.int p3), .val (.int p4), .val (.long q5), .second, .val (.int p6), .val (.int ((p1 &&& (7 : Int32)) + (1 : Int32))), .val (.int (((p1.toUInt32 >>> ((3 : Int32) &&& 31).toUInt32).toInt32) &&& (3 : Int32))), .val (.ref b7), .val (.ref b8), .val (.ref b12), .val (.ref w_SWAP), .val (.int (1 : Int32)), .unset] []))
  refine Go.st (fun _ kk => XS.aload X27.here hx rfl (hb hby at_110) rfl rfl  kk) ?_
  show Go p e below _ (T27.setTop (mkF m 112 #[.val (.int p1), .val (.int p2), .val (.int p3), .val (.int p4), .val (.long q5), .second, .val (.int p6), .val (.int ((p1 &&& (7 : Int32)) + (1 : Int32))), .val (.int (((p1.toUInt32 >>> ((3 : Int32) &&& 31).toUInt32).toInt32) &&& (3 : Int32))), .val (.ref b7), .val (.ref b8), .val (.ref b12), .val (.ref w_SWAP), .val (.int (1 : Int32)), .unset] [(.ref b8)]))
  obtain ⟨cq28, kq28, q28a, q28b, q28c⟩ := isOf hZ eq27 P26_0
  obtain ⟨_, _, ⟨T28, L28, k28, n28⟩, -, X28, ⟨Lc28, hQ28, l28, y28, z28⟩, st28⟩ := X27.virtualBack hx (y := (⟨"com/example/tabulon/tabulon/game/State", "moves", "()I"⟩ : MethodName)) (z := (⟨"com/example/tabulon/tabulon/game/State", "moves", "()I"⟩ : MethodName)) hown (mvT hZ (hw _ (List.mem_of_getElem? (i := 82) rfl))) (mvT hZ (hw _ (List.mem_of_getElem? (i := 83) rfl))) (notFace_of_selects (args := #[]) (mvT hZ (hw _ (List.mem_of_getElem? (i := 85) rfl)))) (mvT hZ (hw _ (List.mem_of_getElem? (i := 85) rfl))) (mvT hZ (hw _ (List.mem_of_getElem? (i := 84) rfl))) (by decide) (backOf (W := 0) (rm10_o l Z a0 hw [] b8 (((0 : Int32) + (1 : Int32)) + (1 : Int32)) T26.heap n0 (Nat.le_trans Z0 K26.1) P26_3) hZ (hw _ (List.mem_of_getElem? (i := 86) rfl)) (hw _ (List.mem_of_getElem? (i := 3) rfl)) (by decide) (by decide)) q28a q28c (g := (mkF m 112 #[.val (.int p1), .val (.int p2), .val (.int p3), .val (.int p4), .val (.long q5), .second, .val (.int p6), .val (.int ((p1 &&& (7 : Int32)) + (1 : Int32))), .val (.int (((p1.toUInt32 >>> ((3 : Int32) &&& 31).toUInt32).toInt32) &&& (3 : Int32))), .val (.ref b7), .val (.ref b8), .val (.ref b12), .val (.ref w_SWAP), .val (.int (1 : Int32)), .unset] [(.ref b8)])) rfl (by rw [hml]; rfl) (Steps.refl _) (argsL := []) (rest := []) (lenOf pd_7 rfl) rfl (by show 2 * 0 + _ ≤ _; exact Nat.le_of_eq rfl) (hb hby at_112) (fun _ _ => ⟨rfl, eq27, (by decide : 7 + 0 ≤ _), (by decide : 47 + 0 ≤ _)⟩)
  dsimp only [Pt.U, Pt.locs, Pt.cells, Pt.slots] at X28 l28 y28 z28 st28 hQ28
  subst l28 y28 z28
  obtain ⟨rfl, N28q, eq28⟩ := hQ28
  have N28 := Fr.app N27 N28q
  refine Go.tr st28 ?_
  show Go p e below _ (T28.setTop (mkF m 115 #[.val (.int p1), .val (.int p2), .val (.int p3), .val (.int p4), .val (.long q5), .second, .val (.int p6), .val (.int ((p1 &&& (7 : Int32)) + (1 : Int32))), .val (.int (((p1.toUInt32 >>> ((3 : Int32) &&& 31).toUInt32).toInt32) &&& (3 : Int32))), .val (.ref b7), .val (.ref b8), .val (.ref b12), .val (.ref w_SWAP), .val (.int (1 : Int32)), .unset] [(.int (((0 : Int32) + (1 : Int32)) + (1 : Int32)))]))
  refine Go.st (fun _ kk => XS.iconst X28.here hx rfl (hb hby at_115) kk) ?_
  show Go p e below _ (T28.setTop (mkF m 116 #[.val (.int p1), .val (.int p2), .val (.int p3), .val (.int p4), .val (.long q5), .second, .val (.int p6), .val (.int ((p1 &&& (7 : Int32)) + (1 : Int32))), .val (.int (((p1.toUInt32 >>> ((3 : Int32) &&& 31).toUInt32).toInt32) &&& (3 : Int32))), .val (.ref b7), .val (.ref b8), .val (.ref b12), .val (.ref w_SWAP), .val (.int (1 : Int32)), .unset] [(.int (2 : Int32)), (.int (((0 : Int32) + (1 : Int32)) + (1 : Int32)))]))
  refine Go.st (fun _ kk => XS.icmpNo X28.here hx rfl (hb hby at_116) rfl (teq (by decide : ((((0 : Int32) + (1 : Int32)) + (1 : Int32)) = (2 : Int32)))).2 kk) ?_
  show Go p e below _ (T28.setTop (mkF m 119 #[.val (.int p1), .val (.int p2), .val (.int p3), .val (.int p4), .val (.long q5), .second, .val (.int p6), .val (.int ((p1 &&& (7 : Int32)) + (1 : Int32))), .val (.int (((p1.toUInt32 >>> ((3 : Int32) &&& 31).toUInt32).toInt32) &&& (3 : Int32))), .val (.ref b7), .val (.ref b8), .val (.ref b12), .val (.ref w_SWAP), .val (.int (1 : Int32)), .unset] []))
  refine Go.st (fun _ kk => XS.aload X28.here hx rfl (hb hby at_119) rfl rfl  kk) ?_
  show Go p e below _ (T28.setTop (mkF m 121 #[.val (.int p1), .val (.int p2), .val (.int p3), .val (.int p4), .val (.long q5), .second, .val (.int p6), .val (.int ((p1 &&& (7 : Int32)) + (1 : Int32))), .val (.int (((p1.toUInt32 >>> ((3 : Int32) &&& 31).toUInt32).toInt32) &&& (3 : Int32))), .val (.ref b7), .val (.ref b8), .val (.ref b12), .val (.ref w_SWAP), .val (.int (1 : Int32)), .unset] [(.ref b8)]))
  obtain ⟨cq29, kq29, q29a, q29b, q29c⟩ := isOf hZ eq28 P26_0
  obtain ⟨_, _, ⟨T29, L29, k29, n29⟩, -, X29, ⟨Lc29, hQ29, l29, y29, z29⟩, st29⟩ := X28.virtualBack hx (y := (⟨"com/example/tabulon/tabulon/game/State", "lastMove", "()Lcom/example/tabulon/tabulon/game/Move;"⟩ : MethodName)) (z := (⟨"com/example/tabulon/tabulon/game/State", "lastMove", "()Lcom/example/tabulon/tabulon/game/Move;"⟩ : MethodName)) hown (mvT hZ (hw _ (List.mem_of_getElem? (i := 87) rfl))) (mvT hZ (hw _ (List.mem_of_getElem? (i := 88) rfl))) (notFace_of_selects (args := #[]) (mvT hZ (hw _ (List.mem_of_getElem? (i := 90) rfl)))) (mvT hZ (hw _ (List.mem_of_getElem? (i := 90) rfl))) (mvT hZ (hw _ (List.mem_of_getElem? (i := 89) rfl))) (by decide) (backOf (W := 0) (rm11_o l Z a0 hw [] b8 w_SWAP T26.heap n0 (Nat.le_trans Z0 K26.1) P26_4) hZ (hw _ (List.mem_of_getElem? (i := 91) rfl)) (hw _ (List.mem_of_getElem? (i := 3) rfl)) (by decide) (by decide)) q29a q29c (g := (mkF m 121 #[.val (.int p1), .val (.int p2), .val (.int p3), .val (.int p4), .val (.long q5), .second, .val (.int p6), .val (.int ((p1 &&& (7 : Int32)) + (1 : Int32))), .val (.int (((p1.toUInt32 >>> ((3 : Int32) &&& 31).toUInt32).toInt32) &&& (3 : Int32))), .val (.ref b7), .val (.ref b8), .val (.ref b12), .val (.ref w_SWAP), .val (.int (1 : Int32)), .unset] [(.ref b8)])) rfl (by rw [hml]; rfl) (Steps.refl _) (argsL := []) (rest := []) (lenOf pd_8 rfl) rfl (by show 2 * 0 + _ ≤ _; exact Nat.le_of_eq rfl) (hb hby at_121) (fun _ _ => ⟨rfl, eq28, (by decide : 7 + 0 ≤ _), (by decide : 47 + 0 ≤ _)⟩)
  dsimp only [Pt.U, Pt.locs, Pt.cells, Pt.slots] at X29 l29 y29 z29 st29 hQ29
  subst l29 y29 z29
  obtain ⟨rfl, N29q, eq29⟩ := hQ29
  have N29 := Fr.app N28 N29q
  refine Go.tr st29 ?_
  show Go p e below _ (T29.setTop (mkF m 124 #[.val (.int p1), .val (.int p2), .val (.int p3), .val (.int p4), .val (.long q5), .second, .val (.int p6), .val (.int ((p1 &&& (7 : Int32)) + (1 : Int32))), .val (.int (((p1.toUInt32 >>> ((3 : Int32) &&& 31).toUInt32).toInt32) &&& (3 : Int32))), .val (.ref b7), .val (.ref b8), .val (.ref b12), .val (.ref w_SWAP), .val (.int (1 : Int32)), .unset] [(.ref w_SWAP)]))
  refine Go.st (fun _ kk => XS.aload X29.here hx rfl (hb hby at_124) rfl rfl  kk) ?_
  show Go p e below _ (T29.setTop (mkF m 126 #[.val (.int p1), .val (.int p2), .val (.int p3), .val (.int p4), .val (.long q5), .second, .val (.int p6), .val (.int ((p1 &&& (7 : Int32)) + (1 : Int32))), .val (.int (((p1.toUInt32 >>> ((3 : Int32) &&& 31).toUInt32).toInt32) &&& (3 : Int32))), .val (.ref b7), .val (.ref b8), .val (.ref b12), .val (.ref w_SWAP), .val (.int (1 : Int32)), .unset] [(.ref w_SWAP), (.ref w_SWAP)]))
  refine Go.st (fun _ kk => Jvm.RoadKit.acmp (g := (mkF m 126 #[.val (.int p1), .val (.int p2), .val (.int p3), .val (.int p4), .val (.long q5), .second, .val (.int p6), .val (.int ((p1 &&& (7 : Int32)) + (1 : Int32))), .val (.int (((p1.toUInt32 >>> ((3 : Int32) &&& 31).toUInt32).toInt32) &&& (3 : Int32))), .val (.ref b7), .val (.ref b8), .val (.ref b12), .val (.ref w_SWAP), .val (.int (1 : Int32)), .unset] [(.ref w_SWAP), (.ref w_SWAP)])) X29 hx rfl rfl rfl (pc0 := 126) (pc' := 129) (same := true) rfl (hb hby at_126) rfl (decide_eq_true (congrArg Value.ref (rfl : w_SWAP = w_SWAP))) (by decide) (by decide) kk) ?_
  show Go p e below _ (T29.setTop (mkF m 129 #[.val (.int p1), .val (.int p2), .val (.int p3), .val (.int p4), .val (.long q5), .second, .val (.int p6), .val (.int ((p1 &&& (7 : Int32)) + (1 : Int32))), .val (.int (((p1.toUInt32 >>> ((3 : Int32) &&& 31).toUInt32).toInt32) &&& (3 : Int32))), .val (.ref b7), .val (.ref b8), .val (.ref b12), .val (.ref w_SWAP), .val (.int (1 : Int32)), .unset] []))
  refine Go.st (fun _ kk => XS.aload X29.here hx rfl (hb hby at_129) rfl rfl  kk) ?_
  show Go p e below _ (T29.setTop (mkF m 131 #[.val (.int p1), .val (.int p2), .val (.int p3), .val (.int p4), .val (.long q5), .second, .val (.int p6), .val (.int ((p1 &&& (7 : Int32)) + (1 : Int32))), .val (.int (((p1.toUInt32 >>> ((3 : Int32) &&& 31).toUInt32).toInt32) &&& (3 : Int32))), .val (.ref b7), .val (.ref b8), .val (.ref b12), .val (.ref w_SWAP), .val (.int (1 : Int32)), .unset] [(.ref b8)]))
  obtain ⟨cq30, kq30, q30a, q30b, q30c⟩ := isOf hZ eq29 P26_0
  obtain ⟨_, _, ⟨T30, L30, k30, n30⟩, -, X30, ⟨Lc30, hQ30, l30, y30, z30⟩, st30⟩ := X29.virtualBack hx (y := (⟨"com/example/tabulon/tabulon/game/State", "moveBeforeLast", "()Lcom/example/tabulon/tabulon/game/Move;"⟩ : MethodName)) (z := (⟨"com/example/tabulon/tabulon/game/State", "moveBeforeLast", "()Lcom/example/tabulon/tabulon/game/Move;"⟩ : MethodName)) hown (mvT hZ (hw _ (List.mem_of_getElem? (i := 92) rfl))) (mvT hZ (hw _ (List.mem_of_getElem? (i := 93) rfl))) (notFace_of_selects (args := #[]) (mvT hZ (hw _ (List.mem_of_getElem? (i := 95) rfl)))) (mvT hZ (hw _ (List.mem_of_getElem? (i := 95) rfl))) (mvT hZ (hw _ (List.mem_of_getElem? (i := 94) rfl))) (by decide) (backOf (W := 0) (rm12_o l Z a0 hw [] b8 b12 T26.heap n0 (Nat.le_trans Z0 K26.1) P26_5) hZ (hw _ (List.mem_of_getElem? (i := 96) rfl)) (hw _ (List.mem_of_getElem? (i := 3) rfl)) (by decide) (by decide)) q30a q30c (g := (mkF m 131 #[.val (.int p1), .val (.int p2), .val (.int p3), .val (.int p4), .val (.long q5), .second, .val (.int p6), .val (.int ((p1 &&& (7 : Int32)) + (1 : Int32))), .val (.int (((p1.toUInt32 >>> ((3 : Int32) &&& 31).toUInt32).toInt32) &&& (3 : Int32))), .val (.ref b7), .val (.ref b8), .val (.ref b12), .val (.ref w_SWAP), .val (.int (1 : Int32)), .unset] [(.ref b8)])) rfl (by rw [hml]; rfl) (Steps.refl _) (argsL := []) (rest := []) (lenOf pd_8 rfl) rfl (by show 2 * 0 + _ ≤ _; exact Nat.le_of_eq rfl) (hb hby at_131) (fun _ _ => ⟨rfl, eq29, (by decide : 7 + 0 ≤ _), (by decide : 47 + 0 ≤ _)⟩)
  dsimp only [Pt.U, Pt.locs, Pt.cells, Pt.slots] at X30 l30 y30 z30 st30 hQ30
  subst l30 y30 z30
  obtain ⟨rfl, N30q, eq30⟩ := hQ30
  have N30 := Fr.app N29 N30q
  refine Go.tr st30 ?_
  show Go p e below _ (T30.setTop (mkF m 134 #[.val (.int p1), .val (.int p2), .val (.int p3), .val (.int p4), .val (.long q5), .second, .val (.int p6), .val (.int ((p1 &&& (7 : Int32)) + (1 : Int32))), .val (.int (((p1.toUInt32 >>> ((3 : Int32) &&& 31).toUInt32).toInt32) &&& (3 : Int32))), .val (.ref b7), .val (.ref b8), .val (.ref b12), .val (.ref w_SWAP), .val (.int (1 : Int32)), .unset] [(.ref b12)]))
  refine Go.st (fun _ kk => XS.aload X30.here hx rfl (hb hby at_134) rfl rfl  kk) ?_
  show Go p e below _ (T30.setTop (mkF m 136 #[.val (.int p1), .val (.int p2), .val (.int p3), .val (.int p4), .val (.long q5), .second, .val (.int p6), .val (.int ((p1 &&& (7 : Int32)) + (1 : Int32))), .val (.int (((p1.toUInt32 >>> ((3 : Int32) &&& 31).toUInt32).toInt32) &&& (3 : Int32))), .val (.ref b7), .val (.ref b8), .val (.ref b12), .val (.ref w_SWAP), .val (.int (1 : Int32)), .unset] [(.ref b12), (.ref b12)]))
  refine Go.st (fun _ kk => Jvm.RoadKit.acmp (g := (mkF m 136 #[.val (.int p1), .val (.int p2), .val (.int p3), .val (.int p4), .val (.long q5), .second, .val (.int p6), .val (.int ((p1 &&& (7 : Int32)) + (1 : Int32))), .val (.int (((p1.toUInt32 >>> ((3 : Int32) &&& 31).toUInt32).toInt32) &&& (3 : Int32))), .val (.ref b7), .val (.ref b8), .val (.ref b12), .val (.ref w_SWAP), .val (.int (1 : Int32)), .unset] [(.ref b12), (.ref b12)])) X30 hx rfl rfl rfl (pc0 := 136) (pc' := 139) (same := true) rfl (hb hby at_136) rfl (decide_eq_true (congrArg Value.ref (rfl : b12 = b12))) (by decide) (by decide) kk) ?_
  show Go p e below _ (T30.setTop (mkF m 139 #[.val (.int p1), .val (.int p2), .val (.int p3), .val (.int p4), .val (.long q5), .second, .val (.int p6), .val (.int ((p1 &&& (7 : Int32)) + (1 : Int32))), .val (.int (((p1.toUInt32 >>> ((3 : Int32) &&& 31).toUInt32).toInt32) &&& (3 : Int32))), .val (.ref b7), .val (.ref b8), .val (.ref b12), .val (.ref w_SWAP), .val (.int (1 : Int32)), .unset] []))
  refine Go.st (fun _ kk => XS.aload X30.here hx rfl (hb hby at_139) rfl rfl  kk) ?_
  show Go p e below _ (T30.setTop (mkF m 141 #[.val (.int p1), .val (.int p2), .val (.int p3), .val (.int p4), .val (.long q5), .second, .val (.int p6), .val (.int ((p1 &&& (7 : Int32)) + (1 : Int32))), .val (.int (((p1.toUInt32 >>> ((3 : Int32) &&& 31).toUInt32).toInt32) &&& (3 : Int32))), .val (.ref b7), .val (.ref b8), .val (.ref b12), .val (.ref w_SWAP), .val (.int (1 : Int32)), .unset] [(.ref b8)]))
  obtain ⟨cq31, kq31, q31a, q31b, q31c⟩ := isOf hZ eq30 P26_0
  obtain ⟨_, _, ⟨T31, L31, k31, n31⟩, -, X31, ⟨Lc31, hQ31, l31, y31, z31⟩, st31⟩ := X30.virtualBack hx (y := (⟨"com/example/tabulon/tabulon/game/State", "swapped", "()Z"⟩ : MethodName)) (z := (⟨"com/example/tabulon/tabulon/game/State", "swapped", "()Z"⟩ : MethodName)) hown (mvT hZ (hw _ (List.mem_of_getElem? (i := 97) rfl))) (mvT hZ (hw _ (List.mem_of_getElem? (i := 98) rfl))) (notFace_of_selects (args := #[]) (mvT hZ (hw _ (List.mem_of_getElem? (i := 100) rfl)))) (mvT hZ (hw _ (List.mem_of_getElem? (i := 100) rfl))) (mvT hZ (hw _ (List.mem_of_getElem? (i := 99) rfl))) (by decide) (backOf (W := 0) (rm13_o l Z a0 hw [] b8 (0 : Int32) T26.heap n0 (Nat.le_trans Z0 K26.1) P26_1) hZ (hw _ (List.mem_of_getElem? (i := 101) rfl)) (hw _ (List.mem_of_getElem? (i := 3) rfl)) (by decide) (by decide)) q31a q31c (g := (mkF m 141 #[.val (.int p1), .val (.int p2), .val (.int p3), .val (.int p4), .val (.long q5), .second, .val (.int p6), .val (.int ((p1 &&& (7 : Int32)) + (1 : Int32))), .val (.int (((p1.toUInt32 >>> ((3 : Int32) &&& 31).toUInt32).toInt32) &&& (3 : Int32))), .val (.ref b7), .val (.ref b8), .val (.ref b12), .val (.ref w_SWAP), .val (.int (1 : Int32)), .unset] [(.ref b8)])) rfl (by rw [hml]; rfl) (Steps.refl _) (argsL := []) (rest := []) (lenOf pd_9 rfl) rfl (by show 2 * 0 + _ ≤ _; exact Nat.le_of_eq rfl) (hb hby at_141) (fun _ _ => ⟨rfl, eq30, (by decide : 7 + 0 ≤ _), (by decide : 47 + 0 ≤ _)⟩)
  dsimp only [Pt.U, Pt.locs, Pt.cells, Pt.slots] at X31 l31 y31 z31 st31 hQ31
  subst l31 y31 z31
  obtain ⟨rfl, N31q, eq31⟩ := hQ31
  have N31 := Fr.app N30 N31q
  refine Go.tr st31 ?_
  show Go p e below _ (T31.setTop (mkF m 144 #[.val (.int p1), .val (.int p2), .val (.int p3), .val (.int p4), .val (.long q5), .second, .val (.int p6), .val (.int ((p1 &&& (7 : Int32)) + (1 : Int32))), .val (.int (((p1.toUInt32 >>> ((3 : Int32) &&& 31).toUInt32).toInt32) &&& (3 : Int32))), .val (.ref b7), .val (.ref b8), .val (.ref b12), .val (.ref w_SWAP), .val (.int (1 : Int32)), .unset] [(.int (nar .boolean (0 : Int32)))]))
  refine Go.st (fun _ kk => XS.ifNo X31.here hx rfl (hb hby at_144) rfl ((if0 _ _).trans (teq (by decide : ((nar .boolean (0 : Int32)) = (0 : Int32)))).2) kk) ?_
  show Go p e below _ (T31.setTop (mkF m 147 #[.val (.int p1), .val (.int p2), .val (.int p3), .val (.int p4), .val (.long q5), .second, .val (.int p6), .val (.int ((p1 &&& (7 : Int32)) + (1 : Int32))), .val (.int (((p1.toUInt32 >>> ((3 : Int32) &&& 31).toUInt32).toInt32) &&& (3 : Int32))), .val (.ref b7), .val (.ref b8), .val (.ref b12), .val (.ref w_SWAP), .val (.int (1 : Int32)), .unset] []))
  refine Go.st (fun _ kk => XS.iconst X31.here hx rfl (hb hby at_147) kk) ?_
  show Go p e below _ (T31.setTop (mkF m 148 #[.val (.int p1), .val (.int p2), .val (.int p3), .val (.int p4), .val (.long q5), .second, .val (.int p6), .val (.int ((p1 &&& (7 : Int32)) + (1 : Int32))), .val (.int (((p1.toUInt32 >>> ((3 : Int32) &&& 31).toUInt32).toInt32) &&& (3 : Int32))), .val (.ref b7), .val (.ref b8), .val (.ref b12), .val (.ref w_SWAP), .val (.int (1 : Int32)), .unset] [(.int (1 : Int32))]))
  refine Go.st (fun _ kk => XS.goto X31.here hx rfl (pc0 := 148) (pc' := 152) rfl (hb hby at_148) (by decide) (by decide) kk) ?_
  show Go p e below _ (T31.setTop (mkF m 152 #[.val (.int p1), .val (.int p2), .val (.int p3), .val (.int p4), .val (.long q5), .second, .val (.int p6), .val (.int ((p1 &&& (7 : Int32)) + (1 : Int32))), .val (.int (((p1.toUInt32 >>> ((3 : Int32) &&& 31).toUInt32).toInt32) &&& (3 : Int32))), .val (.ref b7), .val (.ref b8), .val (.ref b12), .val (.ref w_SWAP), .val (.int (1 : Int32)), .unset] [(.int (1 : Int32))]))
  refine Go.st (fun _ kk => XS.istore X31.here hx rfl (hb hby at_152) rfl (l' := #[.val (.int p1), .val (.int p2), .val (.int p3), .val (.int p4), .val (.long q5), .second, .val (.int p6), .val (.int ((p1 &&& (7 : Int32)) + (1 : Int32))), .val (.int (((p1.toUInt32 >>> ((3 : Int32) &&& 31).toUInt32).toInt32) &&& (3 : Int32))), .val (.ref b7), .val (.ref b8), .val (.ref b12), .val (.ref w_SWAP), .val (.int (1 : Int32)), .val (.int (1 : Int32))]) rfl kk) ?_
  show Go p e below _ (T31.setTop (mkF m 154 #[.val (.int p1), .val (.int p2), .val (.int p3), .val (.int p4), .val (.long q5), .second, .val (.int p6), .val (.int ((p1 &&& (7 : Int32)) + (1 : Int32))), .val (.int (((p1.toUInt32 >>> ((3 : Int32) &&& 31).toUInt32).toInt32) &&& (3 : Int32))), .val (.ref b7), .val (.ref b8), .val (.ref b12), .val (.ref w_SWAP), .val (.int (1 : Int32)), .val (.int (1 : Int32))] []))
  refine Go.st (fun _ kk => XS.iload X31.here hx rfl (hb hby at_154) rfl  kk) ?_
  show Go p e below _ (T31.setTop (mkF m 156 #[.val (.int p1), .val (.int p2), .val (.int p3), .val (.int p4), .val (.long q5), .second, .val (.int p6), .val (.int ((p1 &&& (7 : Int32)) + (1 : Int32))), .val (.int (((p1.toUInt32 >>> ((3 : Int32) &&& 31).toUInt32).toInt32) &&& (3 : Int32))), .val (.ref b7), .val (.ref b8), .val (.ref b12), .val (.ref w_SWAP), .val (.int (1 : Int32)), .val (.int (1 : Int32))] [(.int (1 : Int32))]))
  refine Go.st (fun _ kk => XS.ifNo X31.here hx rfl (hb hby at_156) rfl ((if0 _ _).trans (feq (by decide : ¬ ((1 : Int32) = (0 : Int32)))).1) kk) ?_
  show Go p e below _ (T31.setTop (mkF m 159 #[.val (.int p1), .val (.int p2), .val (.int p3), .val (.int p4), .val (.long q5), .second, .val (.int p6), .val (.int ((p1 &&& (7 : Int32)) + (1 : Int32))), .val (.int (((p1.toUInt32 >>> ((3 : Int32) &&& 31).toUInt32).toInt32) &&& (3 : Int32))), .val (.ref b7), .val (.ref b8), .val (.ref b12), .val (.ref w_SWAP), .val (.int (1 : Int32)), .val (.int (1 : Int32))] []))
  refine Go.st (fun _ kk => XS.iload X31.here hx rfl (hb hby at_159) rfl  kk) ?_
  show Go p e below _ (T31.setTop (mkF m 161 #[.val (.int p1), .val (.int p2), .val (.int p3), .val (.int p4), .val (.long q5), .second, .val (.int p6), .val (.int ((p1 &&& (7 : Int32)) + (1 : Int32))), .val (.int (((p1.toUInt32 >>> ((3 : Int32) &&& 31).toUInt32).toInt32) &&& (3 : Int32))), .val (.ref b7), .val (.ref b8), .val (.ref b12), .val (.ref w_SWAP), .val (.int (1 : Int32)), .val (.int (1 : Int32))] [(.int (1 : Int32))]))
  refine Go.st (fun _ kk => XS.ifNo X31.here hx rfl (hb hby at_161) rfl ((if0 _ _).trans (feq (by decide : ¬ ((1 : Int32) = (0 : Int32)))).1) kk) ?_
  show Go p e below _ (T31.setTop (mkF m 164 #[.val (.int p1), .val (.int p2), .val (.int p3), .val (.int p4), .val (.long q5), .second, .val (.int p6), .val (.int ((p1 &&& (7 : Int32)) + (1 : Int32))), .val (.int (((p1.toUInt32 >>> ((3 : Int32) &&& 31).toUInt32).toInt32) &&& (3 : Int32))), .val (.ref b7), .val (.ref b8), .val (.ref b12), .val (.ref w_SWAP), .val (.int (1 : Int32)), .val (.int (1 : Int32))] []))
  refine Go.st (fun _ kk => XS.iconst X31.here hx rfl (hb hby at_164) kk) ?_
  show Go p e below _ (T31.setTop (mkF m 165 #[.val (.int p1), .val (.int p2), .val (.int p3), .val (.int p4), .val (.long q5), .second, .val (.int p6), .val (.int ((p1 &&& (7 : Int32)) + (1 : Int32))), .val (.int (((p1.toUInt32 >>> ((3 : Int32) &&& 31).toUInt32).toInt32) &&& (3 : Int32))), .val (.ref b7), .val (.ref b8), .val (.ref b12), .val (.ref w_SWAP), .val (.int (1 : Int32)), .val (.int (1 : Int32))] [(.int (1 : Int32))]))
  refine Go.st (fun _ kk => XS.goto X31.here hx rfl (pc0 := 165) (pc' := 169) rfl (hb hby at_165) (by decide) (by decide) kk) ?_
  show Go p e below _ (T31.setTop (mkF m 169 #[.val (.int p1), .val (.int p2), .val (.int p3), .val (.int p4), .val (.long q5), .second, .val (.int p6), .val (.int ((p1 &&& (7 : Int32)) + (1 : Int32))), .val (.int (((p1.toUInt32 >>> ((3 : Int32) &&& 31).toUInt32).toInt32) &&& (3 : Int32))), .val (.ref b7), .val (.ref b8), .val (.ref b12), .val (.ref w_SWAP), .val (.int (1 : Int32)), .val (.int (1 : Int32))] [(.int (1 : Int32))]))
  exact Go.ret (Q := Q0 n0) X31 (v := some (.int (1 : Int32))) (fun h => by rw [Bd.returns] at h; cases h) Bd.notSynchronized (fun fs hr => retN X31 hx (t := .boolean) Bd.returns (by simp) (hb hby at_169) hr) eq31 ⟨rfl, N31⟩ (by decide) (by decide)
set_option maxRecDepth 65536 in
set_option maxHeartbeats 40000000 in
theorem comes_1 {Post : Tables → Env → Array Value → State → Outcome → State → Prop} (hpost : ∀ tb e args s v u, (limb_1_1.after args s (.returned v) u = true ∧ limb_1_2.after args s (.returned v) u = true ∧ True) → FrameEnd s (.returned v) u (Jvm.fieldLocs frame_1_writes args s ++ Jvm.arrayLocs frame_1_arrays args s ++ Jvm.staticLocs frame_1_statics s) 24 192 → Post tb e args s (.returned v) u) :
    ArmFor flags0 classFile x code maxLocals ret World_1 tables_1 room_1 Calls_1 rest_1 Pre_1 Post := by
  intro l hfl _ _ p e ha hc hk s m args below hf hA hF happ hP
  obtain ⟨hcalls, hrest, hpre⟩ := hP
  obtain ⟨-, -, -, hnamed, -, -, -, hat⟩ := (Spec.applies_iff hf).mp happ
  obtain ⟨hg, hn⟩ := and_e (Cond.before_iff.mp (show (Jvm.Cond.and given_1 narrow_1).before args s = true from hpre))
  obtain ⟨hcount, hg⟩ := and_e hg
  obtain ⟨hg0, hg⟩ := and_e hg
  obtain ⟨hg1, hg⟩ := and_e hg
  obtain ⟨hg2, hg⟩ := and_e hg
  obtain ⟨hg3, hg⟩ := and_e hg
  obtain ⟨hg4, hg⟩ := and_e hg
  have hg5 := hg
  obtain ⟨w0, w1, w2, w3, w4, w5, rfl⟩ : ∃ w0 w1 w2 w3 w4 w5 : Value, args = #[w0, w1, w2, w3, w4, w5] := by
    have hs : args.size = 6 := by simpa [Cond.value, given_1] using hcount
    obtain ⟨L⟩ := args
    match L, hs with
    | [w0, w1, w2, w3, w4, w5], _ => exact ⟨w0, w1, w2, w3, w4, w5, rfl⟩
  have hw := fun d (hd : d ∈ tables_1) => atoms_spec (ws := Jvm.Cond.code x code maxLocals ret :: tables_1) hat d (List.mem_cons_of_mem _ hd)
  have hfit : Fit s := fun {y c} hc i hi => by
    obtain ⟨ha, rfl⟩ := Array.getElem?_eq_some_iff.mp hc
    have q := List.all_eq_true.mp ((Array.all_eq_true_iff_forall_mem.mp hF) _ (Array.getElem_mem ha)) i (List.mem_range.mpr hi)
    simpa [Array.getElem?_eq_getElem hi] using q
  obtain ⟨i0, ei0⟩ := is_v hg0
  obtain rfl : w0 = (.int i0) := Option.some.inj ei0
  obtain ⟨i1, ei1⟩ := is_v hg1
  obtain rfl : w1 = (.int i1) := Option.some.inj ei1
  obtain ⟨i2, ei2⟩ := is_v hg2
  obtain rfl : w2 = (.int i2) := Option.some.inj ei2
  obtain ⟨i3, ei3⟩ := is_v hg3
  obtain rfl : w3 = (.int i3) := Option.some.inj ei3
  obtain ⟨i4, ei4⟩ := isL_v hg4
  obtain rfl : w4 = (.long i4) := Option.some.inj ei4
  obtain ⟨i5, ei5⟩ := is_v hg5
  obtain rfl : w5 = (.int i5) := Option.some.inj ei5
  obtain ⟨hn0, hn⟩ := and_e hn
  obtain ⟨hn1, hn⟩ := and_e hn
  have hn2 := hn
  obtain ⟨w_SWAP, ev_SWAP⟩ := exa_v hn2
  have S_SWAP := Sta.start ev_SWAP (Or.inr ⟨(hw _ (List.mem_of_getElem? (i := 39) rfl)), (hw _ (List.mem_of_getElem? (i := 65) rfl))⟩)
  have E_w_SWAP := Exa.start ev_SWAP hn2
  obtain ⟨w_NO_FRAMES, ev_NO_FRAMES⟩ := arr_v hn0
  have S_NO_FRAMES := Sta.start ev_NO_FRAMES (Or.inr ⟨(hw _ (List.mem_of_getElem? (i := 3) rfl)), (hw _ (List.mem_of_getElem? (i := 11) rfl))⟩)
  obtain ⟨n, o, h1, h2, h3, _, L, rfl, ⟨rfl, N⟩, hq⟩ := rm0 l s _ hw tables_1 i0 i1 i2 i3 i4 i5 w_SWAP w_NO_FRAMES s.heap s.heap.size (Nat.le_refl _) S_SWAP E_w_SWAP S_NO_FRAMES p e ha hc hk s m _ below hf ((Spec.applies_iff_loose hf).mp happ).1 ⟨rfl, State.Warmed39.refl s, rfl⟩ trivial
  refine ⟨n, _, h1, h2, h3, hpost _ _ _ _ _ _ ⟨Cond.after_iff.mpr rfl, Cond.after_iff.mpr (eq_i res_at (Term.int_eval (1)) rfl), trivial⟩ ⟨hq.1, hq.2.1, (hq.2.2.sift fun y hy => Or.inr (N y hy)).mono (by decide) (by decide)⟩⟩
theorem main_1_1 : Claimed_1_1 := comes_1 fun _ _ _ _ _ _ h hF => ⟨h.1, hF⟩
theorem main_1_2 : Claimed_1_2 := comes_1 fun _ _ _ _ _ _ h hF => ⟨h.2.1, hF⟩
end Jvm.Pilot.@@N@@
namespace Jvm.Pilot.@@N@@
open Jvm Jvm.ClassFile Sem Op Lib Jvm.Free Jvm.Stand Jvm.Pilot.@@N@@.Jvm.D
/-! MADE BY PROGRAM (witnessworld.py) out of the Statement's table words and the real class files: 18 classes; the members and pool entries that the words name. The judged class is class 1, her method 1. -/
namespace start1
open Jvm.ClassFile
def u (s : String) : CpInfo := .utf8 (stringToUtf16 s)
/-- a pool by its gaps: so many unusable entries, then the entry; so many at the end -/
def gap : Nat → List CpInfo → List CpInfo
  | 0, r => r
  | n + 1, r => .unusable :: gap n r
def poolList (es : List (Nat × CpInfo)) (last : Nat) : List CpInfo := es.foldr (fun e r => gap e.1 (e.2 :: r)) (gap last [])
def pool (es : List (Nat × CpInfo)) (last : Nat) : Array CpInfo := ⟨poolList es last⟩
def fileOf (pool : Array CpInfo) (this : Nat) (attrs : Array Attribute := #[]) (ms : Array MethodInfo := #[]) (fl : Nat := 33) (sup : Nat := 0) (ifs : Array Nat := #[]) (fds : Array FieldInfo := #[]) : ClassFile where
  minorVersion := 0
  majorVersion := 65
  constantPool := pool
  accessFlags := fl
  thisClass := this
  superClass := sup
  interfaces := ifs
  fields := fds
  methods := ms
  attributes := attrs
def plain (name : String) (sup : Option ClassId) : Class where
  name := name
  kind := .ordinary
  loader := none
  accessFlags := 33
  super := sup
  interfaces := #[]
  cf := none
  fields := #[]
  methods := #[]
  instanceTypes := #[]
  staticTypes := #[]
  resolved := #[]
  callSites := []
  init := .initialized
  statics := none
  mirror := none

def pool0 : Array CpInfo := pool [(5, u "<init>"), (0, u "()V"), (1, .class_ 10), (1, u "java/lang/Object")] 113

def k0c0 : Code := { maxStack := 0, maxLocals := 1, code := object_method_1_code, exceptionTable := #[], attributes := #[] }
def k0m0 : Method := { name := "<init>", desc := "()V", sig := { parameters := [], returnType := none }, accessFlags := 1, code := some k0c0 }
/-- java/lang/Object -/
def k0 : Class := { plain "java/lang/Object" none with
  accessFlags := 33
  interfaces := #[]
  cf := some (fileOf pool0 8 #[] #[{ accessFlags := 1, nameIndex := 5, descriptorIndex := 6, attributes := #[] }] 33 0 #[] #[])
  fields := #[]
  methods := #[k0m0]
  instanceTypes := #[]
  staticTypes := #[]
  resolved := Array.replicate 124 none
  statics := none }

def pool1 : Array CpInfo := pool [(2, .class_ 4), (1, u "java/lang/Object"), (0, u "<init>"), (0, u "()V"), (0, .class_ 8), (0, u "com/example/tabulon/tabulon/game/State"), (0, .methodref 7 10), (0, .nameAndType 5 11), (0, u "(I[II)V"), (0, .class_ 13), (0, u "com/example/tabulon/tabulon/game/Move"), (0, .methodref 12 15), (0, .nameAndType 5 16), (0, u "(III)V"), (0, .fieldref 12 18), (0, .nameAndType 19 20), (0, u "SWAP"), (0, u "Lcom/example/tabulon/tabulon/game/Move;"), (0, .methodref 7 22), (0, .nameAndType 23 24), (0, u "passTurn"), (0, u "(Lcom/example/tabulon/tabulon/game/Move;I)V"), (0, .methodref 7 26), (0, .nameAndType 27 28), (0, u "mover"), (0, u "()I"), (0, .methodref 7 30), (0, .nameAndType 31 28), (0, u "moves"), (0, .methodref 7 33), (0, .nameAndType 34 35), (0, u "lastMove"), (0, u "()Lcom/example/tabulon/tabulon/game/Move;"), (0, .methodref 7 37), (0, .nameAndType 38 35), (0, u "moveBeforeLast"), (0, .methodref 7 40), (0, .nameAndType 41 42), (0, u "swapped"), (0, u "()Z"), (0, .class_ 44), (0, u "com/example/tabulon/tabulon/game/StatePassTurnPinLaw"), (2, u "law"), (0, u "(IIIIJI)Z")] 5

def k1m0 : Method := { name := "<init>", desc := "()V", sig := { parameters := [], returnType := none }, accessFlags := 1, code := none }
def k1c1 : Code := { maxStack := 6, maxLocals := 15, code := code, exceptionTable := #[], attributes := #[] }
def k1m1 : Method := { name := "law", desc := "(IIIIJI)Z", sig := { parameters := [.int, .int, .int, .int, .long, .int], returnType := some .boolean }, accessFlags := 9, code := some k1c1 }
/-- com/example/tabulon/tabulon/game/StatePassTurnPinLaw -/
def k1 : Class := { plain "com/example/tabulon/tabulon/game/StatePassTurnPinLaw" (some 0) with
  accessFlags := 49
  interfaces := #[]
  cf := some (fileOf pool1 43 #[] #[{ accessFlags := 1, nameIndex := 5, descriptorIndex := 6, attributes := #[] }, { accessFlags := 9, nameIndex := 47, descriptorIndex := 48, attributes := #[] }] 49 2 #[] #[])
  fields := #[]
  methods := #[k1m0, k1m1]
  instanceTypes := #[]
  staticTypes := #[]
  resolved := Array.replicate 54 none
  statics := none }

def pool2 : Array CpInfo := pool [(1, .methodref 2 3), (0, .class_ 4), (0, .nameAndType 5 6), (0, u "java/lang/Object"), (0, u "<init>"), (0, u "()V"), (0, .fieldref 8 9), (0, .class_ 10), (0, .nameAndType 11 12), (0, u "com/example/tabulon/tabulon/game/State"), (0, u "NO_FRAMES"), (0, u "[Lcom/example/tabulon/tabulon/game/State$Replaced;"), (0, .fieldref 8 14), (0, .nameAndType 15 12), (0, u "frames"), (0, .fieldref 8 17), (0, .nameAndType 18 19), (0, u "pieces"), (0, u "[I"), (0, .methodref 21 22), (0, .class_ 23), (0, .nameAndType 24 25), (0, u "java/util/Arrays"), (0, u "fill"), (0, u "([II)V"), (2, .fieldref 8 29), (0, .nameAndType 30 31), (0, u "words"), (0, u "I"), (0, .fieldref 8 33), (0, .nameAndType 34 35), (0, u "sitesOfKind"), (0, u "[J"), (0, .fieldref 8 37), (0, .nameAndType 38 19), (0, u "ownerOfKind"), (0, .fieldref 8 40), (0, .nameAndType 41 42), (0, u "unmoved"), (0, u "[Z"), (0, .methodref 21 44), (0, .nameAndType 24 45), (0, u "([ZZ)V"), (0, .fieldref 8 47), (0, .nameAndType 48 19), (0, u "lastMoveOf"), (0, .fieldref 8 50), (0, .nameAndType 51 31), (0, u "mover"), (11, u "lastTaking"), (0, .fieldref 8 65), (0, .nameAndType 66 67), (0, u "swapped"), (0, u "Z"), (0, .fieldref 8 69), (0, .nameAndType 70 31), (0, u "moves"), (0, .fieldref 8 72), (0, .nameAndType 73 74), (0, u "lastMove"), (0, u "Lcom/example/tabulon/tabulon/game/Move;"), (0, .fieldref 8 76), (0, .nameAndType 77 74), (0, u "moveBeforeLast"), (2, u "over"), (2, u "winner"), (38, u "()I"), (11, u "()Z"), (27, .class_ 164), (1, u "com/example/tabulon/tabulon/game/State$Replaced"), (11, u "passTurn"), (0, u "(Lcom/example/tabulon/tabulon/game/Move;I)V"), (2, u "tried"), (34, u "EMPTY"), (2, u "(I[II)V"), (12, u "()Lcom/example/tabulon/tabulon/game/Move;")] 17

def k2c0 : Code := { maxStack := 3, maxLocals := 5, code := prog_93_method_1_code, exceptionTable := #[], attributes := #[] }
def k2m0 : Method := { name := "<init>", desc := "(I[II)V", sig := { parameters := [.int, (.array .int), .int], returnType := none }, accessFlags := 0, code := some k2c0 }
def k2c1 : Code := { maxStack := 1, maxLocals := 1, code := prog_93_method_9_code, exceptionTable := #[], attributes := #[] }
def k2m1 : Method := { name := "mover", desc := "()I", sig := { parameters := [], returnType := some .int }, accessFlags := 1, code := some k2c1 }
def k2c2 : Code := { maxStack := 1, maxLocals := 1, code := prog_93_method_11_code, exceptionTable := #[], attributes := #[] }
def k2m2 : Method := { name := "swapped", desc := "()Z", sig := { parameters := [], returnType := some .boolean }, accessFlags := 1, code := some k2c2 }
def k2c3 : Code := { maxStack := 1, maxLocals := 1, code := prog_93_method_13_code, exceptionTable := #[], attributes := #[] }
def k2m3 : Method := { name := "moves", desc := "()I", sig := { parameters := [], returnType := some .int }, accessFlags := 1, code := some k2c3 }
def k2c4 : Code := { maxStack := 1, maxLocals := 1, code := prog_93_method_14_code, exceptionTable := #[], attributes := #[] }
def k2m4 : Method := { name := "lastMove", desc := "()Lcom/example/tabulon/tabulon/game/Move;", sig := { parameters := [], returnType := some (.object "com/example/tabulon/tabulon/game/Move") }, accessFlags := 1, code := some k2c4 }
def k2c5 : Code := { maxStack := 1, maxLocals := 1, code := prog_93_method_15_code, exceptionTable := #[], attributes := #[] }
def k2m5 : Method := { name := "moveBeforeLast", desc := "()Lcom/example/tabulon/tabulon/game/Move;", sig := { parameters := [], returnType := some (.object "com/example/tabulon/tabulon/game/Move") }, accessFlags := 1, code := some k2c5 }
def k2c6 : Code := { maxStack := 3, maxLocals := 3, code := prog_93_method_29_code, exceptionTable := #[], attributes := #[] }
def k2m6 : Method := { name := "passTurn", desc := "(Lcom/example/tabulon/tabulon/game/Move;I)V", sig := { parameters := [(.object "com/example/tabulon/tabulon/game/Move"), .int], returnType := none }, accessFlags := 0, code := some k2c6 }
/-- com/example/tabulon/tabulon/game/State -/
def k2 : Class := { plain "com/example/tabulon/tabulon/game/State" (some 0) with
  accessFlags := 49
  interfaces := #[]
  cf := some (fileOf pool2 8 #[.nestMembers #[162]] #[{ accessFlags := 0, nameIndex := 5, descriptorIndex := 218, attributes := #[] }, { accessFlags := 1, nameIndex := 51, descriptorIndex := 122, attributes := #[] }, { accessFlags := 1, nameIndex := 66, descriptorIndex := 134, attributes := #[] }, { accessFlags := 1, nameIndex := 70, descriptorIndex := 122, attributes := #[] }, { accessFlags := 1, nameIndex := 73, descriptorIndex := 231, attributes := #[] }, { accessFlags := 1, nameIndex := 77, descriptorIndex := 231, attributes := #[] }, { accessFlags := 0, nameIndex := 176, descriptorIndex := 177, attributes := #[] }] 49 2 #[] #[{ accessFlags := 26, nameIndex := 215, descriptorIndex := 31, attributes := #[] }, { accessFlags := 26, nameIndex := 11, descriptorIndex := 12, attributes := #[] }, { accessFlags := 18, nameIndex := 18, descriptorIndex := 19, attributes := #[] }, { accessFlags := 18, nameIndex := 34, descriptorIndex := 35, attributes := #[] }, { accessFlags := 18, nameIndex := 30, descriptorIndex := 31, attributes := #[] }, { accessFlags := 18, nameIndex := 38, descriptorIndex := 19, attributes := #[] }, { accessFlags := 18, nameIndex := 41, descriptorIndex := 42, attributes := #[] }, { accessFlags := 18, nameIndex := 48, descriptorIndex := 19, attributes := #[] }, { accessFlags := 2, nameIndex := 63, descriptorIndex := 31, attributes := #[] }, { accessFlags := 2, nameIndex := 51, descriptorIndex := 31, attributes := #[] }, { accessFlags := 2, nameIndex := 66, descriptorIndex := 67, attributes := #[] }, { accessFlags := 2, nameIndex := 70, descriptorIndex := 31, attributes := #[] }, { accessFlags := 2, nameIndex := 73, descriptorIndex := 74, attributes := #[] }, { accessFlags := 2, nameIndex := 77, descriptorIndex := 74, attributes := #[] }, { accessFlags := 2, nameIndex := 80, descriptorIndex := 67, attributes := #[] }, { accessFlags := 2, nameIndex := 83, descriptorIndex := 31, attributes := #[] }, { accessFlags := 2, nameIndex := 15, descriptorIndex := 12, attributes := #[] }, { accessFlags := 2, nameIndex := 180, descriptorIndex := 31, attributes := #[] }])
  fields := #[{ name := "EMPTY", type := .int, accessFlags := 26, slot := 0, constantValue := 0 }, { name := "NO_FRAMES", type := (.array (.object "com/example/tabulon/tabulon/game/State$Replaced")), accessFlags := 26, slot := 1, constantValue := 0 }, { name := "pieces", type := (.array .int), accessFlags := 18, slot := 0, constantValue := 0 }, { name := "sitesOfKind", type := (.array .long), accessFlags := 18, slot := 1, constantValue := 0 }, { name := "words", type := .int, accessFlags := 18, slot := 2, constantValue := 0 }, { name := "ownerOfKind", type := (.array .int), accessFlags := 18, slot := 3, constantValue := 0 }, { name := "unmoved", type := (.array .boolean), accessFlags := 18, slot := 4, constantValue := 0 }, { name := "lastMoveOf", type := (.array .int), accessFlags := 18, slot := 5, constantValue := 0 }, { name := "lastTaking", type := .int, accessFlags := 2, slot := 6, constantValue := 0 }, { name := "mover", type := .int, accessFlags := 2, slot := 7, constantValue := 0 }, { name := "swapped", type := .boolean, accessFlags := 2, slot := 8, constantValue := 0 }, { name := "moves", type := .int, accessFlags := 2, slot := 9, constantValue := 0 }, { name := "lastMove", type := (.object "com/example/tabulon/tabulon/game/Move"), accessFlags := 2, slot := 10, constantValue := 0 }, { name := "moveBeforeLast", type := (.object "com/example/tabulon/tabulon/game/Move"), accessFlags := 2, slot := 11, constantValue := 0 }, { name := "over", type := .boolean, accessFlags := 2, slot := 12, constantValue := 0 }, { name := "winner", type := .int, accessFlags := 2, slot := 13, constantValue := 0 }, { name := "frames", type := (.array (.object "com/example/tabulon/tabulon/game/State$Replaced")), accessFlags := 2, slot := 14, constantValue := 0 }, { name := "tried", type := .int, accessFlags := 2, slot := 15, constantValue := 0 }]
  methods := #[k2m0, k2m1, k2m2, k2m3, k2m4, k2m5, k2m6]
  instanceTypes := #[(.array .int), (.array .long), .int, (.array .int), (.array .boolean), (.array .int), .int, .int, .boolean, .int, (.object "com/example/tabulon/tabulon/game/Move"), (.object "com/example/tabulon/tabulon/game/Move"), .boolean, .int, (.array (.object "com/example/tabulon/tabulon/game/State$Replaced")), .int]
  staticTypes := #[.int, (.array (.object "com/example/tabulon/tabulon/game/State$Replaced"))]
  resolved := Array.replicate 249 none
  statics := some 0 }

def pool3 : Array CpInfo := pool [(2, .class_ 4), (1, u "java/lang/Object"), (0, u "<init>"), (0, u "()V"), (7, .class_ 16), (1, u "java/util/Arrays"), (57, .class_ 76), (1, u "java/util/Arrays$NaturalOrder"), (36, .class_ 115), (1, u "java/util/Arrays$LegacyMergeSort"), (1, u "Z"), (257, .class_ 376), (0, u "java/util/Arrays$ArrayList"), (68, u "$assertionsDisabled"), (269, u "MIN_ARRAY_SORT_GRAN"), (0, u "I"), (2, u "INSERTIONSORT_THRESHOLD"), (120, u "fill"), (4, u "([II)V"), (6, u "([ZZ)V"), (122, .class_ 976), (0, u "java/util/Arrays$ArrayItr")] 52

def k3m0 : Method := { name := "<init>", desc := "()V", sig := { parameters := [], returnType := none }, accessFlags := 2, code := none }
def k3c1 : Code := { maxStack := 3, maxLocals := 4, code := jdk_65_method_103_code, exceptionTable := #[], attributes := #[] }
def k3m1 : Method := { name := "fill", desc := "([II)V", sig := { parameters := [(.array .int), .int], returnType := none }, accessFlags := 9, code := some k3c1 }
def k3c2 : Code := { maxStack := 3, maxLocals := 4, code := jdk_65_method_111_code, exceptionTable := #[], attributes := #[] }
def k3m2 : Method := { name := "fill", desc := "([ZZ)V", sig := { parameters := [(.array .boolean), .boolean], returnType := none }, accessFlags := 9, code := some k3c2 }
/-- java/util/Arrays -/
def k3 : Class := { plain "java/util/Arrays" (some 0) with
  accessFlags := 49
  interfaces := #[]
  cf := some (fileOf pool3 14 #[.nestMembers #[975, 375, 113, 74]] #[{ accessFlags := 2, nameIndex := 5, descriptorIndex := 6, attributes := #[] }, { accessFlags := 9, nameIndex := 840, descriptorIndex := 845, attributes := #[] }, { accessFlags := 9, nameIndex := 840, descriptorIndex := 852, attributes := #[] }] 49 2 #[] #[{ accessFlags := 26, nameIndex := 715, descriptorIndex := 716, attributes := #[] }, { accessFlags := 26, nameIndex := 719, descriptorIndex := 716, attributes := #[] }, { accessFlags := 4120, nameIndex := 445, descriptorIndex := 117, attributes := #[] }])
  fields := #[{ name := "MIN_ARRAY_SORT_GRAN", type := .int, accessFlags := 26, slot := 0, constantValue := 0 }, { name := "INSERTIONSORT_THRESHOLD", type := .int, accessFlags := 26, slot := 1, constantValue := 0 }, { name := "$assertionsDisabled", type := .boolean, accessFlags := 4120, slot := 2, constantValue := 0 }]
  methods := #[k3m0, k3m1, k3m2]
  instanceTypes := #[]
  staticTypes := #[.int, .int, .boolean]
  resolved := Array.replicate 1029 none
  statics := none }

def pool4 : Array CpInfo := pool [(1, .methodref 2 3), (0, .class_ 4), (0, .nameAndType 5 6), (0, u "java/lang/Object"), (0, u "<init>"), (0, u "()V"), (0, .class_ 8), (0, u "java/lang/Record")] 13

def k4c0 : Code := { maxStack := 1, maxLocals := 1, code := jdk_30_method_1_code, exceptionTable := #[], attributes := #[] }
def k4m0 : Method := { name := "<init>", desc := "()V", sig := { parameters := [], returnType := none }, accessFlags := 4, code := some k4c0 }
/-- java/lang/Record -/
def k4 : Class := { plain "java/lang/Record" (some 0) with
  accessFlags := 1057
  interfaces := #[]
  cf := some (fileOf pool4 7 #[] #[{ accessFlags := 4, nameIndex := 5, descriptorIndex := 6, attributes := #[] }] 1057 2 #[] #[])
  fields := #[]
  methods := #[k4m0]
  instanceTypes := #[]
  staticTypes := #[]
  resolved := Array.replicate 22 none
  statics := none }

def pool5 : Array CpInfo := pool [(1, .methodref 2 3), (0, .class_ 4), (0, .nameAndType 5 6), (0, u "java/lang/Record"), (0, u "<init>"), (0, u "()V"), (0, .fieldref 8 9), (0, .class_ 10), (0, .nameAndType 11 12), (0, u "com/example/tabulon/tabulon/game/Move"), (0, u "from"), (0, u "I"), (0, .fieldref 8 14), (0, .nameAndType 15 12), (0, u "to"), (0, .fieldref 8 17), (0, .nameAndType 18 12), (0, u "piece"), (0, .fieldref 8 20), (0, .nameAndType 21 22), (0, u "promotes"), (0, u "Z"), (0, .fieldref 8 24), (0, .nameAndType 25 12), (0, u "alsoFrom"), (0, .fieldref 8 27), (0, .nameAndType 28 12), (0, u "alsoTo"), (0, .methodref 8 30), (0, .nameAndType 5 31), (0, u "(IIIZII)V"), (2, u "(III)V"), (14, u "SWAP"), (0, u "Lcom/example/tabulon/tabulon/game/Move;"), (0, u "OFF_BOARD")] 44

def k5c0 : Code := { maxStack := 7, maxLocals := 4, code := prog_68_method_1_code, exceptionTable := #[], attributes := #[] }
def k5m0 : Method := { name := "<init>", desc := "(III)V", sig := { parameters := [.int, .int, .int], returnType := none }, accessFlags := 1, code := some k5c0 }
def k5c1 : Code := { maxStack := 2, maxLocals := 7, code := prog_68_method_2_code, exceptionTable := #[], attributes := #[] }
def k5m1 : Method := { name := "<init>", desc := "(IIIZII)V", sig := { parameters := [.int, .int, .int, .boolean, .int, .int], returnType := none }, accessFlags := 1, code := some k5c1 }
/-- com/example/tabulon/tabulon/game/Move -/
def k5 : Class := { plain "com/example/tabulon/tabulon/game/Move" (some 4) with
  accessFlags := 49
  interfaces := #[]
  cf := some (fileOf pool5 8 #[] #[{ accessFlags := 1, nameIndex := 5, descriptorIndex := 34, attributes := #[] }, { accessFlags := 1, nameIndex := 5, descriptorIndex := 31, attributes := #[] }] 49 2 #[] #[{ accessFlags := 18, nameIndex := 11, descriptorIndex := 12, attributes := #[] }, { accessFlags := 18, nameIndex := 15, descriptorIndex := 12, attributes := #[] }, { accessFlags := 18, nameIndex := 18, descriptorIndex := 12, attributes := #[] }, { accessFlags := 18, nameIndex := 21, descriptorIndex := 22, attributes := #[] }, { accessFlags := 18, nameIndex := 25, descriptorIndex := 12, attributes := #[] }, { accessFlags := 18, nameIndex := 28, descriptorIndex := 12, attributes := #[] }, { accessFlags := 25, nameIndex := 51, descriptorIndex := 12, attributes := #[] }, { accessFlags := 25, nameIndex := 49, descriptorIndex := 50, attributes := #[] }])
  fields := #[{ name := "from", type := .int, accessFlags := 18, slot := 0, constantValue := 0 }, { name := "to", type := .int, accessFlags := 18, slot := 1, constantValue := 0 }, { name := "piece", type := .int, accessFlags := 18, slot := 2, constantValue := 0 }, { name := "promotes", type := .boolean, accessFlags := 18, slot := 3, constantValue := 0 }, { name := "alsoFrom", type := .int, accessFlags := 18, slot := 4, constantValue := 0 }, { name := "alsoTo", type := .int, accessFlags := 18, slot := 5, constantValue := 0 }, { name := "OFF_BOARD", type := .int, accessFlags := 25, slot := 0, constantValue := 0 }, { name := "SWAP", type := (.object "com/example/tabulon/tabulon/game/Move"), accessFlags := 25, slot := 1, constantValue := 0 }]
  methods := #[k5m0, k5m1]
  instanceTypes := #[.int, .int, .int, .boolean, .int, .int]
  staticTypes := #[.int, (.object "com/example/tabulon/tabulon/game/Move")]
  resolved := Array.replicate 96 none
  statics := some 1 }

def pool6 : Array CpInfo := pool [(2, .class_ 4), (1, u "java/lang/Object"), (0, u "<init>"), (0, u "()V"), (0, .class_ 8), (0, u "com/example/tabulon/tabulon/game/State$Replaced"), (2, u "sites"), (0, u "[I"), (2, u "pieces"), (2, u "unmoved"), (0, u "[Z"), (2, u "kinds"), (2, u "lastMoveOf"), (2, u "siteCount"), (0, u "I"), (2, u "kindCount"), (0, u "MOST_SITES"), (2, u "MOST_KINDS"), (1, u "lastTaking"), (0, u "mover"), (0, u "swapped"), (0, u "Z"), (0, u "moves"), (0, u "lastMove"), (0, u "Lcom/example/tabulon/tabulon/game/Move;"), (0, u "moveBeforeLast"), (9, .class_ 56), (0, u "com/example/tabulon/tabulon/game/State")] 2

def k6m0 : Method := { name := "<init>", desc := "()V", sig := { parameters := [], returnType := none }, accessFlags := 2, code := none }
/-- com/example/tabulon/tabulon/game/State$Replaced -/
def k6 : Class := { plain "com/example/tabulon/tabulon/game/State$Replaced" (some 0) with
  accessFlags := 48
  interfaces := #[]
  cf := some (fileOf pool6 7 #[.nestHost 55] #[{ accessFlags := 2, nameIndex := 5, descriptorIndex := 6, attributes := #[] }] 48 2 #[] #[{ accessFlags := 26, nameIndex := 33, descriptorIndex := 29, attributes := #[] }, { accessFlags := 26, nameIndex := 36, descriptorIndex := 29, attributes := #[] }, { accessFlags := 18, nameIndex := 11, descriptorIndex := 12, attributes := #[] }, { accessFlags := 18, nameIndex := 15, descriptorIndex := 12, attributes := #[] }, { accessFlags := 18, nameIndex := 18, descriptorIndex := 19, attributes := #[] }, { accessFlags := 2, nameIndex := 28, descriptorIndex := 29, attributes := #[] }, { accessFlags := 18, nameIndex := 22, descriptorIndex := 12, attributes := #[] }, { accessFlags := 18, nameIndex := 25, descriptorIndex := 12, attributes := #[] }, { accessFlags := 2, nameIndex := 32, descriptorIndex := 29, attributes := #[] }, { accessFlags := 2, nameIndex := 38, descriptorIndex := 29, attributes := #[] }, { accessFlags := 2, nameIndex := 39, descriptorIndex := 29, attributes := #[] }, { accessFlags := 2, nameIndex := 40, descriptorIndex := 41, attributes := #[] }, { accessFlags := 2, nameIndex := 42, descriptorIndex := 29, attributes := #[] }, { accessFlags := 2, nameIndex := 43, descriptorIndex := 44, attributes := #[] }, { accessFlags := 2, nameIndex := 45, descriptorIndex := 44, attributes := #[] }])
  fields := #[{ name := "MOST_SITES", type := .int, accessFlags := 26, slot := 0, constantValue := 0 }, { name := "MOST_KINDS", type := .int, accessFlags := 26, slot := 1, constantValue := 0 }, { name := "sites", type := (.array .int), accessFlags := 18, slot := 0, constantValue := 0 }, { name := "pieces", type := (.array .int), accessFlags := 18, slot := 1, constantValue := 0 }, { name := "unmoved", type := (.array .boolean), accessFlags := 18, slot := 2, constantValue := 0 }, { name := "siteCount", type := .int, accessFlags := 2, slot := 3, constantValue := 0 }, { name := "kinds", type := (.array .int), accessFlags := 18, slot := 4, constantValue := 0 }, { name := "lastMoveOf", type := (.array .int), accessFlags := 18, slot := 5, constantValue := 0 }, { name := "kindCount", type := .int, accessFlags := 2, slot := 6, constantValue := 0 }, { name := "lastTaking", type := .int, accessFlags := 2, slot := 7, constantValue := 0 }, { name := "mover", type := .int, accessFlags := 2, slot := 8, constantValue := 0 }, { name := "swapped", type := .boolean, accessFlags := 2, slot := 9, constantValue := 0 }, { name := "moves", type := .int, accessFlags := 2, slot := 10, constantValue := 0 }, { name := "lastMove", type := (.object "com/example/tabulon/tabulon/game/Move"), accessFlags := 2, slot := 11, constantValue := 0 }, { name := "moveBeforeLast", type := (.object "com/example/tabulon/tabulon/game/Move"), accessFlags := 2, slot := 12, constantValue := 0 }]
  methods := #[k6m0]
  instanceTypes := #[(.array .int), (.array .int), (.array .boolean), .int, (.array .int), (.array .int), .int, .int, .int, .boolean, .int, (.object "com/example/tabulon/tabulon/game/Move"), (.object "com/example/tabulon/tabulon/game/Move")]
  staticTypes := #[.int, .int]
  resolved := Array.replicate 59 none
  statics := none }

def pool7 : Array CpInfo := pool [(1, u "java/lang/Cloneable"), (0, .class_ 1), (0, u "java/lang/Object"), (0, .class_ 3)] 3

/-- java/lang/Cloneable -/
def k7 : Class := { plain "java/lang/Cloneable" (some 0) with
  accessFlags := 1537
  interfaces := #[]
  cf := some (fileOf pool7 2 #[] #[] 1537 4 #[] #[])
  fields := #[]
  methods := #[]
  instanceTypes := #[]
  staticTypes := #[]
  resolved := Array.replicate 8 none
  statics := none }

def pool8 : Array CpInfo := pool [(1, u "java/io/Serializable"), (0, .class_ 1), (0, u "java/lang/Object"), (0, .class_ 3)] 3

/-- java/io/Serializable -/
def k8 : Class := { plain "java/io/Serializable" (some 0) with
  accessFlags := 1537
  interfaces := #[]
  cf := some (fileOf pool8 2 #[] #[] 1537 4 #[] #[])
  fields := #[]
  methods := #[]
  instanceTypes := #[]
  staticTypes := #[]
  resolved := Array.replicate 8 none
  statics := none }

/-- the primitive boolean -/
def k9 : Class := { plain "boolean" none with kind := .primitive 'Z', accessFlags := 0x411 }
/-- [Z -/
def k10 : Class := { plain "[Z" (some 0) with kind := .array 9 .boolean, interfaces := #[7, 8], accessFlags := 1041 }

/-- the primitive byte -/
def k11 : Class := { plain "byte" none with kind := .primitive 'B', accessFlags := 0x411 }
/-- [B -/
def k12 : Class := { plain "[B" (some 0) with kind := .array 11 .byte, interfaces := #[7, 8], accessFlags := 1041 }

/-- the primitive int -/
def k13 : Class := { plain "int" none with kind := .primitive 'I', accessFlags := 0x411 }
/-- [I -/
def k14 : Class := { plain "[I" (some 0) with kind := .array 13 .int, interfaces := #[7, 8], accessFlags := 1041 }

/-- the primitive long -/
def k15 : Class := { plain "long" none with kind := .primitive 'J', accessFlags := 0x411 }
/-- [J -/
def k16 : Class := { plain "[J" (some 0) with kind := .array 15 .long, interfaces := #[7, 8], accessFlags := 1041 }

/-- [Lcom/example/tabulon/tabulon/game/State$Replaced; -/
def k17 : Class := { plain "[Lcom/example/tabulon/tabulon/game/State$Replaced;" (some 0) with kind := .array 6 (.object "com/example/tabulon/tabulon/game/State$Replaced"), interfaces := #[7, 8], accessFlags := 1041 }

def heap : Heap := #[{ cls := 2, slots := #[.int 0, .ref 2], vm := .statics 2 },
  { cls := 5, slots := #[.int 0, .ref 3], vm := .statics 5 },
  { cls := 17, slots := #[], vm := .none },
  { cls := 5, slots := #[.int 0, .int 0, .int 0, .int 0, .int 0, .int 0], vm := .none }]
def classes : Array Class := #[k0, k1, k2, k3, k4, k5, k6, k7, k8, k9, k10, k11, k12, k13, k14, k15, k16, k17]
def interned : List (Array UInt16 × Addr) := []
def slotsUsed : Nat := 10
def theMethod : MethodId := ⟨1, 1⟩
def args0 : Array Value := #[.int 5, .int 6, .int 7, .int 8, .long 9, .int 3]
def aboutOver (below : List Frame) : State where
  vm := { classes := classes, interned := interned.toArray }
  heap := heap
  slotsUsed := slotsUsed
  threads := #[{ frames := .invoking theMethod args0 :: below }]
def below0 : List Frame := [.native { method := ⟨0, 0⟩, args := #[] }]
def about1 : State := aboutOver below0
def p0 : Program := .bare "" "" ""
def e0 : Env := launch0.env 0 0 0
theorem w_frames : about1.frames = Frame.invoking theMethod args0 :: below0 := rfl
set_option maxRecDepth 65536 in
theorem w_args : argsFit about1.vm theMethod args0 = true := by decide +kernel
set_option maxRecDepth 65536 in
theorem w_heap : heapFits about1 = true := by decide +kernel
set_option maxRecDepth 65536 in
theorem w_runnable : about1.curStatus? = some .runnable := by decide +kernel
set_option maxRecDepth 65536 in
theorem w_alone : about1.alone = true := by decide +kernel
set_option maxRecDepth 65536 in
theorem w_named : about1.methodNamed? x = some theMethod := by decide +kernel
set_option maxRecDepth 65536 in
theorem w_hears : about1.hears theMethod below0 = true := by decide +kernel
set_option maxRecDepth 65536 in
theorem w_ripe : about1.ripe theMethod args0 below0 = true := by decide +kernel
theorem w_running : about1.status = .running := rfl
set_option maxRecDepth 65536 in
theorem w_room : about1.hasRoom e0.platform room_1 = true :=
  launch0.hasRoom_least _ room_1 (by decide +kernel) (by decide +kernel) (by decide +kernel) (by decide +kernel) (by decide +kernel) (by decide +kernel)
theorem allAtoms_all (ts : List Jvm.Cond) (a : Array Jvm.Value) (st : Jvm.State) : (allAtoms ts).before a st = ts.all (fun c => c.before a st) := by
  induction ts with
  | nil => rfl
  | cons c t ih =>
    show (Jvm.Cond.and c (allAtoms t)).before a st = _
    rw [Jvm.Cond.before_and, ih, List.all_cons]
def words1 : List Jvm.Cond := Jvm.Cond.code x code maxLocals ret :: tables_1
/-- a 'code' word, met by the world's own term for the bytes: nothing is compared byte by byte -/
theorem code_word {y : MethodName} {bytes : ByteArray} {mx : Nat} {rt : Option FieldType} {a : Array Value} {s : State} {m : MethodId} {meth : Method} {c : Code} (h1 : s.methodNamed? y = some m) (h2 : s.vm.method? m = some meth) (h3 : meth.code = some c) (h4 : c.code = bytes)
    (h5 : (c.maxLocals == mx && c.exceptionTable.isEmpty && decide (c.maxStack ≤ mostOperands) && decide (meth.sig.returnType = rt) && !meth.locks && decide (parseMethodDescriptor y.desc = some meth.sig)) = true) : (Jvm.Cond.code y bytes mx rt).before a s = true := by
  simp only [Bool.and_eq_true, beq_iff_eq, Bool.not_eq_true', decide_eq_true_eq] at h5
  obtain ⟨⟨⟨⟨⟨g1, g2⟩, g3⟩, g4⟩, g5⟩, g6⟩ := h5
  simp [Cond.before, Cond.holds, Cond.value, h1, h2, h3, h4, g1, g2, g3, g4, g5, g6]
def isCode : Jvm.Cond → Bool
  | .code _ _ _ _ => true
  | _ => false
theorem all_split {L : List Jvm.Cond} {P : Jvm.Cond → Bool} (h1 : L.all (fun c => isCode c || P c) = true) (h2 : ∀ c ∈ L.filter isCode, P c = true) : L.all P = true := by
  refine List.all_eq_true.mpr fun c hc => ?_
  have h := List.all_eq_true.mp h1 c hc
  rcases Bool.eq_false_or_eq_true (isCode c) with hi | hi
  · exact h2 c (List.mem_filter.mpr ⟨hc, hi⟩)
  · simpa [hi] using h
set_option maxRecDepth 65536 in
theorem w_c0 : (Jvm.Cond.code x code maxLocals ret).before args0 about1 = true := code_word (m := ⟨1, 1⟩) (meth := k1m1) (c := k1c1) (by decide +kernel) rfl rfl rfl (by decide +kernel)
set_option maxRecDepth 65536 in
theorem w_c1 : (Jvm.Cond.code ({ cls := "com/example/tabulon/tabulon/game/State", name := "<init>", desc := "(I[II)V" } : Jvm.MethodName) prog_93_method_1_code (5 : Nat) (Option.none : Option Jvm.ClassFile.FieldType)).before args0 about1 = true := code_word (m := ⟨2, 0⟩) (meth := k2m0) (c := k2c0) (by decide +kernel) rfl rfl rfl (by decide +kernel)
set_option maxRecDepth 65536 in
theorem w_c2 : (Jvm.Cond.code ({ cls := "java/lang/Object", name := "<init>", desc := "()V" } : Jvm.MethodName) object_method_1_code (1 : Nat) (Option.none : Option Jvm.ClassFile.FieldType)).before args0 about1 = true := code_word (m := ⟨0, 0⟩) (meth := k0m0) (c := k0c0) (by decide +kernel) rfl rfl rfl (by decide +kernel)
set_option maxRecDepth 65536 in
theorem w_c3 : (Jvm.Cond.code ({ cls := "java/util/Arrays", name := "fill", desc := "([II)V" } : Jvm.MethodName) jdk_65_method_103_code (4 : Nat) (Option.none : Option Jvm.ClassFile.FieldType)).before args0 about1 = true := code_word (m := ⟨3, 1⟩) (meth := k3m1) (c := k3c1) (by decide +kernel) rfl rfl rfl (by decide +kernel)
set_option maxRecDepth 65536 in
theorem w_c4 : (Jvm.Cond.code ({ cls := "java/util/Arrays", name := "fill", desc := "([ZZ)V" } : Jvm.MethodName) jdk_65_method_111_code (4 : Nat) (Option.none : Option Jvm.ClassFile.FieldType)).before args0 about1 = true := code_word (m := ⟨3, 2⟩) (meth := k3m2) (c := k3c2) (by decide +kernel) rfl rfl rfl (by decide +kernel)
set_option maxRecDepth 65536 in
theorem w_c5 : (Jvm.Cond.code ({ cls := "com/example/tabulon/tabulon/game/Move", name := "<init>", desc := "(III)V" } : Jvm.MethodName) prog_68_method_1_code (4 : Nat) (Option.none : Option Jvm.ClassFile.FieldType)).before args0 about1 = true := code_word (m := ⟨5, 0⟩) (meth := k5m0) (c := k5c0) (by decide +kernel) rfl rfl rfl (by decide +kernel)
set_option maxRecDepth 65536 in
theorem w_c6 : (Jvm.Cond.code ({ cls := "com/example/tabulon/tabulon/game/Move", name := "<init>", desc := "(IIIZII)V" } : Jvm.MethodName) prog_68_method_2_code (7 : Nat) (Option.none : Option Jvm.ClassFile.FieldType)).before args0 about1 = true := code_word (m := ⟨5, 1⟩) (meth := k5m1) (c := k5c1) (by decide +kernel) rfl rfl rfl (by decide +kernel)
set_option maxRecDepth 65536 in
theorem w_c7 : (Jvm.Cond.code ({ cls := "java/lang/Record", name := "<init>", desc := "()V" } : Jvm.MethodName) jdk_30_method_1_code (1 : Nat) (Option.none : Option Jvm.ClassFile.FieldType)).before args0 about1 = true := code_word (m := ⟨4, 0⟩) (meth := k4m0) (c := k4c0) (by decide +kernel) rfl rfl rfl (by decide +kernel)
set_option maxRecDepth 65536 in
theorem w_c8 : (Jvm.Cond.code ({ cls := "com/example/tabulon/tabulon/game/State", name := "passTurn", desc := "(Lcom/example/tabulon/tabulon/game/Move;I)V" } : Jvm.MethodName) prog_93_method_29_code (3 : Nat) (Option.none : Option Jvm.ClassFile.FieldType)).before args0 about1 = true := code_word (m := ⟨2, 6⟩) (meth := k2m6) (c := k2c6) (by decide +kernel) rfl rfl rfl (by decide +kernel)
set_option maxRecDepth 65536 in
theorem w_c9 : (Jvm.Cond.code ({ cls := "com/example/tabulon/tabulon/game/State", name := "mover", desc := "()I" } : Jvm.MethodName) prog_93_method_9_code (1 : Nat) (Option.some Jvm.ClassFile.FieldType.int)).before args0 about1 = true := code_word (m := ⟨2, 1⟩) (meth := k2m1) (c := k2c1) (by decide +kernel) rfl rfl rfl (by decide +kernel)
set_option maxRecDepth 65536 in
theorem w_c10 : (Jvm.Cond.code ({ cls := "com/example/tabulon/tabulon/game/State", name := "moves", desc := "()I" } : Jvm.MethodName) prog_93_method_13_code (1 : Nat) (Option.some Jvm.ClassFile.FieldType.int)).before args0 about1 = true := code_word (m := ⟨2, 3⟩) (meth := k2m3) (c := k2c3) (by decide +kernel) rfl rfl rfl (by decide +kernel)
set_option maxRecDepth 65536 in
theorem w_c11 : (Jvm.Cond.code ({ cls := "com/example/tabulon/tabulon/game/State", name := "lastMove", desc := "()Lcom/example/tabulon/tabulon/game/Move;" } : Jvm.MethodName) prog_93_method_14_code (1 : Nat) (Option.some (Jvm.ClassFile.FieldType.object "com/example/tabulon/tabulon/game/Move"))).before args0 about1 = true := code_word (m := ⟨2, 4⟩) (meth := k2m4) (c := k2c4) (by decide +kernel) rfl rfl rfl (by decide +kernel)
set_option maxRecDepth 65536 in
theorem w_c12 : (Jvm.Cond.code ({ cls := "com/example/tabulon/tabulon/game/State", name := "moveBeforeLast", desc := "()Lcom/example/tabulon/tabulon/game/Move;" } : Jvm.MethodName) prog_93_method_15_code (1 : Nat) (Option.some (Jvm.ClassFile.FieldType.object "com/example/tabulon/tabulon/game/Move"))).before args0 about1 = true := code_word (m := ⟨2, 5⟩) (meth := k2m5) (c := k2c5) (by decide +kernel) rfl rfl rfl (by decide +kernel)
set_option maxRecDepth 65536 in
theorem w_c13 : (Jvm.Cond.code ({ cls := "com/example/tabulon/tabulon/game/State", name := "swapped", desc := "()Z" } : Jvm.MethodName) prog_93_method_11_code (1 : Nat) (Option.some Jvm.ClassFile.FieldType.boolean)).before args0 about1 = true := code_word (m := ⟨2, 2⟩) (meth := k2m2) (c := k2c2) (by decide +kernel) rfl rfl rfl (by decide +kernel)
def codes1 : List Jvm.Cond := [Jvm.Cond.code x code maxLocals ret, Jvm.Cond.code ({ cls := "com/example/tabulon/tabulon/game/State", name := "<init>", desc := "(I[II)V" } : Jvm.MethodName) prog_93_method_1_code (5 : Nat) (Option.none : Option Jvm.ClassFile.FieldType), Jvm.Cond.code ({ cls := "java/lang/Object", name := "<init>", desc := "()V" } : Jvm.MethodName) object_method_1_code (1 : Nat) (Option.none : Option Jvm.ClassFile.FieldType), Jvm.Cond.code ({ cls := "java/util/Arrays", name := "fill", desc := "([II)V" } : Jvm.MethodName) jdk_65_method_103_code (4 : Nat) (Option.none : Option Jvm.ClassFile.FieldType), Jvm.Cond.code ({ cls := "java/util/Arrays", name := "fill", desc := "([ZZ)V" } : Jvm.MethodName) jdk_65_method_111_code (4 : Nat) (Option.none : Option Jvm.ClassFile.FieldType), Jvm.Cond.code ({ cls := "com/example/tabulon/tabulon/game/Move", name := "<init>", desc := "(III)V" } : Jvm.MethodName) prog_68_method_1_code (4 : Nat) (Option.none : Option Jvm.ClassFile.FieldType), Jvm.Cond.code ({ cls := "com/example/tabulon/tabulon/game/Move", name := "<init>", desc := "(IIIZII)V" } : Jvm.MethodName) prog_68_method_2_code (7 : Nat) (Option.none : Option Jvm.ClassFile.FieldType), Jvm.Cond.code ({ cls := "java/lang/Record", name := "<init>", desc := "()V" } : Jvm.MethodName) jdk_30_method_1_code (1 : Nat) (Option.none : Option Jvm.ClassFile.FieldType), Jvm.Cond.code ({ cls := "com/example/tabulon/tabulon/game/State", name := "passTurn", desc := "(Lcom/example/tabulon/tabulon/game/Move;I)V" } : Jvm.MethodName) prog_93_method_29_code (3 : Nat) (Option.none : Option Jvm.ClassFile.FieldType), Jvm.Cond.code ({ cls := "com/example/tabulon/tabulon/game/State", name := "mover", desc := "()I" } : Jvm.MethodName) prog_93_method_9_code (1 : Nat) (Option.some Jvm.ClassFile.FieldType.int), Jvm.Cond.code ({ cls := "com/example/tabulon/tabulon/game/State", name := "moves", desc := "()I" } : Jvm.MethodName) prog_93_method_13_code (1 : Nat) (Option.some Jvm.ClassFile.FieldType.int), Jvm.Cond.code ({ cls := "com/example/tabulon/tabulon/game/State", name := "lastMove", desc := "()Lcom/example/tabulon/tabulon/game/Move;" } : Jvm.MethodName) prog_93_method_14_code (1 : Nat) (Option.some (Jvm.ClassFile.FieldType.object "com/example/tabulon/tabulon/game/Move")), Jvm.Cond.code ({ cls := "com/example/tabulon/tabulon/game/State", name := "moveBeforeLast", desc := "()Lcom/example/tabulon/tabulon/game/Move;" } : Jvm.MethodName) prog_93_method_15_code (1 : Nat) (Option.some (Jvm.ClassFile.FieldType.object "com/example/tabulon/tabulon/game/Move")), Jvm.Cond.code ({ cls := "com/example/tabulon/tabulon/game/State", name := "swapped", desc := "()Z" } : Jvm.MethodName) prog_93_method_11_code (1 : Nat) (Option.some Jvm.ClassFile.FieldType.boolean)]
set_option maxRecDepth 65536 in
theorem codes_eq : words1.filter isCode = codes1 := rfl
theorem w_codes : ∀ c ∈ words1.filter isCode, c.before args0 about1 = true := by
  rw [codes_eq]
  intro c hc
  simp only [codes1, List.mem_cons, List.not_mem_nil, or_false] at hc
  rcases hc with rfl | rfl | rfl | rfl | rfl | rfl | rfl | rfl | rfl | rfl | rfl | rfl | rfl | rfl
  · exact w_c0
  · exact w_c1
  · exact w_c2
  · exact w_c3
  · exact w_c4
  · exact w_c5
  · exact w_c6
  · exact w_c7
  · exact w_c8
  · exact w_c9
  · exact w_c10
  · exact w_c11
  · exact w_c12
  · exact w_c13
set_option maxRecDepth 65536 in
theorem w_t1 : (words1.take 24).all (fun c => isCode c || c.before args0 about1) = true := by decide +kernel
set_option maxRecDepth 65536 in
theorem w_t2 : ((words1.drop 24).take 24).all (fun c => isCode c || c.before args0 about1) = true := by decide +kernel
set_option maxRecDepth 65536 in
theorem w_t3 : (((words1.drop 24).drop 24).take 24).all (fun c => isCode c || c.before args0 about1) = true := by decide +kernel
set_option maxRecDepth 65536 in
theorem w_t4 : ((((words1.drop 24).drop 24).drop 24).take 24).all (fun c => isCode c || c.before args0 about1) = true := by decide +kernel
set_option maxRecDepth 65536 in
theorem w_t5 : ((((words1.drop 24).drop 24).drop 24).drop 24).all (fun c => isCode c || c.before args0 about1) = true := by decide +kernel
theorem w_tables : (allAtoms (Jvm.Cond.code x code maxLocals ret :: tables_1)).before args0 about1 = true := by
  rw [allAtoms_all]
  show words1.all (fun c => c.before args0 about1) = true
  refine all_split ?_ w_codes
  rw [← List.take_append_drop 24 words1, List.all_append, w_t1, ← List.take_append_drop 24 (words1.drop 24), List.all_append, w_t2, ← List.take_append_drop 24 ((words1.drop 24).drop 24), List.all_append, w_t3, ← List.take_append_drop 24 (((words1.drop 24).drop 24).drop 24), List.all_append, w_t4, w_t5]
  rfl
set_option maxRecDepth 65536 in
theorem w_case : (Jvm.Cond.and given_1 narrow_1).before args0 about1 = true := by decide +kernel
theorem w_applies : (headSpec (Jvm.Cond.code x code maxLocals ret :: tables_1) room_1).applies x e0.platform about1 = true :=
  (Spec.applies_iff w_frames).mpr ⟨w_running, w_runnable, w_alone, w_named, w_hears, w_ripe, w_room, w_tables⟩
theorem atStart : AtStart classFile x code maxLocals ret World_1 tables_1 room_1 Calls_1 rest_1 Pre_1 launch0 p0 e0 about1 theMethod args0 below0 :=
  ⟨lists_1, trivial, launch0.admits_env _ _ _, launch0.least_env, fairChoices_fair.cas, fairChoices_fair.clock, w_frames, w_args, w_heap, w_applies, trivial, trivial, w_case⟩
end start1
theorem witness_1 : WitnessClaimed_1 := ⟨start1.p0, start1.e0, start1.about1, start1.theMethod, start1.args0, start1.below0, start1.atStart⟩
end Jvm.Pilot.@@N@@
