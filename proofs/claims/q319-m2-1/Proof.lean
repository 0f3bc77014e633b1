import JvmDerived
import JvmDerived.Pilot.@@N@@Statement
import JvmDerived.Pilot.@@N@@Code
set_option linter.unusedVariables false
set_option linter.unusedSimpArgs false
namespace Jvm.RoadKit
open Sem ClassFile Op Lib Jvm.Stand Jvm.Free Jvm.LawKit
section Own
variable {p : Program} {l : Launch} {e : Env} {R : Room} {s : State} {m : MethodId} {args : Array Value} {below : List Frame} {meth : Method} {c : Code} {T : State} {locs : List Loc} {cells slots : Nat} {Z : State} {h h' : Heap}
/-- from U the run comes to an end that G allows -/
def Go (p : Program) (e : Env) (below : List Frame) (G : Outcome → State → Prop) (U : State) : Prop := ∃ s₂ o, Steps p.tables e below U s₂ ∧ s₂.status = .running ∧ Ended s₂ below o ∧ G o s₂
theorem Go.st {G : Outcome → State → Prop} {U V : State} (h : ∀ t, Steps p.tables e below V t → Steps p.tables e below U t) (k : Go p e below G V) : Go p e below G U := by
  obtain ⟨s₂, o, a, r⟩ := k; exact ⟨s₂, o, h _ a, r⟩
theorem Go.tr {G : Outcome → State → Prop} {U V : State} (h : Steps p.tables e below U V) (k : Go p e below G V) : Go p e below G U := by
  obtain ⟨s₂, o, a, r⟩ := k; exact ⟨s₂, o, h.trans a, r⟩
theorem Go.en {G : Outcome → State → Prop} {g g' : JFrame} (q : g = g') (k : Go p e below G (T.setTop g')) : Go p e below G (T.setTop g) := q ▸ k
theorem Go.ret {Q : Option Value → Heap → List Loc → Prop} {K N : Nat} {U : State} (X : Stand p l e R s m args below meth c T locs cells slots) {v : Option Value} (hv : meth.sig.returnType = none → v = none) (hlk : meth.locks = false)
    (st : ∀ fs, (∀ (f : JFrame) (acts : List Action), f.method = m → f.locked = none → f.entered = [] → (doReturn e (T.setTop f) acts v).1 = T.setFrames fs) → Steps p.tables e below U (T.setFrames fs)) (eT : T.heap = h) (hQ : Q v h locs) (hk : cells ≤ K) (hn : slots ≤ N) :
    Go p e below (fun o s₂ => ∃ v L, o = .returned v ∧ Q v s₂.heap L ∧ FrameEnd s o s₂ L K N) U := by
  subst eT
  obtain ⟨fs, hr, hrun, hended, hW, hsame⟩ := X.leave hv hlk
  exact ⟨_, _, st fs hr, hrun, hended, _, _, rfl, hQ, ⟨_, rfl⟩, hW, hsame.mono hk hn⟩
theorem Go.retW {Q : Option Value → Heap → List Loc → Prop} {K N k0 : Nat} {U : State} {vm0 : Vm} (hS : s.Since vm0 k0) (hk0 : k0 ≤ h.size) (X : Stand p l e R (s.setVm vm0) m args below meth c T locs cells slots) {v : Option Value} (hv : meth.sig.returnType = none → v = none) (hlk : meth.locks = false)
    (st : ∀ fs, (∀ (f : JFrame) (acts : List Action), f.method = m → f.locked = none → f.entered = [] → (doReturn e (T.setTop f) acts v).1 = T.setFrames fs) → Steps p.tables e below U (T.setFrames fs)) (eT : T.heap = h) (hQ : Q v h locs) (hk : cells ≤ K) (hn : slots ≤ N) :
    Go p e below (fun o s₂ => ∃ v L, o = .returned v ∧ Q v s₂.heap L ∧ ReturnedEndW s o s₂ L K N) U := by
  subst eT
  obtain ⟨fs, hr, hrun, hended, hR⟩ := X.leaveW hS hk0 hv hlk
  exact ⟨_, _, st fs hr, hrun, hended, _, _, rfl, hQ, hR.1, hR.2.1, hR.2.2.1, hR.2.2.2.mono hk hn⟩
/-- RoadKit's backOfS for a callee that is told what the constants hold -/
theorem backOfSC {y : MethodName} {bytes : ByteArray} {maxL : Nat} {ret : Option FieldType} {rm : Room} {len W : Nat} {as' : Array Value} {Q : Option Value → Heap → List Loc → Prop} {EL : List (String × Nat)} {vm0 : Vm} {a0 : Array Value}
    (hM : MetFree l y (head1 [Cond.code y bytes maxL ret] rm) (fun a U => a = as' ∧ Z.Warmed39 U.vm ∧ U.heap = h ∧ CHv Z EL U.vm h) (fun _ _ _ _ _ => True) (fun _ U o U' => ∃ v L, o = .returned v ∧ Q v U'.heap L ∧ ReturnedEndW U o U' L rm.cells rm.slots))
    (hZ : Z.Warmed39 vm0) (wc : (Cond.code y bytes maxL ret).before a0 Z = true) (wz : (Cond.initialized y.cls).before a0 Z = true) (hf : rm.frames + 1 ≤ R.frames) (hl : W + (maxL + 11) + rm.locals ≤ R.locals) (hEL : EW Z a0 EL) (H : CHv Z EL vm0 h) :
    BackS l R p e below (s.setVm vm0) args y len W (fun A a => a = as' ∧ A.U.heap = h ∧ A.cells + rm.cells ≤ R.cells ∧ A.slots + rm.slots ≤ R.slots)
      (fun A _ v B => ∃ L, Q v B.U.heap L ∧ B.locs = A.locs ++ L ∧ B.cells = A.cells + rm.cells ∧ B.slots = A.slots + rm.slots) :=
  BackS.of_freeW (bytes := bytes) (maxL := maxL) (ret := ret) (E := fun _ _ o t L k n => k = rm.cells ∧ n = rm.slots ∧ ∃ v, o = .returned v ∧ Q v t.heap L) hM hf hl
    (fun m meth c A a Y hp => by
      have hU : Z.Warmed39 A.U.vm := wtrans (s := s.setVm vm0) hZ Y.warmed
      exact ⟨by show (Cond.and _ .tt).before a A.U = true; rw [Cond.before_and, mv hU wc]; rfl, mv hU wc, mv hU wz, hp.2.2.1, hp.2.2.2⟩)
    (fun m meth c A a g mk Y hp => ⟨hp.1, wtrans (s := s.setVm vm0) hZ Y.warmed, hp.2.1, (CHv.at Y hZ hEL H).1⟩) (fun _ _ _ _ _ _ _ _ _ => trivial)
    (fun _ _ _ _ ⟨v, L, h1, h2, h3⟩ => ⟨L, _, _, h3, rfl, rfl, v, h1, h2⟩)
    (fun m meth c A a g mk v t L k n Y hp _ _ ⟨e1, e2, v', e3, e4⟩ => by cases e3; subst e1 e2; exact ⟨L, e4, rfl, rfl, rfl⟩)
theorem staKeep0 {C n d : String} {v : Value} (F : Sta Z h C n d v) (K : Keep h h' []) : Sta Z h' C n d v := by
  obtain ⟨cf, i, k, f, st, cell, h1, h2, h3, h4, h5, r⟩ := F
  exact ⟨cf, i, k, f, st, cell, h1, h2, h3, h4, K.2.1 _ _ h5 nin0, r⟩
theorem staKeepE {C n d O : String} {v : Value} {a : Addr} (F : Sta Z h C n d v) (K : Keep h h' [a]) (E : Exa Z h a O) : Sta Z h' C n d v := by
  obtain ⟨cf, i, k, f, st, cell, h1, h2, h3, h4, h5, h6, r⟩ := F
  obtain ⟨c', k', e1, -, -, e4, -⟩ := E
  have ne : st ≠ a := fun q => by subst q; cases h5.symm.trans e1; rw [h6] at e4; cases e4
  exact ⟨cf, i, k, f, st, cell, h1, h2, h3, h4, K.2.1 _ _ h5 (ninS ne nin0), h6, r⟩
/-- getfield where the sheet says the reference resolved -/
theorem getFR (X : Stand p l e R s m args below meth c T locs cells slots) (hx : p.tables.exec = Jvm.exec) (hZ : Z.Warmed39 s.vm) {a0 : Array Value} {own O n d : String} {index : Nat} (hown : s.vm.findClass own = some m.cls) (w : (Cond.fieldRef own index O n d).before a0 Z = true)
    (eT : T.heap = h) {a : Addr} {v : Value} (F : Fld Z h a O n d v) {g : JFrame} (hg : g.method = m) {rest : List Value} (hs : g.stack = .ref a :: rest) (hd : decode c.code g.pc = .ok (.getfield index, 3)) :
    ∀ target, Steps p.tables e below (T.setTop { g with pc := g.pc + 3, stack := v :: rest }) target → Steps p.tables e below (T.setTop g) target := by
  intro target hrest
  obtain ⟨cell, cf, k, i, f, h1, h2, h3, h4, -, -, h7⟩ := F
  have hW : Z.Warmed39 T.vm := wtrans hZ X.warmed
  have q := Cond.fieldRef_warmed39 hW w
  have hcur : (Z.setVm T.vm).vm.findClass own = some m.cls := by
    show T.vm.findClass own = some m.cls
    rw [X.warmed.alike.findClass]; exact hown
  obtain ⟨c', k', i', f', hi, hready⟩ := Cond.fieldRef_spec hcur q
  obtain ⟨k2, hi2, -⟩ := State.fieldFound?_setVm (s := Z) hW.alike h2
  have q3 : (Z.setVm T.vm).fieldFound? O n d = some (cf, k2, i, f) := hi2
  cases hi.symm.trans q3
  subst hg
  jvm_step X.here [hx, hd, getfield.wp_ready (e := e) (s := T) (f := g) X.here.top hready h3 hs (by rw [eT]; exact h1) h4 h7]
  exact hrest
/-- an array of that kind and length, whatever it holds -/
def Arn (Z : State) (h : Heap) (a : Addr) (ty : FieldType) (z : Int32) : Prop := ∃ c : Cell, Arr Z h a c ty ∧ c.slots.size = z.toNatClampNeg ∧ ¬ z < 0
section Arn
variable {a b : Addr} {ty : FieldType} {z : Int32} {sl : Nat} {v : Value} {ws : List Addr}
theorem Arn.lt (F : Arn Z h a ty z) : a < h.size := by obtain ⟨c, A, -⟩ := F; exact A.lt
theorem Arn.nn (F : Arn Z h a ty z) : ¬ z < 0 := by obtain ⟨c, -, -, q⟩ := F; exact q
theorem Arn.ext (F : Arn Z h a ty z) (E : Ext h h') : Arn Z h' a ty z := by obtain ⟨c, A, r⟩ := F; exact ⟨c, A.ext E, r⟩
theorem Arn.other (F : Arn Z h b ty z) (W : Wr h h' a sl v) (q : b ≠ a) : Arn Z h' b ty z := by obtain ⟨c, A, r⟩ := F; exact ⟨c, A.other W q, r⟩
theorem Arn.keep (F : Arn Z h a ty z) (K : Keep h h' ws) (q : a ∉ ws) : Arn Z h' a ty z := by obtain ⟨c, A, r⟩ := F; exact ⟨c, ⟨K.2.1 a c A.1 q, A.2⟩, r⟩
theorem Arn.set {c : Cell} (A : Arr Z h a c ty) (S : c.slots.size = z.toNatClampNeg) (q : ¬ z < 0) (W : Wr h h' a sl v) : Arn Z h' a ty z := ⟨_, A.same W, by rw [sz_set]; exact S, q⟩
theorem Arv.arn {k : ClassId} {vs : List Value} {dv : Value} (F : Arv Z h a k ty z vs dv) : Arn Z h a ty z := by obtain ⟨c, A, -, S, q, -⟩ := F; exact ⟨c, A, S, q⟩
end Arn
theorem staKeepA {C n d : String} {v : Value} {a : Addr} {ty : FieldType} {z : Int32} (F : Sta Z h C n d v) (K : Keep h h' [a]) (E : Arn Z h a ty z) : Sta Z h' C n d v := by
  obtain ⟨cf, i, k, f, st, cell, h1, h2, h3, h4, h5, h6, r⟩ := F
  obtain ⟨c', A, -⟩ := E
  have e4 := A.plain
  have ne : st ≠ a := fun q => by subst q; cases h5.symm.trans A.1; rw [h6] at e4; cases e4
  exact ⟨cf, i, k, f, st, cell, h1, h2, h3, h4, K.2.1 _ _ h5 (ninS ne nin0), h6, r⟩
theorem own_nn {n : Int32} (h : 0 ≤ n.toInt) : ¬ n < 0 := by rw [Int32.lt_iff_toInt_lt]; show ¬ n.toInt < 0; omega
theorem own_cap {n : Int32} {k : Nat} (h : n.toInt ≤ k) : n.toNatClampNeg ≤ k := by simp only [Int32.toNatClampNeg]; omega
theorem own_inc {i z : Int32} (h0 : ¬ i < 0) (h : i < z) : ¬ (i + 1) < 0 ∧ (i + 1).toInt = i.toInt + 1 := by
  have h1 := c_iadd i 1; have h2 := rng32 z; have h3 := rng32 i; have h4 := rng32 (i + 1)
  rw [Int32.lt_iff_toInt_lt] at h0 h ⊢
  have e0 : (0 : Int32).toInt = 0 := rfl
  have e1 : (1 : Int32).toInt = 1 := rfl
  rw [e0] at h0 ⊢; rw [e1] at h1
  omega
theorem own_ge {i z : Int32} (h : z.toInt ≤ i.toInt) : ¬ i < z := by rw [Int32.lt_iff_toInt_lt]; omega
theorem staInt {args : Array Value} {C n d : String} {k : Int32} (h : (Cond.eq (.static C n d) (.int k)).value args Z none Z [] = some true) (hi : (Cond.initializedFor C n d).before args Z = true ∨ ((Cond.initialized C).before args Z = true ∧ (Cond.laysStatic C n d).before args Z = true)) : Sta Z Z.heap C n d (.int k) := by
  obtain ⟨x, y, e1, e2, k1, -⟩ := cmp_v (Or.inl h)
  have e3 : (Term.int k).eval args Z none [] Z = some (.int k) := Term.int_eval k
  cases e2.symm.trans e3
  cases x with
  | int z =>
    have q : (Cond.eq (.static C n d) (.int k)).value args Z none Z [] = some (decide (z = k)) := by simp [Cond.value, e1, e3]
    exact (gotT q h) ▸ Sta.start e1 hi
  | _ => simp [Kin, Value.isRef] at k1
theorem fldNull {args : Array Value} {t : Term} {C n d : String} {a : Addr} (ev : t.eval args Z none [] Z = some (.ref a)) (h : (Cond.eq (.field t C n d) .null).value args Z none Z [] = some true) : Fld Z Z.heap a C n d .null := by
  have e1 := null_v h
  rw [fld_at ev] at e1
  exact Fld.start e1
theorem fldStart {args : Array Value} {t : Term} {C n d : String} {a : Addr} {k : Int32} (ev : t.eval args Z none [] Z = some (.ref a)) (h : (Cond.eq (.field t C n d) (.int k)).value args Z none Z [] = some true) : Fld Z Z.heap a C n d (.int k) := by
  obtain ⟨x, y, e1, e2, k1, -⟩ := cmp_v (Or.inl h)
  rw [fld_at ev] at e1
  have e3 : (Term.int k).eval args Z none [] Z = some (.int k) := Term.int_eval k
  cases e2.symm.trans e3
  cases x with
  | int z =>
    have q : (Cond.eq (.field t C n d) (.int k)).value args Z none Z [] = some (decide (z = k)) := by simp [Cond.value, (fld_at ev).trans e1, e3]
    exact (gotT q h) ▸ Fld.start e1
  | _ => simp [Kin, Value.isRef] at k1
end Own
end Jvm.RoadKit
namespace Jvm.Pilot.@@N@@
open Jvm Jvm.ClassFile Sem Op Lib Jvm.Free Jvm.Stand Jvm.LawKit Jvm.RoadKit Bundle Jvm.Pilot.@@N@@.Jvm.D
theorem own_wS {a0 : Array Value} {Z : State} (hw : ∀ d ∈ tables_1, d.before a0 Z = true) : ∀ a ∈ Bundle.stringAtoms, a.before a0 Z = true := by
  intro a ha
  simp only [Bundle.stringAtoms, List.mem_cons, List.not_mem_nil, or_false] at ha
  rcases ha with rfl | rfl | rfl | rfl | rfl | rfl | rfl
  · exact hw _ (List.mem_of_getElem? (i := 3) rfl)
  · exact hw _ (List.mem_of_getElem? (i := 11) rfl)
  · exact hw _ (List.mem_of_getElem? (i := 15) rfl)
  · exact hw _ (List.mem_of_getElem? (i := 24) rfl)
  · exact hw _ (List.mem_of_getElem? (i := 26) rfl)
  · exact hw _ (List.mem_of_getElem? (i := 49) rfl)
  · exact hw _ (List.mem_of_getElem? (i := 50) rfl)
def own_EL : List (String × Nat) := [("java/lang/String", 7)]
theorem own_mem : ("java/lang/String", 7) ∈ own_EL := List.mem_singleton.mpr rfl
theorem own_EW {a0 : Array Value} {Z : State} (hw : ∀ d ∈ tables_1, d.before a0 Z = true) : EW Z a0 own_EL := EW.cons (hw _ (List.mem_of_getElem? (i := 103) rfl)) (by decide) EW.nil
theorem own_sub : ∀ p ∈ own_EL, p ∈ consts_1 := by decide
theorem own_255 (x : Int32) : ¬ ((255 : Int32) < ((x &&& (255 : Int32)).toUInt32.toUInt16.toUInt32.toInt32)) := by
  have h2 := c_mask x (255 : Int32) 8 (by decide) (by decide)
  have h3 := c_i2c (x &&& (255 : Int32))
  rw [Int32.lt_iff_toInt_lt]
  have e : (255 : Int32).toInt = 255 := rfl
  omega
theorem own_255n (x : Int32) : ¬ ((255 : Int32) < (nar .char ((x &&& (255 : Int32)).toUInt32.toUInt16.toUInt32.toInt32))) := by
  have h2 := c_mask x (255 : Int32) 8 (by decide) (by decide)
  have h3 := c_i2c (x &&& (255 : Int32))
  have h4 := c_i2c ((x &&& (255 : Int32)).toUInt32.toUInt16.toUInt32.toInt32)
  rw [Int32.lt_iff_toInt_lt]
  have e : (255 : Int32).toInt = 255 := rfl
  show ¬ (255 : Int32).toInt < (((x &&& (255 : Int32)).toUInt32.toUInt16.toUInt32.toInt32).toUInt32.toUInt16.toUInt32.toInt32).toInt
  omega

theorem pn_0 : plainName "com/example/mergewell/mergewell/core/SlotIsRootPinLaw" = true := by first | (simp [plainName, overriddenIn]; done) | decide +kernel
theorem ef_0 (m : MethodId) (x0 : Int32) (x1 : Int32) (x2 : Int32) (x3 : Int32) : entryFrame m #[(.int x0), (.int x1), (.int x2), (.int x3)] maxLocals = mkF m 0 #[.val (.int x0), .val (.int x1), .val (.int x2), .val (.int x3), .unset, .unset, .unset, .unset, .unset, .unset, .unset, .unset, .unset] [] := by first | (simp [entryFrame, mkF, argsToLocals, Value.category, maxLocals]; done) | rfl
theorem d1_0 : decode jdk_42_method_139_code 0 = .ok (.getstatic 38, 3) := by decide +kernel
theorem d1_3 : decode jdk_42_method_139_code 3 = .ok (.ifCond .eq 23, 3) := by decide +kernel
theorem d1_6 : decode jdk_42_method_139_code 6 = .ok (.iload_n 0, 1) := by decide +kernel
theorem d1_7 : decode jdk_42_method_139_code 7 = .ok (.invokestatic 1015, 3) := by decide +kernel
theorem d1_10 : decode jdk_42_method_139_code 10 = .ok (.ifCond .eq 16, 3) := by decide +kernel
theorem d1_13 : decode jdk_42_method_139_code 13 = .ok (.new 10, 3) := by decide +kernel
theorem d1_16 : decode jdk_42_method_139_code 16 = .ok (.dup, 1) := by decide +kernel
theorem d1_17 : decode jdk_42_method_139_code 17 = .ok (.iload_n 0, 1) := by decide +kernel
theorem d1_18 : decode jdk_42_method_139_code 18 = .ok (.invokestatic 1018, 3) := by decide +kernel
theorem d1_21 : decode jdk_42_method_139_code 21 = .ok (.iconst 0, 1) := by decide +kernel
theorem d1_22 : decode jdk_42_method_139_code 22 = .ok (.invokespecial 209, 3) := by decide +kernel
theorem d1_25 : decode jdk_42_method_139_code 25 = .ok (.areturn, 1) := by decide +kernel
theorem d1_26 : decode jdk_42_method_139_code 26 = .ok (.new 10, 3) := by decide +kernel
theorem d1_29 : decode jdk_42_method_139_code 29 = .ok (.dup, 1) := by decide +kernel
theorem d1_30 : decode jdk_42_method_139_code 30 = .ok (.iload_n 0, 1) := by decide +kernel
theorem pn_1 : plainName "java/lang/String" = true := by first | (simp [plainName, overriddenIn]; done) | decide +kernel
theorem ef_1 (m : MethodId) (x0 : Int32) : entryFrame m #[(.int x0)] 1 = mkF m 0 #[.val (.int x0)] [] := by first | (simp [entryFrame, mkF, argsToLocals, Value.category]; done) | rfl
theorem d2_0 : decode jdk_43_method_3_code 0 = .ok (.iload_n 0, 1) := by decide +kernel
theorem d2_1 : decode jdk_43_method_3_code 1 = .ok (.sipush 255, 3) := by decide +kernel
theorem d2_4 : decode jdk_43_method_3_code 4 = .ok (.if_icmp .gt 7, 3) := by decide +kernel
theorem d2_7 : decode jdk_43_method_3_code 7 = .ok (.iconst 1, 1) := by decide +kernel
theorem d2_8 : decode jdk_43_method_3_code 8 = .ok (.goto 4, 3) := by decide +kernel
theorem d2_11 : decode jdk_43_method_3_code 11 = .ok (.iconst 0, 1) := by decide +kernel
theorem d2_12 : decode jdk_43_method_3_code 12 = .ok (.ireturn, 1) := by decide +kernel
theorem pn_2 : plainName "java/lang/StringLatin1" = true := by first | (simp [plainName, overriddenIn]; done) | decide +kernel
theorem ef_2 (m : MethodId) (x0 : Int32) : entryFrame m #[(.int x0)] 1 = mkF m 0 #[.val (.int x0)] [] := by first | (simp [entryFrame, mkF, argsToLocals, Value.category]; done) | rfl
theorem d3_0 : decode jdk_43_method_46_code 0 = .ok (.iconst 1, 1) := by decide +kernel
theorem d3_1 : decode jdk_43_method_46_code 1 = .ok (.newarray .byte, 2) := by decide +kernel
theorem d3_3 : decode jdk_43_method_46_code 3 = .ok (.dup, 1) := by decide +kernel
theorem d3_4 : decode jdk_43_method_46_code 4 = .ok (.iconst 0, 1) := by decide +kernel
theorem d3_5 : decode jdk_43_method_46_code 5 = .ok (.iload_n 0, 1) := by decide +kernel
theorem d3_6 : decode jdk_43_method_46_code 6 = .ok (.i2b, 1) := by decide +kernel
theorem d3_7 : decode jdk_43_method_46_code 7 = .ok (.bastore, 1) := by decide +kernel
theorem d3_8 : decode jdk_43_method_46_code 8 = .ok (.areturn, 1) := by decide +kernel
theorem pn_3 : plainName "java/lang/StringLatin1" = true := by first | (simp [plainName, overriddenIn]; done) | decide +kernel
theorem ef_3 (m : MethodId) (x0 : Int32) : entryFrame m #[(.int x0)] 1 = mkF m 0 #[.val (.int x0)] [] := by first | (simp [entryFrame, mkF, argsToLocals, Value.category]; done) | rfl
theorem d4_0 : decode jdk_42_method_151_code 0 = .ok (.aload_n 0, 1) := by decide +kernel
theorem d4_1 : decode jdk_42_method_151_code 1 = .ok (.invokespecial 1, 3) := by decide +kernel
theorem d4_4 : decode jdk_42_method_151_code 4 = .ok (.aload_n 0, 1) := by decide +kernel
theorem d4_5 : decode jdk_42_method_151_code 5 = .ok (.aload_n 1, 1) := by decide +kernel
theorem d4_6 : decode jdk_42_method_151_code 6 = .ok (.putfield 9, 3) := by decide +kernel
theorem d4_9 : decode jdk_42_method_151_code 9 = .ok (.aload_n 0, 1) := by decide +kernel
theorem d4_10 : decode jdk_42_method_151_code 10 = .ok (.iload_n 2, 1) := by decide +kernel
theorem d4_11 : decode jdk_42_method_151_code 11 = .ok (.putfield 15, 3) := by decide +kernel
theorem d4_14 : decode jdk_42_method_151_code 14 = .ok (.return_, 1) := by decide +kernel
theorem pn_4 : plainName "java/lang/String" = true := by first | (simp [plainName, overriddenIn]; done) | decide +kernel
theorem ef_4 (m : MethodId) (x0 : Addr) (x1 : Addr) (x2 : Int32) : entryFrame m #[(.ref x0), (.ref x1), (.int x2)] 3 = mkF m 0 #[.val (.ref x0), .val (.ref x1), .val (.int x2)] [] := by first | (simp [entryFrame, mkF, argsToLocals, Value.category]; done) | rfl
theorem d6_0 : decode prog_6_method_3_code 0 = .ok (.aload_n 0, 1) := by decide +kernel
theorem d6_1 : decode prog_6_method_3_code 1 = .ok (.aload_n 1, 1) := by decide +kernel
theorem d6_2 : decode prog_6_method_3_code 2 = .ok (.aload_n 2, 1) := by decide +kernel
theorem d6_3 : decode prog_6_method_3_code 3 = .ok (.iload_n 3, 1) := by decide +kernel
theorem d6_4 : decode prog_6_method_3_code 4 = .ok (.iconst 1, 1) := by decide +kernel
theorem d6_5 : decode prog_6_method_3_code 5 = .ok (.invokespecial 38, 3) := by decide +kernel
theorem d6_8 : decode prog_6_method_3_code 8 = .ok (.return_, 1) := by decide +kernel
theorem pn_6 : plainName "com/example/mergewell/mergewell/core/Feature" = true := by first | (simp [plainName, overriddenIn]; done) | decide +kernel
theorem ef_6 (m : MethodId) (x0 : Addr) (x1 : Addr) (x2 : Addr) (x3 : Int32) : entryFrame m #[(.ref x0), (.ref x1), (.ref x2), (.int x3)] 4 = mkF m 0 #[.val (.ref x0), .val (.ref x1), .val (.ref x2), .val (.int x3)] [] := by first | (simp [entryFrame, mkF, argsToLocals, Value.category]; done) | rfl
theorem d7_0 : decode prog_6_method_2_code 0 = .ok (.aload_n 0, 1) := by decide +kernel
theorem d7_1 : decode prog_6_method_2_code 1 = .ok (.aload_n 1, 1) := by decide +kernel
theorem d7_2 : decode prog_6_method_2_code 2 = .ok (.aload_n 2, 1) := by decide +kernel
theorem d7_3 : decode prog_6_method_2_code 3 = .ok (.iload_n 3, 1) := by decide +kernel
theorem d7_4 : decode prog_6_method_2_code 4 = .ok (.iload 4, 2) := by decide +kernel
theorem d7_6 : decode prog_6_method_2_code 6 = .ok (.aconst_null, 1) := by decide +kernel
theorem d7_7 : decode prog_6_method_2_code 7 = .ok (.invokespecial 35, 3) := by decide +kernel
theorem d7_10 : decode prog_6_method_2_code 10 = .ok (.return_, 1) := by decide +kernel
theorem pn_7 : plainName "com/example/mergewell/mergewell/core/Feature" = true := by first | (simp [plainName, overriddenIn]; done) | decide +kernel
theorem ef_7 (m : MethodId) (x0 : Addr) (x1 : Addr) (x2 : Addr) (x3 : Int32) (x4 : Int32) : entryFrame m #[(.ref x0), (.ref x1), (.ref x2), (.int x3), (.int x4)] 5 = mkF m 0 #[.val (.ref x0), .val (.ref x1), .val (.ref x2), .val (.int x3), .val (.int x4)] [] := by first | (simp [entryFrame, mkF, argsToLocals, Value.category]; done) | rfl
theorem d8_0 : decode prog_6_method_1_code 0 = .ok (.aload_n 0, 1) := by decide +kernel
theorem d8_1 : decode prog_6_method_1_code 1 = .ok (.invokespecial 1, 3) := by decide +kernel
theorem d8_4 : decode prog_6_method_1_code 4 = .ok (.aload_n 1, 1) := by decide +kernel
theorem d8_5 : decode prog_6_method_1_code 5 = .ok (.ldc 7, 2) := by decide +kernel
theorem d8_7 : decode prog_6_method_1_code 7 = .ok (.invokestatic 9, 3) := by decide +kernel
theorem d8_10 : decode prog_6_method_1_code 10 = .ok (.pop, 1) := by decide +kernel
theorem d8_11 : decode prog_6_method_1_code 11 = .ok (.aload_n 2, 1) := by decide +kernel
theorem d8_12 : decode prog_6_method_1_code 12 = .ok (.ldc 15, 2) := by decide +kernel
theorem d8_14 : decode prog_6_method_1_code 14 = .ok (.invokestatic 9, 3) := by decide +kernel
theorem d8_17 : decode prog_6_method_1_code 17 = .ok (.pop, 1) := by decide +kernel
theorem d8_18 : decode prog_6_method_1_code 18 = .ok (.aload_n 0, 1) := by decide +kernel
theorem d8_19 : decode prog_6_method_1_code 19 = .ok (.aload_n 1, 1) := by decide +kernel
theorem d8_20 : decode prog_6_method_1_code 20 = .ok (.putfield 17, 3) := by decide +kernel
theorem d8_23 : decode prog_6_method_1_code 23 = .ok (.aload_n 0, 1) := by decide +kernel
theorem d8_24 : decode prog_6_method_1_code 24 = .ok (.aload_n 2, 1) := by decide +kernel
theorem d8_25 : decode prog_6_method_1_code 25 = .ok (.putfield 22, 3) := by decide +kernel
theorem d8_28 : decode prog_6_method_1_code 28 = .ok (.aload_n 0, 1) := by decide +kernel
theorem d8_29 : decode prog_6_method_1_code 29 = .ok (.iload_n 3, 1) := by decide +kernel
theorem d8_30 : decode prog_6_method_1_code 30 = .ok (.putfield 25, 3) := by decide +kernel
theorem d8_33 : decode prog_6_method_1_code 33 = .ok (.aload_n 0, 1) := by decide +kernel
theorem d8_34 : decode prog_6_method_1_code 34 = .ok (.iload 4, 2) := by decide +kernel
theorem d8_36 : decode prog_6_method_1_code 36 = .ok (.putfield 29, 3) := by decide +kernel
theorem d8_39 : decode prog_6_method_1_code 39 = .ok (.aload_n 0, 1) := by decide +kernel
theorem d8_40 : decode prog_6_method_1_code 40 = .ok (.aload 5, 2) := by decide +kernel
theorem d8_42 : decode prog_6_method_1_code 42 = .ok (.putfield 32, 3) := by decide +kernel
theorem d8_45 : decode prog_6_method_1_code 45 = .ok (.return_, 1) := by decide +kernel
theorem pn_8 : plainName "com/example/mergewell/mergewell/core/Feature" = true := by first | (simp [plainName, overriddenIn]; done) | decide +kernel
theorem ef_8 (m : MethodId) (x0 : Addr) (x1 : Addr) (x2 : Addr) (x3 : Int32) (x4 : Int32) (x5 : Addr) : entryFrame m #[(.ref x0), (.ref x1), (.ref x2), (.int x3), (.int x4), (.ref x5)] 6 = mkF m 0 #[.val (.ref x0), .val (.ref x1), .val (.ref x2), .val (.int x3), .val (.int x4), .val (.ref x5)] [] := by first | (simp [entryFrame, mkF, argsToLocals, Value.category]; done) | rfl
theorem ef_8x (m : MethodId) (x0 : Addr) (x1 : Addr) (x2 : Addr) (x3 : Int32) (x4 : Int32) : entryFrame m #[(.ref x0), (.ref x1), (.ref x2), (.int x3), (.int x4), .null] 6 = mkF m 0 #[.val (.ref x0), .val (.ref x1), .val (.ref x2), .val (.int x3), .val (.int x4), .val .null] [] := by first | (simp [entryFrame, mkF, argsToLocals, Value.category]; done) | rfl
theorem d9_0 : decode jdk_30_method_1_code 0 = .ok (.aload_n 0, 1) := by decide +kernel
theorem d9_1 : decode jdk_30_method_1_code 1 = .ok (.invokespecial 1, 3) := by decide +kernel
theorem d9_4 : decode jdk_30_method_1_code 4 = .ok (.return_, 1) := by decide +kernel
theorem pn_9 : plainName "java/lang/Record" = true := by first | (simp [plainName, overriddenIn]; done) | decide +kernel
theorem ef_9 (m : MethodId) (x0 : Addr) : entryFrame m #[(.ref x0)] 1 = mkF m 0 #[.val (.ref x0)] [] := by first | (simp [entryFrame, mkF, argsToLocals, Value.category]; done) | rfl
theorem d10_0 : decode jdk_31_method_11_code 0 = .ok (.aload_n 0, 1) := by decide +kernel
theorem d10_1 : decode jdk_31_method_11_code 1 = .ok (.ifnonnull 12, 3) := by decide +kernel
theorem d10_13 : decode jdk_31_method_11_code 13 = .ok (.aload_n 0, 1) := by decide +kernel
theorem d10_14 : decode jdk_31_method_11_code 14 = .ok (.areturn, 1) := by decide +kernel
theorem pn_10 : plainName "java/util/Objects" = true := by first | (simp [plainName, overriddenIn]; done) | decide +kernel
theorem ef_10 (m : MethodId) (x0 : Addr) (x1 : Addr) : entryFrame m #[(.ref x0), (.ref x1)] 2 = mkF m 0 #[.val (.ref x0), .val (.ref x1)] [] := by first | (simp [entryFrame, mkF, argsToLocals, Value.category]; done) | rfl
theorem d11_0 : decode prog_14_method_1_code 0 = .ok (.aload_n 0, 1) := by decide +kernel
theorem d11_1 : decode prog_14_method_1_code 1 = .ok (.invokespecial 1, 3) := by decide +kernel
theorem d11_4 : decode prog_14_method_1_code 4 = .ok (.aload_n 0, 1) := by decide +kernel
theorem d11_5 : decode prog_14_method_1_code 5 = .ok (.aload_n 1, 1) := by decide +kernel
theorem d11_6 : decode prog_14_method_1_code 6 = .ok (.putfield 7, 3) := by decide +kernel
theorem d11_9 : decode prog_14_method_1_code 9 = .ok (.aload_n 0, 1) := by decide +kernel
theorem d11_10 : decode prog_14_method_1_code 10 = .ok (.aload_n 2, 1) := by decide +kernel
theorem d11_11 : decode prog_14_method_1_code 11 = .ok (.putfield 13, 3) := by decide +kernel
theorem d11_14 : decode prog_14_method_1_code 14 = .ok (.return_, 1) := by decide +kernel
theorem pn_11 : plainName "com/example/mergewell/mergewell/core/Slot" = true := by first | (simp [plainName, overriddenIn]; done) | decide +kernel
theorem ef_11 (m : MethodId) (x0 : Addr) (x1 : Addr) (x2 : Addr) : entryFrame m #[(.ref x0), (.ref x1), (.ref x2)] 3 = mkF m 0 #[.val (.ref x0), .val (.ref x1), .val (.ref x2)] [] := by first | (simp [entryFrame, mkF, argsToLocals, Value.category]; done) | rfl
theorem ef_11aa (m : MethodId) (x0 : Addr) : entryFrame m #[(.ref x0), .null, .null] 3 = mkF m 0 #[.val (.ref x0), .val .null, .val .null] [] := by first | (simp [entryFrame, mkF, argsToLocals, Value.category]; done) | rfl
theorem ef_11ab (m : MethodId) (x0 : Addr) (x2 : Addr) : entryFrame m #[(.ref x0), .null, (.ref x2)] 3 = mkF m 0 #[.val (.ref x0), .val .null, .val (.ref x2)] [] := by first | (simp [entryFrame, mkF, argsToLocals, Value.category]; done) | rfl
theorem ef_11ba (m : MethodId) (x0 : Addr) (x1 : Addr) : entryFrame m #[(.ref x0), (.ref x1), .null] 3 = mkF m 0 #[.val (.ref x0), .val (.ref x1), .val .null] [] := by first | (simp [entryFrame, mkF, argsToLocals, Value.category]; done) | rfl
theorem d12_0 : decode prog_14_method_2_code 0 = .ok (.aload_n 0, 1) := by decide +kernel
theorem d12_1 : decode prog_14_method_2_code 1 = .ok (.getfield 7, 3) := by decide +kernel
theorem d12_4 : decode prog_14_method_2_code 4 = .ok (.ifnonnull 7, 3) := by decide +kernel
theorem d12_7 : decode prog_14_method_2_code 7 = .ok (.iconst 1, 1) := by decide +kernel
theorem d12_8 : decode prog_14_method_2_code 8 = .ok (.goto 4, 3) := by decide +kernel
theorem d12_11 : decode prog_14_method_2_code 11 = .ok (.iconst 0, 1) := by decide +kernel
theorem d12_12 : decode prog_14_method_2_code 12 = .ok (.ireturn, 1) := by decide +kernel
theorem pn_12 : plainName "com/example/mergewell/mergewell/core/Slot" = true := by first | (simp [plainName, overriddenIn]; done) | decide +kernel
theorem ef_12 (m : MethodId) (x0 : Addr) : entryFrame m #[(.ref x0)] 1 = mkF m 0 #[.val (.ref x0)] [] := by first | (simp [entryFrame, mkF, argsToLocals, Value.category]; done) | rfl
theorem d13_0 : decode jdk_42_method_3_code 0 = .ok (.aload_n 0, 1) := by decide +kernel
theorem d13_1 : decode jdk_42_method_3_code 1 = .ok (.aload_n 1, 1) := by decide +kernel
theorem d13_2 : decode jdk_42_method_3_code 2 = .ok (.iconst 0, 1) := by decide +kernel
theorem d13_3 : decode jdk_42_method_3_code 3 = .ok (.aload_n 1, 1) := by decide +kernel
theorem d13_4 : decode jdk_42_method_3_code 4 = .ok (.arraylength, 1) := by decide +kernel
theorem d13_5 : decode jdk_42_method_3_code 5 = .ok (.aconst_null, 1) := by decide +kernel
theorem d13_6 : decode jdk_42_method_3_code 6 = .ok (.invokespecial 27, 3) := by decide +kernel
theorem d13_9 : decode jdk_42_method_3_code 9 = .ok (.return_, 1) := by decide +kernel
theorem pn_13 : plainName "java/lang/String" = true := by first | (simp [plainName, overriddenIn]; done) | decide +kernel
theorem ef_13 (m : MethodId) (x0 : Addr) (x1 : Addr) : entryFrame m #[(.ref x0), (.ref x1)] 2 = mkF m 0 #[.val (.ref x0), .val (.ref x1)] [] := by first | (simp [entryFrame, mkF, argsToLocals, Value.category]; done) | rfl
theorem d14_0 : decode jdk_42_method_149_code 0 = .ok (.aload_n 0, 1) := by decide +kernel
theorem d14_1 : decode jdk_42_method_149_code 1 = .ok (.invokespecial 1, 3) := by decide +kernel
theorem d14_4 : decode jdk_42_method_149_code 4 = .ok (.iload_n 3, 1) := by decide +kernel
theorem d14_5 : decode jdk_42_method_149_code 5 = .ok (.ifCond .ne 22, 3) := by decide +kernel
theorem d14_8 : decode jdk_42_method_149_code 8 = .ok (.aload_n 0, 1) := by decide +kernel
theorem d14_9 : decode jdk_42_method_149_code 9 = .ok (.ldc 7, 2) := by decide +kernel
theorem d14_11 : decode jdk_42_method_149_code 11 = .ok (.getfield 9, 3) := by decide +kernel
theorem d14_14 : decode jdk_42_method_149_code 14 = .ok (.putfield 9, 3) := by decide +kernel
theorem d14_17 : decode jdk_42_method_149_code 17 = .ok (.aload_n 0, 1) := by decide +kernel
theorem d14_18 : decode jdk_42_method_149_code 18 = .ok (.ldc 7, 2) := by decide +kernel
theorem d14_20 : decode jdk_42_method_149_code 20 = .ok (.getfield 15, 3) := by decide +kernel
theorem d14_23 : decode jdk_42_method_149_code 23 = .ok (.putfield 15, 3) := by decide +kernel
theorem d14_26 : decode jdk_42_method_149_code 26 = .ok (.return_, 1) := by decide +kernel
theorem d14_27 : decode jdk_42_method_149_code 27 = .ok (.getstatic 38, 3) := by decide +kernel
theorem d14_30 : decode jdk_42_method_149_code 30 = .ok (.ifCond .eq 28, 3) := by decide +kernel
theorem d14_33 : decode jdk_42_method_149_code 33 = .ok (.aload_n 1, 1) := by decide +kernel
theorem d14_34 : decode jdk_42_method_149_code 34 = .ok (.iload_n 2, 1) := by decide +kernel
theorem d14_35 : decode jdk_42_method_149_code 35 = .ok (.iload_n 3, 1) := by decide +kernel
theorem d14_36 : decode jdk_42_method_149_code 36 = .ok (.invokestatic 177, 3) := by decide +kernel
theorem d14_39 : decode jdk_42_method_149_code 39 = .ok (.astore 5, 2) := by decide +kernel
theorem d14_41 : decode jdk_42_method_149_code 41 = .ok (.aload_n 0, 1) := by decide +kernel
theorem d14_42 : decode jdk_42_method_149_code 42 = .ok (.aload 5, 2) := by decide +kernel
theorem d14_44 : decode jdk_42_method_149_code 44 = .ok (.iload_n 3, 1) := by decide +kernel
theorem d14_45 : decode jdk_42_method_149_code 45 = .ok (.invokestatic 47, 3) := by decide +kernel
theorem d14_48 : decode jdk_42_method_149_code 48 = .ok (.putfield 15, 3) := by decide +kernel
theorem d14_51 : decode jdk_42_method_149_code 51 = .ok (.aload_n 0, 1) := by decide +kernel
theorem d14_52 : decode jdk_42_method_149_code 52 = .ok (.aload 5, 2) := by decide +kernel
theorem d14_54 : decode jdk_42_method_149_code 54 = .ok (.putfield 9, 3) := by decide +kernel
theorem d14_57 : decode jdk_42_method_149_code 57 = .ok (.return_, 1) := by decide +kernel
theorem d14_58 : decode jdk_42_method_149_code 58 = .ok (.aload_n 0, 1) := by decide +kernel
theorem d14_59 : decode jdk_42_method_149_code 59 = .ok (.iconst 1, 1) := by decide +kernel
theorem d14_60 : decode jdk_42_method_149_code 60 = .ok (.putfield 15, 3) := by decide +kernel
theorem d14_63 : decode jdk_42_method_149_code 63 = .ok (.aload_n 0, 1) := by decide +kernel
theorem d14_64 : decode jdk_42_method_149_code 64 = .ok (.aload_n 1, 1) := by decide +kernel
theorem d14_65 : decode jdk_42_method_149_code 65 = .ok (.iload_n 2, 1) := by decide +kernel
theorem d14_66 : decode jdk_42_method_149_code 66 = .ok (.iload_n 3, 1) := by decide +kernel
theorem pn_14 : plainName "java/lang/String" = true := by first | (simp [plainName, overriddenIn]; done) | decide +kernel
theorem ef_14 (m : MethodId) (x0 : Addr) (x1 : Addr) (x2 : Int32) (x3 : Int32) (x4 : Addr) : entryFrame m #[(.ref x0), (.ref x1), (.int x2), (.int x3), (.ref x4)] 6 = mkF m 0 #[.val (.ref x0), .val (.ref x1), .val (.int x2), .val (.int x3), .val (.ref x4), .unset] [] := by first | (simp [entryFrame, mkF, argsToLocals, Value.category]; done) | rfl
theorem ef_142 (m : MethodId) (x0 : Addr) (x1 : Addr) (x2 : Int32) (x3 : Int32) : entryFrame m #[(.ref x0), (.ref x1), (.int x2), (.int x3), .null] 6 = mkF m 0 #[.val (.ref x0), .val (.ref x1), .val (.int x2), .val (.int x3), .val .null, .unset] [] := by first | (simp [entryFrame, mkF, argsToLocals, Value.category]; done) | rfl
theorem ef_14e (m : MethodId) (x0 : Addr) (x1 : Addr) (x2 : Int32) (x3 : Int32) : entryFrame m #[(.ref x0), (.ref x1), (.int x2), (.int x3), .null] 6 = mkF m 0 #[.val (.ref x0), .val (.ref x1), .val (.int x2), .val (.int x3), .val .null, .unset] [] := by first | (simp [entryFrame, mkF, argsToLocals, Value.category]; done) | rfl
theorem d15_0 : decode jdk_52_method_16_code 0 = .ok (.iload_n 2, 1) := by decide +kernel
theorem d15_1 : decode jdk_52_method_16_code 1 = .ok (.newarray .byte, 2) := by decide +kernel
theorem d15_3 : decode jdk_52_method_16_code 3 = .ok (.astore_n 3, 1) := by decide +kernel
theorem d15_4 : decode jdk_52_method_16_code 4 = .ok (.aload_n 0, 1) := by decide +kernel
theorem d15_5 : decode jdk_52_method_16_code 5 = .ok (.iload_n 1, 1) := by decide +kernel
theorem d15_6 : decode jdk_52_method_16_code 6 = .ok (.aload_n 3, 1) := by decide +kernel
theorem d15_7 : decode jdk_52_method_16_code 7 = .ok (.iconst 0, 1) := by decide +kernel
theorem d15_8 : decode jdk_52_method_16_code 8 = .ok (.iload_n 2, 1) := by decide +kernel
theorem d15_9 : decode jdk_52_method_16_code 9 = .ok (.invokestatic 115, 3) := by decide +kernel
theorem d15_12 : decode jdk_52_method_16_code 12 = .ok (.istore 4, 2) := by decide +kernel
theorem d15_14 : decode jdk_52_method_16_code 14 = .ok (.iload 4, 2) := by decide +kernel
theorem d15_16 : decode jdk_52_method_16_code 16 = .ok (.iload_n 2, 1) := by decide +kernel
theorem d15_17 : decode jdk_52_method_16_code 17 = .ok (.if_icmp .eq 40, 3) := by decide +kernel
theorem d15_57 : decode jdk_52_method_16_code 57 = .ok (.aload_n 3, 1) := by decide +kernel
theorem d15_58 : decode jdk_52_method_16_code 58 = .ok (.areturn, 1) := by decide +kernel
theorem pn_15 : plainName "java/lang/StringUTF16" = true := by first | (simp [plainName, overriddenIn]; done) | decide +kernel
theorem ef_15 (m : MethodId) (x0 : Addr) (x1 : Int32) (x2 : Int32) : entryFrame m #[(.ref x0), (.int x1), (.int x2)] 6 = mkF m 0 #[.val (.ref x0), .val (.int x1), .val (.int x2), .unset, .unset, .unset] [] := by first | (simp [entryFrame, mkF, argsToLocals, Value.category]; done) | rfl
theorem d16_0 : decode jdk_52_method_21_code 0 = .ok (.iconst 0, 1) := by decide +kernel
theorem d16_1 : decode jdk_52_method_21_code 1 = .ok (.istore 5, 2) := by decide +kernel
theorem d16_3 : decode jdk_52_method_21_code 3 = .ok (.iload 5, 2) := by decide +kernel
theorem d16_5 : decode jdk_52_method_21_code 5 = .ok (.iload 4, 2) := by decide +kernel
theorem d16_7 : decode jdk_52_method_21_code 7 = .ok (.if_icmp .ge 37, 3) := by decide +kernel
theorem d16_10 : decode jdk_52_method_21_code 10 = .ok (.aload_n 0, 1) := by decide +kernel
theorem d16_11 : decode jdk_52_method_21_code 11 = .ok (.iload_n 1, 1) := by decide +kernel
theorem d16_12 : decode jdk_52_method_21_code 12 = .ok (.caload, 1) := by decide +kernel
theorem d16_13 : decode jdk_52_method_21_code 13 = .ok (.istore 6, 2) := by decide +kernel
theorem d16_15 : decode jdk_52_method_21_code 15 = .ok (.iload 6, 2) := by decide +kernel
theorem d16_17 : decode jdk_52_method_21_code 17 = .ok (.sipush 255, 3) := by decide +kernel
theorem d16_20 : decode jdk_52_method_21_code 20 = .ok (.if_icmp .le 6, 3) := by decide +kernel
theorem d16_26 : decode jdk_52_method_21_code 26 = .ok (.aload_n 2, 1) := by decide +kernel
theorem d16_27 : decode jdk_52_method_21_code 27 = .ok (.iload_n 3, 1) := by decide +kernel
theorem d16_28 : decode jdk_52_method_21_code 28 = .ok (.iload 6, 2) := by decide +kernel
theorem d16_30 : decode jdk_52_method_21_code 30 = .ok (.i2b, 1) := by decide +kernel
theorem d16_31 : decode jdk_52_method_21_code 31 = .ok (.bastore, 1) := by decide +kernel
theorem d16_32 : decode jdk_52_method_21_code 32 = .ok (.iinc 1 1, 3) := by decide +kernel
theorem d16_35 : decode jdk_52_method_21_code 35 = .ok (.iinc 3 1, 3) := by decide +kernel
theorem d16_38 : decode jdk_52_method_21_code 38 = .ok (.iinc 5 1, 3) := by decide +kernel
theorem d16_41 : decode jdk_52_method_21_code 41 = .ok (.goto (-38), 3) := by decide +kernel
theorem d16_44 : decode jdk_52_method_21_code 44 = .ok (.iload 4, 2) := by decide +kernel
theorem d16_46 : decode jdk_52_method_21_code 46 = .ok (.ireturn, 1) := by decide +kernel
theorem pn_16 : plainName "java/lang/StringUTF16" = true := by first | (simp [plainName, overriddenIn]; done) | decide +kernel
theorem ef_16 (m : MethodId) (x0 : Addr) (x1 : Int32) (x2 : Addr) (x3 : Int32) (x4 : Int32) : entryFrame m #[(.ref x0), (.int x1), (.ref x2), (.int x3), (.int x4)] 7 = mkF m 0 #[.val (.ref x0), .val (.int x1), .val (.ref x2), .val (.int x3), .val (.int x4), .unset, .unset] [] := by first | (simp [entryFrame, mkF, argsToLocals, Value.category]; done) | rfl
theorem d17_0 : decode jdk_52_method_15_code 0 = .ok (.iload_n 1, 1) := by decide +kernel
theorem d17_1 : decode jdk_52_method_15_code 1 = .ok (.aload_n 0, 1) := by decide +kernel
theorem d17_2 : decode jdk_52_method_15_code 2 = .ok (.arraylength, 1) := by decide +kernel
theorem d17_3 : decode jdk_52_method_15_code 3 = .ok (.isub, 1) := by decide +kernel
theorem d17_4 : decode jdk_52_method_15_code 4 = .ok (.bipush 31, 2) := by decide +kernel
theorem d17_6 : decode jdk_52_method_15_code 6 = .ok (.iushr, 1) := by decide +kernel
theorem d17_7 : decode jdk_52_method_15_code 7 = .ok (.i2b, 1) := by decide +kernel
theorem d17_8 : decode jdk_52_method_15_code 8 = .ok (.ireturn, 1) := by decide +kernel
theorem pn_17 : plainName "java/lang/StringUTF16" = true := by first | (simp [plainName, overriddenIn]; done) | decide +kernel
theorem ef_17 (m : MethodId) (x0 : Addr) (x1 : Int32) : entryFrame m #[(.ref x0), (.int x1)] 2 = mkF m 0 #[.val (.ref x0), .val (.int x1)] [] := by first | (simp [entryFrame, mkF, argsToLocals, Value.category]; done) | rfl
theorem pd_0 : parseMethodDescriptor "(C)Z" = some ⟨[.char], some .boolean⟩ := by decide +kernel
theorem pd_1 : parseMethodDescriptor "(C)[B" = some ⟨[.char], some (.array .byte)⟩ := by decide +kernel
theorem pd_2 : parseMethodDescriptor "([BB)V" = some ⟨[(.array .byte), .byte], none⟩ := by decide +kernel
theorem pd_3 : parseMethodDescriptor "([CI[BII)I" = some ⟨[(.array .char), .int, (.array .byte), .int, .int], some .int⟩ := by decide +kernel
theorem pd_4 : parseMethodDescriptor "([CII)[B" = some ⟨[(.array .char), .int, .int], some (.array .byte)⟩ := by decide +kernel
theorem pd_5 : parseMethodDescriptor "([BI)B" = some ⟨[(.array .byte), .int], some .byte⟩ := by decide +kernel
theorem pd_6 : parseMethodDescriptor "([CIILjava/lang/Void;)V" = some ⟨[(.array .char), .int, .int, (.object "java/lang/Void")], none⟩ := by decide +kernel
theorem pd_7 : parseMethodDescriptor "()V" = some ⟨[], none⟩ := by decide +kernel
theorem pd_8 : parseMethodDescriptor "(Ljava/lang/Object;Ljava/lang/String;)Ljava/lang/Object;" = some ⟨[(.object "java/lang/Object"), (.object "java/lang/String")], some (.object "java/lang/Object")⟩ := by decide +kernel
theorem pd_9 : parseMethodDescriptor "(Ljava/lang/String;Lcom/example/mergewell/mergewell/core/Feature$Kind;ZZLjava/lang/String;)V" = some ⟨[(.object "java/lang/String"), (.object "com/example/mergewell/mergewell/core/Feature$Kind"), .boolean, .boolean, (.object "java/lang/String")], none⟩ := by decide +kernel
theorem pd_10 : parseMethodDescriptor "(Ljava/lang/String;Lcom/example/mergewell/mergewell/core/Feature$Kind;ZZ)V" = some ⟨[(.object "java/lang/String"), (.object "com/example/mergewell/mergewell/core/Feature$Kind"), .boolean, .boolean], none⟩ := by decide +kernel
theorem pd_11 : parseMethodDescriptor "(Ljava/lang/String;Lcom/example/mergewell/mergewell/core/Feature$Kind;Z)V" = some ⟨[(.object "java/lang/String"), (.object "com/example/mergewell/mergewell/core/Feature$Kind"), .boolean], none⟩ := by decide +kernel
theorem pd_12 : parseMethodDescriptor "(Ljava/lang/String;Lcom/example/mergewell/mergewell/core/Feature;)V" = some ⟨[(.object "java/lang/String"), (.object "com/example/mergewell/mergewell/core/Feature")], none⟩ := by decide +kernel
theorem pd_13 : parseMethodDescriptor "()Z" = some ⟨[], some .boolean⟩ := by decide +kernel
theorem pd_14 : parseMethodDescriptor "([C)V" = some ⟨[(.array .char)], none⟩ := by decide +kernel
theorem pd_15 : parseMethodDescriptor "(C)Ljava/lang/String;" = some ⟨[.char], some (.object "java/lang/String")⟩ := by decide +kernel
def Qm2_t (Z : State) (p1 : Int32) (h0 : Heap) (n0 : Nat) (v : Option Value) (h : Heap) (L : List Loc) : Prop := v = some (.int (0 : Int32)) ∧ Fr n0 L ∧ h = h0
set_option maxRecDepth 65536 in
set_option maxHeartbeats 40000000 in
theorem rm2_t (l : Launch) (Z : State) (a0 : Array Value) (hw : ∀ d ∈ tables_1, d.before a0 Z = true) (ws : List Jvm.Cond) (p1 : Int32) (h0 : Heap) (n0 : Nat) (Z0 : n0 ≤ h0.size) (hd0 : (255 : Int32) < p1) :
    MetFree l (⟨"java/lang/StringLatin1", "canEncode", "(C)Z"⟩ : MethodName) (head1 (Jvm.Cond.code (⟨"java/lang/StringLatin1", "canEncode", "(C)Z"⟩ : MethodName) jdk_43_method_3_code 1 (some .boolean) :: ws) ({ frames := 0, cells := 0, slots := 0, locals := 0 } : Room)) (fun a U => a = #[(.int p1)] ∧ Z.Warmed39 U.vm ∧ U.heap = h0) (fun _ _ _ _ _ => True) (fun _ U o U' => ∃ v L, o = .returned v ∧ Qm2_t Z p1 h0 n0 v U'.heap L ∧ FrameEnd U o U' L ({ frames := 0, cells := 0, slots := 0, locals := 0 } : Room).cells ({ frames := 0, cells := 0, slots := 0, locals := 0 } : Room).slots) := by
  refine MetFree.of_bodySF (plainFor_of_name pn_2) hisR ?_
  intro p e s m args below meth c s₁ Bd hml0 hP hK
  obtain ⟨rfl, hZ, hh⟩ := hP
  have hx := Bd.exec
  have hby := Bd.bytes
  have hml : c.maxLocals = 1 := hml0
  have hown : s.vm.findClass "java/lang/StringLatin1" = some m.cls := findClass_of_methodNamed Bd.named
  have hnm := (name_of_methodNamed Bd.named Bd.method).1
  have X0 : Stand p l e ({ frames := 0, cells := 0, slots := 0, locals := 0 } : Room) s m #[(.int p1)] below meth c s₁ [] 0 0 := Stand.of_body Bd
  have e0 : s₁.heap = h0 := by rw [← hh, Bd.state]; rfl
  have N0 := Fr.nil n0
  refine Go.en (ef_2 m p1) ?_
  show Go p e below _ (s₁.setTop (mkF m 0 #[.val (.int p1)] []))
  refine Go.st (fun _ kk => XS.iloadN X0.here hx rfl (hb hby d2_0) rfl  kk) ?_
  show Go p e below _ (s₁.setTop (mkF m 1 #[.val (.int p1)] [(.int p1)]))
  refine Go.st (fun _ kk => XS.sipush X0.here hx rfl (hb hby d2_1) kk) ?_
  show Go p e below _ (s₁.setTop (mkF m 4 #[.val (.int p1)] [(.int (255 : Int32)), (.int p1)]))
  refine Go.st (fun _ kk => XS.icmpYes X0.here hx rfl (pc0 := 4) (pc' := 11) rfl (hb hby d2_4) rfl (tlt hd0).2.2.1 (by decide) (by decide) kk) ?_
  show Go p e below _ (s₁.setTop (mkF m 11 #[.val (.int p1)] []))
  refine Go.st (fun _ kk => XS.iconst X0.here hx rfl (hb hby d2_11) kk) ?_
  show Go p e below _ (s₁.setTop (mkF m 12 #[.val (.int p1)] [(.int (0 : Int32))]))
  exact Go.ret (Q := Qm2_t Z p1 h0 n0) X0 (v := some (.int (0 : Int32))) (fun h => by rw [Bd.returns] at h; cases h) Bd.notSynchronized (fun fs hr => retN X0 hx (t := .boolean) Bd.returns (by simp) (hb hby d2_12) hr) e0 ⟨rfl, N0, rfl⟩ (by decide) (by decide)
def Qm2_f (Z : State) (p1 : Int32) (h0 : Heap) (n0 : Nat) (v : Option Value) (h : Heap) (L : List Loc) : Prop := v = some (.int (1 : Int32)) ∧ Fr n0 L ∧ h = h0
set_option maxRecDepth 65536 in
set_option maxHeartbeats 40000000 in
theorem rm2_f (l : Launch) (Z : State) (a0 : Array Value) (hw : ∀ d ∈ tables_1, d.before a0 Z = true) (ws : List Jvm.Cond) (p1 : Int32) (h0 : Heap) (n0 : Nat) (Z0 : n0 ≤ h0.size) (hd0 : ¬ ((255 : Int32) < p1)) :
    MetFree l (⟨"java/lang/StringLatin1", "canEncode", "(C)Z"⟩ : MethodName) (head1 (Jvm.Cond.code (⟨"java/lang/StringLatin1", "canEncode", "(C)Z"⟩ : MethodName) jdk_43_method_3_code 1 (some .boolean) :: ws) ({ frames := 0, cells := 0, slots := 0, locals := 0 } : Room)) (fun a U => a = #[(.int p1)] ∧ Z.Warmed39 U.vm ∧ U.heap = h0) (fun _ _ _ _ _ => True) (fun _ U o U' => ∃ v L, o = .returned v ∧ Qm2_f Z p1 h0 n0 v U'.heap L ∧ FrameEnd U o U' L ({ frames := 0, cells := 0, slots := 0, locals := 0 } : Room).cells ({ frames := 0, cells := 0, slots := 0, locals := 0 } : Room).slots) := by
  refine MetFree.of_bodySF (plainFor_of_name pn_2) hisR ?_
  intro p e s m args below meth c s₁ Bd hml0 hP hK
  obtain ⟨rfl, hZ, hh⟩ := hP
  have hx := Bd.exec
  have hby := Bd.bytes
  have hml : c.maxLocals = 1 := hml0
  have hown : s.vm.findClass "java/lang/StringLatin1" = some m.cls := findClass_of_methodNamed Bd.named
  have hnm := (name_of_methodNamed Bd.named Bd.method).1
  have X0 : Stand p l e ({ frames := 0, cells := 0, slots := 0, locals := 0 } : Room) s m #[(.int p1)] below meth c s₁ [] 0 0 := Stand.of_body Bd
  have e0 : s₁.heap = h0 := by rw [← hh, Bd.state]; rfl
  have N0 := Fr.nil n0
  refine Go.en (ef_2 m p1) ?_
  show Go p e below _ (s₁.setTop (mkF m 0 #[.val (.int p1)] []))
  refine Go.st (fun _ kk => XS.iloadN X0.here hx rfl (hb hby d2_0) rfl  kk) ?_
  show Go p e below _ (s₁.setTop (mkF m 1 #[.val (.int p1)] [(.int p1)]))
  refine Go.st (fun _ kk => XS.sipush X0.here hx rfl (hb hby d2_1) kk) ?_
  show Go p e below _ (s₁.setTop (mkF m 4 #[.val (.int p1)] [(.int (255 : Int32)), (.int p1)]))
  refine Go.st (fun _ kk => XS.icmpNo X0.here hx rfl (hb hby d2_4) rfl (flt hd0).2.2.1 kk) ?_
  show Go p e below _ (s₁.setTop (mkF m 7 #[.val (.int p1)] []))
  refine Go.st (fun _ kk => XS.iconst X0.here hx rfl (hb hby d2_7) kk) ?_
  show Go p e below _ (s₁.setTop (mkF m 8 #[.val (.int p1)] [(.int (1 : Int32))]))
  refine Go.st (fun _ kk => XS.goto X0.here hx rfl (pc0 := 8) (pc' := 12) rfl (hb hby d2_8) (by decide) (by decide) kk) ?_
  show Go p e below _ (s₁.setTop (mkF m 12 #[.val (.int p1)] [(.int (1 : Int32))]))
  exact Go.ret (Q := Qm2_f Z p1 h0 n0) X0 (v := some (.int (1 : Int32))) (fun h => by rw [Bd.returns] at h; cases h) Bd.notSynchronized (fun fs hr => retN X0 hx (t := .boolean) Bd.returns (by simp) (hb hby d2_12) hr) e0 ⟨rfl, N0, rfl⟩ (by decide) (by decide)
def Qm3_o (Z : State) (p1 : Int32) (h0 : Heap) (n0 : Nat) (v : Option Value) (h : Heap) (L : List Loc) : Prop := ∃ (b2 : Addr) (k2 : ClassId), v = some (.ref b2) ∧ Fr n0 L ∧ Keep h0 h [] ∧ n0 ≤ b2 ∧ h0.size ≤ b2 ∧ Arv Z h b2 k2 .byte (1 : Int32) [(.int (nar .byte (p1.toInt8.toInt32)))] (.int (0 : Int32))
set_option maxRecDepth 65536 in
set_option maxHeartbeats 40000000 in
theorem rm3_o (l : Launch) (Z : State) (a0 : Array Value) (hw : ∀ d ∈ tables_1, d.before a0 Z = true) (ws : List Jvm.Cond) (p1 : Int32) (h0 : Heap) (n0 : Nat) (Z0 : n0 ≤ h0.size) :
    MetFree l (⟨"java/lang/StringLatin1", "toBytes", "(C)[B"⟩ : MethodName) (head1 (Jvm.Cond.code (⟨"java/lang/StringLatin1", "toBytes", "(C)[B"⟩ : MethodName) jdk_43_method_46_code 1 (some (.array .byte)) :: ws) ({ frames := 0, cells := 1, slots := 1, locals := 0 } : Room)) (fun a U => a = #[(.int p1)] ∧ Z.Warmed39 U.vm ∧ U.heap = h0) (fun _ _ _ _ _ => True) (fun _ U o U' => ∃ v L, o = .returned v ∧ Qm3_o Z p1 h0 n0 v U'.heap L ∧ FrameEnd U o U' L ({ frames := 0, cells := 1, slots := 1, locals := 0 } : Room).cells ({ frames := 0, cells := 1, slots := 1, locals := 0 } : Room).slots) := by
  refine MetFree.of_bodySF (plainFor_of_name pn_3) hisR ?_
  intro p e s m args below meth c s₁ Bd hml0 hP hK
  obtain ⟨rfl, hZ, hh⟩ := hP
  have hx := Bd.exec
  have hby := Bd.bytes
  have hml : c.maxLocals = 1 := hml0
  have hown : s.vm.findClass "java/lang/StringLatin1" = some m.cls := findClass_of_methodNamed Bd.named
  have hnm := (name_of_methodNamed Bd.named Bd.method).1
  have X0 : Stand p l e ({ frames := 0, cells := 1, slots := 1, locals := 0 } : Room) s m #[(.int p1)] below meth c s₁ [] 0 0 := Stand.of_body Bd
  have e0 : s₁.heap = h0 := by rw [← hh, Bd.state]; rfl
  have N0 := Fr.nil n0
  refine Go.en (ef_3 m p1) ?_
  show Go p e below _ (s₁.setTop (mkF m 0 #[.val (.int p1)] []))
  refine Go.st (fun _ kk => XS.iconst X0.here hx rfl (hb hby d3_0) kk) ?_
  show Go p e below _ (s₁.setTop (mkF m 1 #[.val (.int p1)] [(.int (1 : Int32))]))
  obtain ⟨T2, h2, k2, X2, e2, E2, A2, st2⟩ := newP X0 hx hZ (hw _ (List.mem_of_getElem? (i := 15) rfl)) e0 (g := (mkF m 1 #[.val (.int p1)] [(.int (1 : Int32))])) rfl (hb hby d3_1) rfl (by decide) (cap := 1) (by decide) (by decide) (by decide) (by decide)
  obtain ⟨b2, g2⟩ : ∃ z, z = h0.size := ⟨_, rfl⟩
  rw [← g2] at A2 st2
  refine Go.st st2 ?_
  have g_b2 : n0 ≤ b2 := Nat.le_trans Z0 (Nat.le_of_eq g2.symm)
  have sz_b2 : h0.size ≤ b2 := Nat.le_of_eq g2.symm
  have K2 : Keep h0 h2 [] := (Keep.refl h0 []).ext E2
  have V_b2 : Arv Z h2 b2 k2 .byte (1 : Int32) [(.int (0 : Int32))] (.int (0 : Int32)) := (Arv.new A2 (by decide)).pad (pad_rep [] (.int (0 : Int32)) 1)
  show Go p e below _ (T2.setTop (mkF m 3 #[.val (.int p1)] [(.ref b2)]))
  refine Go.st (fun _ kk => XS.dup X2.here hx rfl (hb hby d3_3) rfl rfl kk) ?_
  show Go p e below _ (T2.setTop (mkF m 4 #[.val (.int p1)] [(.ref b2), (.ref b2)]))
  refine Go.st (fun _ kk => XS.iconst X2.here hx rfl (hb hby d3_4) kk) ?_
  show Go p e below _ (T2.setTop (mkF m 5 #[.val (.int p1)] [(.int (0 : Int32)), (.ref b2), (.ref b2)]))
  refine Go.st (fun _ kk => XS.iloadN X2.here hx rfl (hb hby d3_5) rfl  kk) ?_
  show Go p e below _ (T2.setTop (mkF m 6 #[.val (.int p1)] [(.int p1), (.int (0 : Int32)), (.ref b2), (.ref b2)]))
  refine Go.st (fun _ kk => XS.i2b X2.here hx rfl (hb hby d3_6) rfl kk) ?_
  show Go p e below _ (T2.setTop (mkF m 7 #[.val (.int p1)] [(.int (p1.toInt8.toInt32)), (.int (0 : Int32)), (.ref b2), (.ref b2)]))
  obtain ⟨clq3, Arq3, caq3, saq3, naq3, haq3, gaq3⟩ := id V_b2
  have inq3 : ¬ ((0 : Int32) < 0 ∨ clq3.slots.size ≤ ((0 : Int32)).toNatClampNeg) := inb_of saq3 ⟨by decide, by decide⟩
  obtain ⟨T4, h4, X4, e4, W4, st4⟩ := stB X2 hx hZ e2 Arq3 (j := (0 : Int32)) inq3 (g := (mkF m 7 #[.val (.int p1)] [(.int (p1.toInt8.toInt32)), (.int (0 : Int32)), (.ref b2), (.ref b2)])) rfl rfl (hb hby d3_7)
  refine Go.st st4 ?_
  have K4 : Keep h0 h4 [] := K2.wr W4 (Or.inr sz_b2)
  have V4 : Arv Z h4 b2 k2 .byte (1 : Int32) [(.int (nar .byte (p1.toInt8.toInt32)))] (.int (0 : Int32)) := Arv.set Arq3 caq3 saq3 naq3 haq3 gaq3 (fits_nar_byte _) W4 0 rfl (Nat.le_of_ble_eq_true rfl)
  have N4 := Fr.snoc X4 N0 g_b2
  show Go p e below _ (T4.setTop (mkF m 8 #[.val (.int p1)] [(.ref b2)]))
  exact Go.ret (Q := Qm3_o Z p1 h0 n0) X4 (v := some (.ref b2)) (fun h => by rw [Bd.returns] at h; cases h) Bd.notSynchronized (fun fs hr => retOut X4 hx Bd.returns rfl (Or.inr (Or.inr (Or.inr (Or.inr ⟨rfl, rfl, rfl⟩)))) (hb hby d3_8) hr) e4 ⟨b2, k2, rfl, N4, K4, g_b2, sz_b2, V4⟩ (by decide) (by decide)
def Qm4_o (Z : State) (a1 : Addr) (a2 : Addr) (p3 : Int32) (u_value_a1 : Value) (u_coder_a1 : Value) (h0 : Heap) (n0 : Nat) (v : Option Value) (h : Heap) (L : List Loc) : Prop := v = none ∧ Fr n0 L ∧ Keep h0 h [a1] ∧ Exa Z h a1 "java/lang/String"
set_option maxRecDepth 65536 in
set_option maxHeartbeats 40000000 in
theorem rm4_o (l : Launch) (Z : State) (a0 : Array Value) (hw : ∀ d ∈ tables_1, d.before a0 Z = true) (ws : List Jvm.Cond) (a1 : Addr) (a2 : Addr) (p3 : Int32) (u_value_a1 : Value) (u_coder_a1 : Value) (h0 : Heap) (n0 : Nat) (Z0 : n0 ≤ h0.size) (E_a1 : Exa Z h0 a1 "java/lang/String") (F_value_a1 : Fld Z h0 a1 "java/lang/String" "value" "[B" u_value_a1) (g_a1 : n0 ≤ a1) (F_coder_a1 : Fld Z h0 a1 "java/lang/String" "coder" "B" u_coder_a1) :
    MetFree l (⟨"java/lang/String", "<init>", "([BB)V"⟩ : MethodName) (head1 (Jvm.Cond.code (⟨"java/lang/String", "<init>", "([BB)V"⟩ : MethodName) jdk_42_method_151_code 3 none :: ws) ({ frames := 1, cells := 0, slots := 0, locals := 12 } : Room)) (fun a U => a = #[(.ref a1), (.ref a2), (.int p3)] ∧ Z.Warmed39 U.vm ∧ U.heap = h0) (fun _ _ _ _ _ => True) (fun _ U o U' => ∃ v L, o = .returned v ∧ Qm4_o Z a1 a2 p3 u_value_a1 u_coder_a1 h0 n0 v U'.heap L ∧ FrameEnd U o U' L ({ frames := 1, cells := 0, slots := 0, locals := 12 } : Room).cells ({ frames := 1, cells := 0, slots := 0, locals := 12 } : Room).slots) := by
  refine MetFree.of_bodySF (plainFor_of_name pn_4) hisR ?_
  intro p e s m args below meth c s₁ Bd hml0 hP hK
  obtain ⟨rfl, hZ, hh⟩ := hP
  have hx := Bd.exec
  have hby := Bd.bytes
  have hml : c.maxLocals = 3 := hml0
  have hown : s.vm.findClass "java/lang/String" = some m.cls := findClass_of_methodNamed Bd.named
  have hnm := (name_of_methodNamed Bd.named Bd.method).1
  have X0 : Stand p l e ({ frames := 1, cells := 0, slots := 0, locals := 12 } : Room) s m #[(.ref a1), (.ref a2), (.int p3)] below meth c s₁ [] 0 0 := Stand.of_body Bd
  have e0 : s₁.heap = h0 := by rw [← hh, Bd.state]; rfl
  have N0 := Fr.nil n0
  refine Go.en (ef_4 m a1 a2 p3) ?_
  show Go p e below _ (s₁.setTop (mkF m 0 #[.val (.ref a1), .val (.ref a2), .val (.int p3)] []))
  refine Go.st (fun _ kk => XS.aloadN X0.here hx rfl (hb hby d4_0) rfl rfl  kk) ?_
  show Go p e below _ (s₁.setTop (mkF m 1 #[.val (.ref a1), .val (.ref a2), .val (.int p3)] [(.ref a1)]))
  obtain ⟨T4, X4, e4, st4⟩ := initO X0 hx hZ hown (hw _ (List.mem_of_getElem? (i := 20) rfl)) (hw _ (List.mem_of_getElem? (i := 21) rfl)) (hw _ (List.mem_of_getElem? (i := 22) rfl)) e0 (g := (mkF m 1 #[.val (.ref a1), .val (.ref a2), .val (.int p3)] [(.ref a1)])) rfl (by rw [hml]; rfl) rfl (hb hby d4_1) (by decide) (W := 0) (by show 2 * 0 + _ ≤ _; exact Nat.le_of_eq rfl) (by decide)
  refine Go.st st4 ?_
  show Go p e below _ (T4.setTop (mkF m 4 #[.val (.ref a1), .val (.ref a2), .val (.int p3)] []))
  refine Go.st (fun _ kk => XS.aloadN X4.here hx rfl (hb hby d4_4) rfl rfl  kk) ?_
  show Go p e below _ (T4.setTop (mkF m 5 #[.val (.ref a1), .val (.ref a2), .val (.int p3)] [(.ref a1)]))
  refine Go.st (fun _ kk => XS.aloadN X4.here hx rfl (hb hby d4_5) rfl rfl  kk) ?_
  show Go p e below _ (T4.setTop (mkF m 6 #[.val (.ref a1), .val (.ref a2), .val (.int p3)] [(.ref a2), (.ref a1)]))
  obtain ⟨T5, h5, X5, e5, W5, st5⟩ := putF X4 hx hZ hown (host := "") (Or.inl (hw _ (List.mem_of_getElem? (i := 23) rfl))) Via.refl e4 F_value_a1 E_a1 (Or.inr ⟨(hw _ (List.mem_of_getElem? (i := 24) rfl)), rfl, hnm⟩) (hw _ (List.mem_of_getElem? (i := 11) rfl)) (ty := (.array .byte)) (by decide) rfl rfl (g := (mkF m 6 #[.val (.ref a1), .val (.ref a2), .val (.int p3)] [(.ref a2), (.ref a1)])) rfl rfl (hb hby d4_6)
  refine Go.st st5 ?_
  have Fw5 : Fld Z h5 a1 "java/lang/String" "value" "[B" (.ref a2) := Fld.same W5 F_value_a1
  have K5 : Keep h0 h5 [a1] := (Keep.refl h0 [a1]).wr W5 (Or.inl (List.mem_of_getElem? (i := 0) rfl))
  have N5 := Fr.snoc X5 N0 g_a1
  show Go p e below _ (T5.setTop (mkF m 9 #[.val (.ref a1), .val (.ref a2), .val (.int p3)] []))
  refine Go.st (fun _ kk => XS.aloadN X5.here hx rfl (hb hby d4_9) rfl rfl  kk) ?_
  show Go p e below _ (T5.setTop (mkF m 10 #[.val (.ref a1), .val (.ref a2), .val (.int p3)] [(.ref a1)]))
  refine Go.st (fun _ kk => XS.iloadN X5.here hx rfl (hb hby d4_10) rfl  kk) ?_
  show Go p e below _ (T5.setTop (mkF m 11 #[.val (.ref a1), .val (.ref a2), .val (.int p3)] [(.int p3), (.ref a1)]))
  have f_6 := (Exa.wr W5 E_a1)
  have f_7 := (Fld.other W5 F_coder_a1 (Or.inr (slot_ne (Or.inr (hw _ (List.mem_of_getElem? (i := 26) rfl))) (Or.inr (hw _ (List.mem_of_getElem? (i := 24) rfl))) (by decide) (t := .byte) (t' := (.array .byte)) (by decide) (by decide))))
  obtain ⟨T8, h8, X8, e8, W8, st8⟩ := putFN X5 hx hZ hown (hw _ (List.mem_of_getElem? (i := 25) rfl)) Via.refl e5 f_7 f_6 (Or.inr ⟨(hw _ (List.mem_of_getElem? (i := 26) rfl)), rfl, hnm⟩) (hw _ (List.mem_of_getElem? (i := 11) rfl)) (ty := .byte) (v' := (.int (nar .byte p3))) (by decide) rfl (fits_nar_byte _) (g := (mkF m 11 #[.val (.ref a1), .val (.ref a2), .val (.int p3)] [(.int p3), (.ref a1)])) rfl rfl (hb hby d4_11)
  refine Go.st st8 ?_
  have Fw8 : Fld Z h8 a1 "java/lang/String" "coder" "B" (.int (nar .byte p3)) := Fld.same W8 f_7
  have K8 : Keep h0 h8 [a1] := K5.wr W8 (Or.inl (List.mem_of_getElem? (i := 0) rfl))
  have N8 := Fr.snoc X8 N5 g_a1
  show Go p e below _ (T8.setTop (mkF m 14 #[.val (.ref a1), .val (.ref a2), .val (.int p3)] []))
  have f_9 := (Exa.wr W8 f_6)
  exact Go.ret (Q := Qm4_o Z a1 a2 p3 u_value_a1 u_coder_a1 h0 n0) X8 (v := none) (fun _ => rfl) Bd.notSynchronized (fun fs hr => X8.returnOut hx Bd.returns (hb hby d4_14) hr) e8 ⟨rfl, N8, K8, f_9⟩ (by decide) (by decide)
def Qm1_ff (Z : State) (p1 : Int32) (w2 : Int32) (h0 : Heap) (n0 : Nat) (v : Option Value) (h : Heap) (L : List Loc) : Prop := ∃ (b5 : Addr), v = some (.ref b5) ∧ Fr n0 L ∧ Keep h0 h [] ∧ n0 ≤ b5 ∧ h0.size ≤ b5 ∧ Exa Z h b5 "java/lang/String"
set_option maxRecDepth 65536 in
set_option maxHeartbeats 40000000 in
theorem rm1_ff (l : Launch) (Z : State) (a0 : Array Value) (hw : ∀ d ∈ tables_1, d.before a0 Z = true) (ws : List Jvm.Cond) (p1 : Int32) (w2 : Int32) (h0 : Heap) (n0 : Nat) (Z0 : n0 ≤ h0.size) (S_COMPACT_STRINGS : Sta Z h0 "java/lang/String" "COMPACT_STRINGS" "Z" (.int w2)) (hd0 : ¬ (w2 = (0 : Int32))) (hd1 : ¬ ((255 : Int32) < p1)) :
    MetFree l (⟨"java/lang/String", "valueOf", "(C)Ljava/lang/String;"⟩ : MethodName) (head1 (Jvm.Cond.code (⟨"java/lang/String", "valueOf", "(C)Ljava/lang/String;"⟩ : MethodName) jdk_42_method_139_code 1 (some (.object "java/lang/String")) :: ws) ({ frames := 2, cells := 2, slots := 5, locals := 27 } : Room)) (fun a U => a = #[(.int p1)] ∧ Z.Warmed39 U.vm ∧ U.heap = h0) (fun _ _ _ _ _ => True) (fun _ U o U' => ∃ v L, o = .returned v ∧ Qm1_ff Z p1 w2 h0 n0 v U'.heap L ∧ FrameEnd U o U' L ({ frames := 2, cells := 2, slots := 5, locals := 27 } : Room).cells ({ frames := 2, cells := 2, slots := 5, locals := 27 } : Room).slots) := by
  refine MetFree.of_bodySF (plainFor_of_name pn_1) hisR ?_
  intro p e s m args below meth c s₁ Bd hml0 hP hK
  obtain ⟨rfl, hZ, hh⟩ := hP
  have hx := Bd.exec
  have hby := Bd.bytes
  have hml : c.maxLocals = 1 := hml0
  have hown : s.vm.findClass "java/lang/String" = some m.cls := findClass_of_methodNamed Bd.named
  have hnm := (name_of_methodNamed Bd.named Bd.method).1
  have X0 : Stand p l e ({ frames := 2, cells := 2, slots := 5, locals := 27 } : Room) s m #[(.int p1)] below meth c s₁ [] 0 0 := Stand.of_body Bd
  have e0 : s₁.heap = h0 := by rw [← hh, Bd.state]; rfl
  have N0 := Fr.nil n0
  refine Go.en (ef_1 m p1) ?_
  show Go p e below _ (s₁.setTop (mkF m 0 #[.val (.int p1)] []))
  obtain ⟨T3, X3, e3, st3⟩ := getS2 X0 hx hZ hown (host := "") (Or.inl (hw _ (List.mem_of_getElem? (i := 5) rfl))) Via.refl e0 S_COMPACT_STRINGS (g := (mkF m 0 #[.val (.int p1)] [])) rfl (hb hby d1_0)
  refine Go.st st3 ?_
  show Go p e below _ (T3.setTop (mkF m 3 #[.val (.int p1)] [(.int w2)]))
  refine Go.st (fun _ kk => XS.ifNo X3.here hx rfl (hb hby d1_3) rfl ((if0 _ _).trans (feq hd0).1) kk) ?_
  show Go p e below _ (T3.setTop (mkF m 6 #[.val (.int p1)] []))
  refine Go.st (fun _ kk => XS.iloadN X3.here hx rfl (hb hby d1_6) rfl  kk) ?_
  show Go p e below _ (T3.setTop (mkF m 7 #[.val (.int p1)] [(.int p1)]))
  obtain ⟨_, _, ⟨T4, L4, k4, n4⟩, -, X4, ⟨Lc4, hQ4, l4, y4, z4⟩, st4⟩ := Jvm.LawKit.callS X3 hx (y := (⟨"java/lang/StringLatin1", "canEncode", "(C)Z"⟩ : MethodName)) hown (mvT hZ (hw _ (List.mem_of_getElem? (i := 6) rfl))) (mvT hZ (hw _ (List.mem_of_getElem? (i := 7) rfl))) (mvT hZ (hw _ (List.mem_of_getElem? (i := 8) rfl))) (mvT hZ (hw _ (List.mem_of_getElem? (i := 9) rfl))) (by decide) (backOf (W := 0) (rm2_f l Z a0 hw [] p1 h0 n0 Z0 hd1) hZ (hw _ (List.mem_of_getElem? (i := 9) rfl)) (hw _ (List.mem_of_getElem? (i := 8) rfl)) (by decide) (by decide)) (g := (mkF m 7 #[.val (.int p1)] [(.int p1)])) rfl (by rw [hml]; rfl) (argsL := [(.int p1)]) (rest := []) (lenOf pd_0 rfl) rfl (by show 2 * 0 + _ ≤ _; exact Nat.le_of_eq rfl) (hb hby d1_7) (fun _ _ => ⟨rfl, e3, (by decide : 0 + 0 ≤ _), (by decide : 0 + 0 ≤ _)⟩)
  dsimp only [Pt.U, Pt.locs, Pt.cells, Pt.slots] at X4 l4 y4 z4 st4 hQ4
  subst l4 y4 z4
  obtain ⟨rfl, N4q, eq4⟩ := hQ4
  have N4 := Fr.app N0 N4q
  refine Go.st st4 ?_
  show Go p e below _ (T4.setTop (mkF m 10 #[.val (.int p1)] [(.int (1 : Int32))]))
  refine Go.st (fun _ kk => XS.ifNo X4.here hx rfl (hb hby d1_10) rfl ((if0 _ _).trans (feq (by decide : ¬ ((1 : Int32) = (0 : Int32)))).1) kk) ?_
  show Go p e below _ (T4.setTop (mkF m 13 #[.val (.int p1)] []))
  obtain ⟨T5, h5, X5, e5, E5, A5, D5, -, st5⟩ := newO X4 hx hZ hown (hw _ (List.mem_of_getElem? (i := 10) rfl)) (hw _ (List.mem_of_getElem? (i := 11) rfl)) (hw _ (List.mem_of_getElem? (i := 3) rfl)) eq4 (g := (mkF m 13 #[.val (.int p1)] [])) rfl (hb hby d1_13) (by decide) (by decide)
  obtain ⟨b5, g5⟩ : ∃ z, z = h0.size := ⟨_, rfl⟩
  rw [← g5] at A5 D5 st5
  refine Go.st st5 ?_
  have g_b5 : n0 ≤ b5 := Nat.le_trans Z0 (Nat.le_of_eq g5.symm)
  have sz_b5 : h0.size ≤ b5 := Nat.le_of_eq g5.symm
  have K5 : Keep h0 h5 [] := (Keep.refl h0 []).ext E5
  have E_b5 : Exa Z h5 b5 "java/lang/String" := A5
  have F_value_b5 : Fld Z h5 b5 "java/lang/String" "value" "[B" .null := D5 (Or.inr (hw _ (List.mem_of_getElem? (i := 24) rfl))) (ty := (.array .byte)) (by decide)
  have F_coder_b5 : Fld Z h5 b5 "java/lang/String" "coder" "B" (.int (0 : Int32)) := D5 (Or.inr (hw _ (List.mem_of_getElem? (i := 26) rfl))) (ty := .byte) (by decide)
  show Go p e below _ (T5.setTop (mkF m 16 #[.val (.int p1)] [(.ref b5)]))
  refine Go.st (fun _ kk => XS.dup X5.here hx rfl (hb hby d1_16) rfl rfl kk) ?_
  show Go p e below _ (T5.setTop (mkF m 17 #[.val (.int p1)] [(.ref b5), (.ref b5)]))
  refine Go.st (fun _ kk => XS.iloadN X5.here hx rfl (hb hby d1_17) rfl  kk) ?_
  show Go p e below _ (T5.setTop (mkF m 18 #[.val (.int p1)] [(.int p1), (.ref b5), (.ref b5)]))
  obtain ⟨_, _, ⟨T6, L6, k6, n6⟩, -, X6, ⟨Lc6, hQ6, l6, y6, z6⟩, st6⟩ := Jvm.LawKit.callS X5 hx (y := (⟨"java/lang/StringLatin1", "toBytes", "(C)[B"⟩ : MethodName)) hown (mvT hZ (hw _ (List.mem_of_getElem? (i := 12) rfl))) (mvT hZ (hw _ (List.mem_of_getElem? (i := 13) rfl))) (mvT hZ (hw _ (List.mem_of_getElem? (i := 8) rfl))) (mvT hZ (hw _ (List.mem_of_getElem? (i := 14) rfl))) (by decide) (backOf (W := 2) (rm3_o l Z a0 hw [] p1 h5 n0 (Nat.le_trans Z0 K5.1) ) hZ (hw _ (List.mem_of_getElem? (i := 14) rfl)) (hw _ (List.mem_of_getElem? (i := 8) rfl)) (by decide) (by decide)) (g := (mkF m 18 #[.val (.int p1)] [(.int p1), (.ref b5), (.ref b5)])) rfl (by rw [hml]; rfl) (argsL := [(.int p1)]) (rest := [(.ref b5), (.ref b5)]) (lenOf pd_1 rfl) rfl (by show 2 * 0 + _ ≤ _; exact Nat.le_of_eq rfl) (hb hby d1_18) (fun _ _ => ⟨rfl, e5, (by decide : 1 + 1 ≤ _), (by decide : 4 + 1 ≤ _)⟩)
  dsimp only [Pt.U, Pt.locs, Pt.cells, Pt.slots] at X6 l6 y6 z6 st6 hQ6
  subst l6 y6 z6
  obtain ⟨b2_6, k2_6, rfl, N6q, Kc6, P6_0, P6_1, P6_2⟩ := hQ6
  have K6 : Keep h0 T6.heap [] := K5.trans Kc6 all0
  have g_b2_6 := P6_0
  have sz_b2_6 : h0.size ≤ b2_6 := Nat.le_trans K5.1 P6_1
  have lt_b5_b2_6 : b5 < b2_6 := Nat.lt_of_lt_of_le E_b5.lt P6_1
  have N6 := Fr.app N4 N6q
  refine Go.st st6 ?_
  show Go p e below _ (T6.setTop (mkF m 21 #[.val (.int p1)] [(.ref b2_6), (.ref b5), (.ref b5)]))
  refine Go.st (fun _ kk => XS.iconst X6.here hx rfl (hb hby d1_21) kk) ?_
  show Go p e below _ (T6.setTop (mkF m 22 #[.val (.int p1)] [(.int (0 : Int32)), (.ref b2_6), (.ref b5), (.ref b5)]))
  have f_7 := (E_b5.keep Kc6)
  have f_8 := (F_value_b5.keep Kc6 nin0)
  have f_9 := (F_coder_b5.keep Kc6 nin0)
  obtain ⟨_, _, ⟨T10, L10, k10, n10⟩, -, X10, ⟨Lc10, hQ10, l10, y10, z10⟩, st10⟩ := X6.specialBack hx (y := (⟨"java/lang/String", "<init>", "([BB)V"⟩ : MethodName)) rfl hown (mvT hZ (hw _ (List.mem_of_getElem? (i := 16) rfl))) (mvT hZ (hw _ (List.mem_of_getElem? (i := 17) rfl))) (mvT hZ (hw _ (List.mem_of_getElem? (i := 19) rfl))) (by decide) (backOf (W := 1) (rm4_o l Z a0 hw [] b5 b2_6 (0 : Int32) .null (.int (0 : Int32)) T6.heap n0 (Nat.le_trans Z0 K6.1) f_7 f_8 g_b5 f_9) hZ (hw _ (List.mem_of_getElem? (i := 19) rfl)) (hw _ (List.mem_of_getElem? (i := 3) rfl)) (by decide) (by decide)) (g := (mkF m 22 #[.val (.int p1)] [(.int (0 : Int32)), (.ref b2_6), (.ref b5), (.ref b5)])) rfl (by rw [hml]; rfl) (Steps.refl _) (a := b5) (argsL := [(.ref b2_6), (.int (0 : Int32))]) (rest := [(.ref b5)]) (lenOf pd_2 rfl) rfl (by show 2 * 0 + _ ≤ _; exact Nat.le_of_eq rfl) (hb hby d1_22) (fun _ _ => ⟨rfl, rfl, (by decide : 2 + 0 ≤ _), (by decide : 5 + 0 ≤ _)⟩)
  dsimp only [Pt.U, Pt.locs, Pt.cells, Pt.slots] at X10 l10 y10 z10 st10 hQ10
  subst l10 y10 z10
  obtain ⟨rfl, N10q, Kc10, P10_0⟩ := hQ10
  have K10 : Keep h0 T10.heap [] := K6.trans Kc10 (allS (Or.inr sz_b5) all0)
  have N10 := Fr.app N6 N10q
  refine Go.tr st10 ?_
  show Go p e below _ (T10.setTop (mkF m 25 #[.val (.int p1)] [(.ref b5)]))
  exact Go.ret (Q := Qm1_ff Z p1 w2 h0 n0) X10 (v := some (.ref b5)) (fun h => by rw [Bd.returns] at h; cases h) Bd.notSynchronized (fun fs hr => retOut X10 hx Bd.returns rfl (Or.inr (Or.inr (Or.inr (Or.inr ⟨rfl, rfl, rfl⟩)))) (hb hby d1_25) hr) rfl ⟨b5, rfl, N10, K10, g_b5, sz_b5, P10_0⟩ (by decide) (by decide)
def Qm162_o (Z : State) (a1 : Addr) (a2 : Addr) (v0 : Int32) (v1 : Int32) (kc : ClassId) (h0 : Heap) (n0 : Nat) (v : Option Value) (h : Heap) (L : List Loc) : Prop := v = some (.int (2 : Int32)) ∧ Fr n0 L ∧ Keep h0 h [a2] ∧ Arn Z h a2 .byte (2 : Int32)
set_option maxRecDepth 65536 in
set_option maxHeartbeats 40000000 in
theorem rm162_o (l : Launch) (Z : State) (a0 : Array Value) (hw : ∀ d ∈ tables_1, d.before a0 Z = true) (ws : List Jvm.Cond) (a1 : Addr) (a2 : Addr) (v0 : Int32) (v1 : Int32) (kc : ClassId) (h0 : Heap) (n0 : Nat) (Z0 : n0 ≤ h0.size) (V_a1 : Arv Z h0 a1 kc .char (2 : Int32) [(.int v0), (.int v1)] (.int (0 : Int32))) (hv0 : ¬ ((255 : Int32) < v0)) (hv1 : ¬ ((255 : Int32) < v1)) (V_a2 : Arn Z h0 a2 .byte (2 : Int32)) (g_a2 : n0 ≤ a2) (hne_a1_a2 : ¬ (a1 = a2)) :
    MetFree l (⟨"java/lang/StringUTF16", "compress", "([CI[BII)I"⟩ : MethodName) (head1 (Jvm.Cond.code (⟨"java/lang/StringUTF16", "compress", "([CI[BII)I"⟩ : MethodName) jdk_52_method_21_code 7 (some .int) :: ws) ({ frames := 0, cells := 0, slots := 0, locals := 0 } : Room)) (fun a U => a = #[(.ref a1), (.int (0 : Int32)), (.ref a2), (.int (0 : Int32)), (.int (2 : Int32))] ∧ Z.Warmed39 U.vm ∧ U.heap = h0) (fun _ _ _ _ _ => True) (fun _ U o U' => ∃ v L, o = .returned v ∧ Qm162_o Z a1 a2 v0 v1 kc h0 n0 v U'.heap L ∧ FrameEnd U o U' L ({ frames := 0, cells := 0, slots := 0, locals := 0 } : Room).cells ({ frames := 0, cells := 0, slots := 0, locals := 0 } : Room).slots) := by
  refine MetFree.of_bodySF (plainFor_of_name pn_16) hisR ?_
  intro p e s m args below meth c s₁ Bd hml0 hP hK
  obtain ⟨rfl, hZ, hh⟩ := hP
  have hx := Bd.exec
  have hby := Bd.bytes
  have hml : c.maxLocals = 7 := hml0
  have hown : s.vm.findClass "java/lang/StringUTF16" = some m.cls := findClass_of_methodNamed Bd.named
  have hnm := (name_of_methodNamed Bd.named Bd.method).1
  have X0 : Stand p l e ({ frames := 0, cells := 0, slots := 0, locals := 0 } : Room) s m #[(.ref a1), (.int (0 : Int32)), (.ref a2), (.int (0 : Int32)), (.int (2 : Int32))] below meth c s₁ [] 0 0 := Stand.of_body Bd
  have e0 : s₁.heap = h0 := by rw [← hh, Bd.state]; rfl
  have N0 := Fr.nil n0
  refine Go.en (ef_16 m a1 (0 : Int32) a2 (0 : Int32) (2 : Int32)) ?_
  show Go p e below _ (s₁.setTop (mkF m 0 #[.val (.ref a1), .val (.int (0 : Int32)), .val (.ref a2), .val (.int (0 : Int32)), .val (.int (2 : Int32)), .unset, .unset] []))
  refine Go.st (fun _ kk => XS.iconst X0.here hx rfl (hb hby d16_0) kk) ?_
  show Go p e below _ (s₁.setTop (mkF m 1 #[.val (.ref a1), .val (.int (0 : Int32)), .val (.ref a2), .val (.int (0 : Int32)), .val (.int (2 : Int32)), .unset, .unset] [(.int (0 : Int32))]))
  refine Go.st (fun _ kk => XS.istore X0.here hx rfl (hb hby d16_1) rfl (l' := #[.val (.ref a1), .val (.int (0 : Int32)), .val (.ref a2), .val (.int (0 : Int32)), .val (.int (2 : Int32)), .val (.int (0 : Int32)), .unset]) rfl kk) ?_
  show Go p e below _ (s₁.setTop (mkF m 3 #[.val (.ref a1), .val (.int (0 : Int32)), .val (.ref a2), .val (.int (0 : Int32)), .val (.int (2 : Int32)), .val (.int (0 : Int32)), .unset] []))
  refine Go.st (fun _ kk => XS.iload X0.here hx rfl (hb hby d16_3) rfl  kk) ?_
  show Go p e below _ (s₁.setTop (mkF m 5 #[.val (.ref a1), .val (.int (0 : Int32)), .val (.ref a2), .val (.int (0 : Int32)), .val (.int (2 : Int32)), .val (.int (0 : Int32)), .unset] [(.int (0 : Int32))]))
  refine Go.st (fun _ kk => XS.iload X0.here hx rfl (hb hby d16_5) rfl  kk) ?_
  show Go p e below _ (s₁.setTop (mkF m 7 #[.val (.ref a1), .val (.int (0 : Int32)), .val (.ref a2), .val (.int (0 : Int32)), .val (.int (2 : Int32)), .val (.int (0 : Int32)), .unset] [(.int (2 : Int32)), (.int (0 : Int32))]))
  refine Go.st (fun _ kk => XS.icmpNo X0.here hx rfl (hb hby d16_7) rfl (tlt (by decide : ((0 : Int32) < (2 : Int32)))).2.1 kk) ?_
  show Go p e below _ (s₁.setTop (mkF m 10 #[.val (.ref a1), .val (.int (0 : Int32)), .val (.ref a2), .val (.int (0 : Int32)), .val (.int (2 : Int32)), .val (.int (0 : Int32)), .unset] []))
  refine Go.st (fun _ kk => XS.aloadN X0.here hx rfl (hb hby d16_10) rfl rfl  kk) ?_
  show Go p e below _ (s₁.setTop (mkF m 11 #[.val (.ref a1), .val (.int (0 : Int32)), .val (.ref a2), .val (.int (0 : Int32)), .val (.int (2 : Int32)), .val (.int (0 : Int32)), .unset] [(.ref a1)]))
  refine Go.st (fun _ kk => XS.iloadN X0.here hx rfl (hb hby d16_11) rfl  kk) ?_
  show Go p e below _ (s₁.setTop (mkF m 12 #[.val (.ref a1), .val (.int (0 : Int32)), .val (.ref a2), .val (.int (0 : Int32)), .val (.int (2 : Int32)), .val (.int (0 : Int32)), .unset] [(.int (0 : Int32)), (.ref a1)]))
  obtain ⟨clq3, Arq3, caq3, saq3, naq3, haq3, gaq3⟩ := id V_a1
  have inq3 : ¬ ((0 : Int32) < 0 ∨ clq3.slots.size ≤ ((0 : Int32)).toNatClampNeg) := inb_of saq3 ⟨by decide, by decide⟩
  have atq3 : clq3.slots[((0 : Int32)).toNatClampNeg]? = some (.int v0) := haq3.at inq3 rfl
  refine Go.st (fun _ kk => X0.caload hx (j := (0 : Int32)) (v := (.int v0)) (by rw [e0]; exact Arq3.1) (State.isArrayOf_alike hZ.alike Arq3.2.1) Arq3.2.2 inq3 atq3 (g := (mkF m 12 #[.val (.ref a1), .val (.int (0 : Int32)), .val (.ref a2), .val (.int (0 : Int32)), .val (.int (2 : Int32)), .val (.int (0 : Int32)), .unset] [(.int (0 : Int32)), (.ref a1)])) rfl rfl (hb hby d16_12) _ kk) ?_
  show Go p e below _ (s₁.setTop (mkF m 13 #[.val (.ref a1), .val (.int (0 : Int32)), .val (.ref a2), .val (.int (0 : Int32)), .val (.int (2 : Int32)), .val (.int (0 : Int32)), .unset] [(.int v0)]))
  refine Go.st (fun _ kk => XS.istore X0.here hx rfl (hb hby d16_13) rfl (l' := #[.val (.ref a1), .val (.int (0 : Int32)), .val (.ref a2), .val (.int (0 : Int32)), .val (.int (2 : Int32)), .val (.int (0 : Int32)), .val (.int v0)]) rfl kk) ?_
  show Go p e below _ (s₁.setTop (mkF m 15 #[.val (.ref a1), .val (.int (0 : Int32)), .val (.ref a2), .val (.int (0 : Int32)), .val (.int (2 : Int32)), .val (.int (0 : Int32)), .val (.int v0)] []))
  refine Go.st (fun _ kk => XS.iload X0.here hx rfl (hb hby d16_15) rfl  kk) ?_
  show Go p e below _ (s₁.setTop (mkF m 17 #[.val (.ref a1), .val (.int (0 : Int32)), .val (.ref a2), .val (.int (0 : Int32)), .val (.int (2 : Int32)), .val (.int (0 : Int32)), .val (.int v0)] [(.int v0)]))
  refine Go.st (fun _ kk => XS.sipush X0.here hx rfl (hb hby d16_17) kk) ?_
  show Go p e below _ (s₁.setTop (mkF m 20 #[.val (.ref a1), .val (.int (0 : Int32)), .val (.ref a2), .val (.int (0 : Int32)), .val (.int (2 : Int32)), .val (.int (0 : Int32)), .val (.int v0)] [(.int (255 : Int32)), (.int v0)]))
  refine Go.st (fun _ kk => XS.icmpYes X0.here hx rfl (pc0 := 20) (pc' := 26) rfl (hb hby d16_20) rfl (flt hv0).2.2.2 (by decide) (by decide) kk) ?_
  show Go p e below _ (s₁.setTop (mkF m 26 #[.val (.ref a1), .val (.int (0 : Int32)), .val (.ref a2), .val (.int (0 : Int32)), .val (.int (2 : Int32)), .val (.int (0 : Int32)), .val (.int v0)] []))
  refine Go.st (fun _ kk => XS.aloadN X0.here hx rfl (hb hby d16_26) rfl rfl  kk) ?_
  show Go p e below _ (s₁.setTop (mkF m 27 #[.val (.ref a1), .val (.int (0 : Int32)), .val (.ref a2), .val (.int (0 : Int32)), .val (.int (2 : Int32)), .val (.int (0 : Int32)), .val (.int v0)] [(.ref a2)]))
  refine Go.st (fun _ kk => XS.iloadN X0.here hx rfl (hb hby d16_27) rfl  kk) ?_
  show Go p e below _ (s₁.setTop (mkF m 28 #[.val (.ref a1), .val (.int (0 : Int32)), .val (.ref a2), .val (.int (0 : Int32)), .val (.int (2 : Int32)), .val (.int (0 : Int32)), .val (.int v0)] [(.int (0 : Int32)), (.ref a2)]))
  refine Go.st (fun _ kk => XS.iload X0.here hx rfl (hb hby d16_28) rfl  kk) ?_
  show Go p e below _ (s₁.setTop (mkF m 30 #[.val (.ref a1), .val (.int (0 : Int32)), .val (.ref a2), .val (.int (0 : Int32)), .val (.int (2 : Int32)), .val (.int (0 : Int32)), .val (.int v0)] [(.int v0), (.int (0 : Int32)), (.ref a2)]))
  refine Go.st (fun _ kk => XS.i2b X0.here hx rfl (hb hby d16_30) rfl kk) ?_
  show Go p e below _ (s₁.setTop (mkF m 31 #[.val (.ref a1), .val (.int (0 : Int32)), .val (.ref a2), .val (.int (0 : Int32)), .val (.int (2 : Int32)), .val (.int (0 : Int32)), .val (.int v0)] [(.int (v0.toInt8.toInt32)), (.int (0 : Int32)), (.ref a2)]))
  obtain ⟨clq4, Arq4, saq4, naq4⟩ := id V_a2
  have inq4 : ¬ ((0 : Int32) < 0 ∨ clq4.slots.size ≤ ((0 : Int32)).toNatClampNeg) := inb_of saq4 ⟨by decide, by decide⟩
  obtain ⟨T5, h5, X5, e5, W5, st5⟩ := stB X0 hx hZ e0 Arq4 (j := (0 : Int32)) inq4 (g := (mkF m 31 #[.val (.ref a1), .val (.int (0 : Int32)), .val (.ref a2), .val (.int (0 : Int32)), .val (.int (2 : Int32)), .val (.int (0 : Int32)), .val (.int v0)] [(.int (v0.toInt8.toInt32)), (.int (0 : Int32)), (.ref a2)])) rfl rfl (hb hby d16_31)
  refine Go.st st5 ?_
  have K5 : Keep h0 h5 [a2] := (Keep.refl h0 [a2]).wr W5 (Or.inl (List.mem_of_getElem? (i := 0) rfl))
  have V5 : Arn Z h5 a2 .byte (2 : Int32) := Arn.set Arq4 saq4 naq4 W5
  have N5 := Fr.snoc X5 N0 g_a2
  show Go p e below _ (T5.setTop (mkF m 32 #[.val (.ref a1), .val (.int (0 : Int32)), .val (.ref a2), .val (.int (0 : Int32)), .val (.int (2 : Int32)), .val (.int (0 : Int32)), .val (.int v0)] []))
  refine Go.st (fun _ kk => XS.iinc X5.here hx rfl (hb hby d16_32) rfl (l' := #[.val (.ref a1), .val (.int (1 : Int32)), .val (.ref a2), .val (.int (0 : Int32)), .val (.int (2 : Int32)), .val (.int (0 : Int32)), .val (.int v0)]) rfl kk) ?_
  show Go p e below _ (T5.setTop (mkF m 35 #[.val (.ref a1), .val (.int (1 : Int32)), .val (.ref a2), .val (.int (0 : Int32)), .val (.int (2 : Int32)), .val (.int (0 : Int32)), .val (.int v0)] []))
  refine Go.st (fun _ kk => XS.iinc X5.here hx rfl (hb hby d16_35) rfl (l' := #[.val (.ref a1), .val (.int (1 : Int32)), .val (.ref a2), .val (.int (1 : Int32)), .val (.int (2 : Int32)), .val (.int (0 : Int32)), .val (.int v0)]) rfl kk) ?_
  show Go p e below _ (T5.setTop (mkF m 38 #[.val (.ref a1), .val (.int (1 : Int32)), .val (.ref a2), .val (.int (1 : Int32)), .val (.int (2 : Int32)), .val (.int (0 : Int32)), .val (.int v0)] []))
  refine Go.st (fun _ kk => XS.iinc X5.here hx rfl (hb hby d16_38) rfl (l' := #[.val (.ref a1), .val (.int (1 : Int32)), .val (.ref a2), .val (.int (1 : Int32)), .val (.int (2 : Int32)), .val (.int (1 : Int32)), .val (.int v0)]) rfl kk) ?_
  show Go p e below _ (T5.setTop (mkF m 41 #[.val (.ref a1), .val (.int (1 : Int32)), .val (.ref a2), .val (.int (1 : Int32)), .val (.int (2 : Int32)), .val (.int (1 : Int32)), .val (.int v0)] []))
  refine Go.st (fun _ kk => XS.goto X5.here hx rfl (pc0 := 41) (pc' := 3) rfl (hb hby d16_41) (by decide) (by decide) kk) ?_
  show Go p e below _ (T5.setTop (mkF m 3 #[.val (.ref a1), .val (.int (1 : Int32)), .val (.ref a2), .val (.int (1 : Int32)), .val (.int (2 : Int32)), .val (.int (1 : Int32)), .val (.int v0)] []))
  refine Go.st (fun _ kk => XS.iload X5.here hx rfl (hb hby d16_3) rfl  kk) ?_
  show Go p e below _ (T5.setTop (mkF m 5 #[.val (.ref a1), .val (.int (1 : Int32)), .val (.ref a2), .val (.int (1 : Int32)), .val (.int (2 : Int32)), .val (.int (1 : Int32)), .val (.int v0)] [(.int (1 : Int32))]))
  refine Go.st (fun _ kk => XS.iload X5.here hx rfl (hb hby d16_5) rfl  kk) ?_
  show Go p e below _ (T5.setTop (mkF m 7 #[.val (.ref a1), .val (.int (1 : Int32)), .val (.ref a2), .val (.int (1 : Int32)), .val (.int (2 : Int32)), .val (.int (1 : Int32)), .val (.int v0)] [(.int (2 : Int32)), (.int (1 : Int32))]))
  refine Go.st (fun _ kk => XS.icmpNo X5.here hx rfl (hb hby d16_7) rfl (tlt (by decide : ((1 : Int32) < (2 : Int32)))).2.1 kk) ?_
  show Go p e below _ (T5.setTop (mkF m 10 #[.val (.ref a1), .val (.int (1 : Int32)), .val (.ref a2), .val (.int (1 : Int32)), .val (.int (2 : Int32)), .val (.int (1 : Int32)), .val (.int v0)] []))
  refine Go.st (fun _ kk => XS.aloadN X5.here hx rfl (hb hby d16_10) rfl rfl  kk) ?_
  show Go p e below _ (T5.setTop (mkF m 11 #[.val (.ref a1), .val (.int (1 : Int32)), .val (.ref a2), .val (.int (1 : Int32)), .val (.int (2 : Int32)), .val (.int (1 : Int32)), .val (.int v0)] [(.ref a1)]))
  refine Go.st (fun _ kk => XS.iloadN X5.here hx rfl (hb hby d16_11) rfl  kk) ?_
  show Go p e below _ (T5.setTop (mkF m 12 #[.val (.ref a1), .val (.int (1 : Int32)), .val (.ref a2), .val (.int (1 : Int32)), .val (.int (2 : Int32)), .val (.int (1 : Int32)), .val (.int v0)] [(.int (1 : Int32)), (.ref a1)]))
  have f_6 := (V_a1.keep K5 (ninS hne_a1_a2 nin0))
  obtain ⟨clq7, Arq7, caq7, saq7, naq7, haq7, gaq7⟩ := id f_6
  have inq7 : ¬ ((1 : Int32) < 0 ∨ clq7.slots.size ≤ ((1 : Int32)).toNatClampNeg) := inb_of saq7 ⟨by decide, by decide⟩
  have atq7 : clq7.slots[((1 : Int32)).toNatClampNeg]? = some (.int v1) := haq7.at inq7 rfl
  refine Go.st (fun _ kk => X5.caload hx (j := (1 : Int32)) (v := (.int v1)) (by rw [e5]; exact Arq7.1) (State.isArrayOf_alike hZ.alike Arq7.2.1) Arq7.2.2 inq7 atq7 (g := (mkF m 12 #[.val (.ref a1), .val (.int (1 : Int32)), .val (.ref a2), .val (.int (1 : Int32)), .val (.int (2 : Int32)), .val (.int (1 : Int32)), .val (.int v0)] [(.int (1 : Int32)), (.ref a1)])) rfl rfl (hb hby d16_12) _ kk) ?_
  show Go p e below _ (T5.setTop (mkF m 13 #[.val (.ref a1), .val (.int (1 : Int32)), .val (.ref a2), .val (.int (1 : Int32)), .val (.int (2 : Int32)), .val (.int (1 : Int32)), .val (.int v0)] [(.int v1)]))
  refine Go.st (fun _ kk => XS.istore X5.here hx rfl (hb hby d16_13) rfl (l' := #[.val (.ref a1), .val (.int (1 : Int32)), .val (.ref a2), .val (.int (1 : Int32)), .val (.int (2 : Int32)), .val (.int (1 : Int32)), .val (.int v1)]) rfl kk) ?_
  show Go p e below _ (T5.setTop (mkF m 15 #[.val (.ref a1), .val (.int (1 : Int32)), .val (.ref a2), .val (.int (1 : Int32)), .val (.int (2 : Int32)), .val (.int (1 : Int32)), .val (.int v1)] []))
  refine Go.st (fun _ kk => XS.iload X5.here hx rfl (hb hby d16_15) rfl  kk) ?_
  show Go p e below _ (T5.setTop (mkF m 17 #[.val (.ref a1), .val (.int (1 : Int32)), .val (.ref a2), .val (.int (1 : Int32)), .val (.int (2 : Int32)), .val (.int (1 : Int32)), .val (.int v1)] [(.int v1)]))
  refine Go.st (fun _ kk => XS.sipush X5.here hx rfl (hb hby d16_17) kk) ?_
  show Go p e below _ (T5.setTop (mkF m 20 #[.val (.ref a1), .val (.int (1 : Int32)), .val (.ref a2), .val (.int (1 : Int32)), .val (.int (2 : Int32)), .val (.int (1 : Int32)), .val (.int v1)] [(.int (255 : Int32)), (.int v1)]))
  refine Go.st (fun _ kk => XS.icmpYes X5.here hx rfl (pc0 := 20) (pc' := 26) rfl (hb hby d16_20) rfl (flt hv1).2.2.2 (by decide) (by decide) kk) ?_
  show Go p e below _ (T5.setTop (mkF m 26 #[.val (.ref a1), .val (.int (1 : Int32)), .val (.ref a2), .val (.int (1 : Int32)), .val (.int (2 : Int32)), .val (.int (1 : Int32)), .val (.int v1)] []))
  refine Go.st (fun _ kk => XS.aloadN X5.here hx rfl (hb hby d16_26) rfl rfl  kk) ?_
  show Go p e below _ (T5.setTop (mkF m 27 #[.val (.ref a1), .val (.int (1 : Int32)), .val (.ref a2), .val (.int (1 : Int32)), .val (.int (2 : Int32)), .val (.int (1 : Int32)), .val (.int v1)] [(.ref a2)]))
  refine Go.st (fun _ kk => XS.iloadN X5.here hx rfl (hb hby d16_27) rfl  kk) ?_
  show Go p e below _ (T5.setTop (mkF m 28 #[.val (.ref a1), .val (.int (1 : Int32)), .val (.ref a2), .val (.int (1 : Int32)), .val (.int (2 : Int32)), .val (.int (1 : Int32)), .val (.int v1)] [(.int (1 : Int32)), (.ref a2)]))
  refine Go.st (fun _ kk => XS.iload X5.here hx rfl (hb hby d16_28) rfl  kk) ?_
  show Go p e below _ (T5.setTop (mkF m 30 #[.val (.ref a1), .val (.int (1 : Int32)), .val (.ref a2), .val (.int (1 : Int32)), .val (.int (2 : Int32)), .val (.int (1 : Int32)), .val (.int v1)] [(.int v1), (.int (1 : Int32)), (.ref a2)]))
  refine Go.st (fun _ kk => XS.i2b X5.here hx rfl (hb hby d16_30) rfl kk) ?_
  show Go p e below _ (T5.setTop (mkF m 31 #[.val (.ref a1), .val (.int (1 : Int32)), .val (.ref a2), .val (.int (1 : Int32)), .val (.int (2 : Int32)), .val (.int (1 : Int32)), .val (.int v1)] [(.int (v1.toInt8.toInt32)), (.int (1 : Int32)), (.ref a2)]))
  obtain ⟨clq8, Arq8, saq8, naq8⟩ := id V5
  have inq8 : ¬ ((1 : Int32) < 0 ∨ clq8.slots.size ≤ ((1 : Int32)).toNatClampNeg) := inb_of saq8 ⟨by decide, by decide⟩
  obtain ⟨T9, h9, X9, e9, W9, st9⟩ := stB X5 hx hZ e5 Arq8 (j := (1 : Int32)) inq8 (g := (mkF m 31 #[.val (.ref a1), .val (.int (1 : Int32)), .val (.ref a2), .val (.int (1 : Int32)), .val (.int (2 : Int32)), .val (.int (1 : Int32)), .val (.int v1)] [(.int (v1.toInt8.toInt32)), (.int (1 : Int32)), (.ref a2)])) rfl rfl (hb hby d16_31)
  refine Go.st st9 ?_
  have K9 : Keep h0 h9 [a2] := K5.wr W9 (Or.inl (List.mem_of_getElem? (i := 0) rfl))
  have V9 : Arn Z h9 a2 .byte (2 : Int32) := Arn.set Arq8 saq8 naq8 W9
  have N9 := Fr.snoc X9 N5 g_a2
  show Go p e below _ (T9.setTop (mkF m 32 #[.val (.ref a1), .val (.int (1 : Int32)), .val (.ref a2), .val (.int (1 : Int32)), .val (.int (2 : Int32)), .val (.int (1 : Int32)), .val (.int v1)] []))
  refine Go.st (fun _ kk => XS.iinc X9.here hx rfl (hb hby d16_32) rfl (l' := #[.val (.ref a1), .val (.int (2 : Int32)), .val (.ref a2), .val (.int (1 : Int32)), .val (.int (2 : Int32)), .val (.int (1 : Int32)), .val (.int v1)]) rfl kk) ?_
  show Go p e below _ (T9.setTop (mkF m 35 #[.val (.ref a1), .val (.int (2 : Int32)), .val (.ref a2), .val (.int (1 : Int32)), .val (.int (2 : Int32)), .val (.int (1 : Int32)), .val (.int v1)] []))
  refine Go.st (fun _ kk => XS.iinc X9.here hx rfl (hb hby d16_35) rfl (l' := #[.val (.ref a1), .val (.int (2 : Int32)), .val (.ref a2), .val (.int (2 : Int32)), .val (.int (2 : Int32)), .val (.int (1 : Int32)), .val (.int v1)]) rfl kk) ?_
  show Go p e below _ (T9.setTop (mkF m 38 #[.val (.ref a1), .val (.int (2 : Int32)), .val (.ref a2), .val (.int (2 : Int32)), .val (.int (2 : Int32)), .val (.int (1 : Int32)), .val (.int v1)] []))
  refine Go.st (fun _ kk => XS.iinc X9.here hx rfl (hb hby d16_38) rfl (l' := #[.val (.ref a1), .val (.int (2 : Int32)), .val (.ref a2), .val (.int (2 : Int32)), .val (.int (2 : Int32)), .val (.int (2 : Int32)), .val (.int v1)]) rfl kk) ?_
  show Go p e below _ (T9.setTop (mkF m 41 #[.val (.ref a1), .val (.int (2 : Int32)), .val (.ref a2), .val (.int (2 : Int32)), .val (.int (2 : Int32)), .val (.int (2 : Int32)), .val (.int v1)] []))
  refine Go.st (fun _ kk => XS.goto X9.here hx rfl (pc0 := 41) (pc' := 3) rfl (hb hby d16_41) (by decide) (by decide) kk) ?_
  show Go p e below _ (T9.setTop (mkF m 3 #[.val (.ref a1), .val (.int (2 : Int32)), .val (.ref a2), .val (.int (2 : Int32)), .val (.int (2 : Int32)), .val (.int (2 : Int32)), .val (.int v1)] []))
  refine Go.st (fun _ kk => XS.iload X9.here hx rfl (hb hby d16_3) rfl  kk) ?_
  show Go p e below _ (T9.setTop (mkF m 5 #[.val (.ref a1), .val (.int (2 : Int32)), .val (.ref a2), .val (.int (2 : Int32)), .val (.int (2 : Int32)), .val (.int (2 : Int32)), .val (.int v1)] [(.int (2 : Int32))]))
  refine Go.st (fun _ kk => XS.iload X9.here hx rfl (hb hby d16_5) rfl  kk) ?_
  show Go p e below _ (T9.setTop (mkF m 7 #[.val (.ref a1), .val (.int (2 : Int32)), .val (.ref a2), .val (.int (2 : Int32)), .val (.int (2 : Int32)), .val (.int (2 : Int32)), .val (.int v1)] [(.int (2 : Int32)), (.int (2 : Int32))]))
  refine Go.st (fun _ kk => XS.icmpYes X9.here hx rfl (pc0 := 7) (pc' := 44) rfl (hb hby d16_7) rfl (flt (by decide : ¬ ((2 : Int32) < (2 : Int32)))).2.1 (by decide) (by decide) kk) ?_
  show Go p e below _ (T9.setTop (mkF m 44 #[.val (.ref a1), .val (.int (2 : Int32)), .val (.ref a2), .val (.int (2 : Int32)), .val (.int (2 : Int32)), .val (.int (2 : Int32)), .val (.int v1)] []))
  refine Go.st (fun _ kk => XS.iload X9.here hx rfl (hb hby d16_44) rfl  kk) ?_
  show Go p e below _ (T9.setTop (mkF m 46 #[.val (.ref a1), .val (.int (2 : Int32)), .val (.ref a2), .val (.int (2 : Int32)), .val (.int (2 : Int32)), .val (.int (2 : Int32)), .val (.int v1)] [(.int (2 : Int32))]))
  exact Go.ret (Q := Qm162_o Z a1 a2 v0 v1 kc h0 n0) X9 (v := some (.int (2 : Int32))) (fun h => by rw [Bd.returns] at h; cases h) Bd.notSynchronized (fun fs hr => retOut X9 hx Bd.returns rfl (Or.inl ⟨rfl, Or.inl rfl, _, rfl⟩) (hb hby d16_46) hr) e9 ⟨rfl, N9, K9, V9⟩ (by decide) (by decide)
def Qm152_o (Z : State) (a1 : Addr) (v0 : Int32) (v1 : Int32) (kc : ClassId) (h0 : Heap) (n0 : Nat) (v : Option Value) (h : Heap) (L : List Loc) : Prop := ∃ (b2 : Addr), v = some (.ref b2) ∧ Fr n0 L ∧ Keep h0 h [] ∧ n0 ≤ b2 ∧ h0.size ≤ b2 ∧ Arn Z h b2 .byte (2 : Int32)
set_option maxRecDepth 65536 in
set_option maxHeartbeats 40000000 in
theorem rm152_o (l : Launch) (Z : State) (a0 : Array Value) (hw : ∀ d ∈ tables_1, d.before a0 Z = true) (ws : List Jvm.Cond) (a1 : Addr) (v0 : Int32) (v1 : Int32) (kc : ClassId) (h0 : Heap) (n0 : Nat) (Z0 : n0 ≤ h0.size) (V_a1 : Arv Z h0 a1 kc .char (2 : Int32) [(.int v0), (.int v1)] (.int (0 : Int32))) (hv0 : ¬ ((255 : Int32) < v0)) (hv1 : ¬ ((255 : Int32) < v1)) :
    MetFree l (⟨"java/lang/StringUTF16", "compress", "([CII)[B"⟩ : MethodName) (head1 (Jvm.Cond.code (⟨"java/lang/StringUTF16", "compress", "([CII)[B"⟩ : MethodName) jdk_52_method_16_code 6 (some (.array .byte)) :: ws) ({ frames := 1, cells := 1, slots := 2, locals := 18 } : Room)) (fun a U => a = #[(.ref a1), (.int (0 : Int32)), (.int (2 : Int32))] ∧ Z.Warmed39 U.vm ∧ U.heap = h0) (fun _ _ _ _ _ => True) (fun _ U o U' => ∃ v L, o = .returned v ∧ Qm152_o Z a1 v0 v1 kc h0 n0 v U'.heap L ∧ FrameEnd U o U' L ({ frames := 1, cells := 1, slots := 2, locals := 18 } : Room).cells ({ frames := 1, cells := 1, slots := 2, locals := 18 } : Room).slots) := by
  refine MetFree.of_bodySF (plainFor_of_name pn_15) hisR ?_
  intro p e s m args below meth c s₁ Bd hml0 hP hK
  obtain ⟨rfl, hZ, hh⟩ := hP
  have hx := Bd.exec
  have hby := Bd.bytes
  have hml : c.maxLocals = 6 := hml0
  have hown : s.vm.findClass "java/lang/StringUTF16" = some m.cls := findClass_of_methodNamed Bd.named
  have hnm := (name_of_methodNamed Bd.named Bd.method).1
  have X0 : Stand p l e ({ frames := 1, cells := 1, slots := 2, locals := 18 } : Room) s m #[(.ref a1), (.int (0 : Int32)), (.int (2 : Int32))] below meth c s₁ [] 0 0 := Stand.of_body Bd
  have e0 : s₁.heap = h0 := by rw [← hh, Bd.state]; rfl
  have N0 := Fr.nil n0
  refine Go.en (ef_15 m a1 (0 : Int32) (2 : Int32)) ?_
  show Go p e below _ (s₁.setTop (mkF m 0 #[.val (.ref a1), .val (.int (0 : Int32)), .val (.int (2 : Int32)), .unset, .unset, .unset] []))
  refine Go.st (fun _ kk => XS.iloadN X0.here hx rfl (hb hby d15_0) rfl  kk) ?_
  show Go p e below _ (s₁.setTop (mkF m 1 #[.val (.ref a1), .val (.int (0 : Int32)), .val (.int (2 : Int32)), .unset, .unset, .unset] [(.int (2 : Int32))]))
  obtain ⟨T2, h2, k2, X2, e2, E2, A2, st2⟩ := newP X0 hx hZ (hw _ (List.mem_of_getElem? (i := 15) rfl)) e0 (g := (mkF m 1 #[.val (.ref a1), .val (.int (0 : Int32)), .val (.int (2 : Int32)), .unset, .unset, .unset] [(.int (2 : Int32))])) rfl (hb hby d15_1) rfl (by decide) (cap := 2) (by decide) (by decide) (by decide) (by decide)
  obtain ⟨b2, g2⟩ : ∃ z, z = h0.size := ⟨_, rfl⟩
  rw [← g2] at A2 st2
  refine Go.st st2 ?_
  have g_b2 : n0 ≤ b2 := Nat.le_trans Z0 (Nat.le_of_eq g2.symm)
  have sz_b2 : h0.size ≤ b2 := Nat.le_of_eq g2.symm
  have K2 : Keep h0 h2 [] := (Keep.refl h0 []).ext E2
  have V_b2 : Arv Z h2 b2 k2 .byte (2 : Int32) [(.int (0 : Int32)), (.int (0 : Int32))] (.int (0 : Int32)) := (Arv.new A2 (by decide)).pad (pad_rep [] (.int (0 : Int32)) 2)
  show Go p e below _ (T2.setTop (mkF m 3 #[.val (.ref a1), .val (.int (0 : Int32)), .val (.int (2 : Int32)), .unset, .unset, .unset] [(.ref b2)]))
  refine Go.st (fun _ kk => XS.astoreN X2.here hx rfl (hb hby d15_3) rfl rfl (l' := #[.val (.ref a1), .val (.int (0 : Int32)), .val (.int (2 : Int32)), .val (.ref b2), .unset, .unset]) rfl kk) ?_
  show Go p e below _ (T2.setTop (mkF m 4 #[.val (.ref a1), .val (.int (0 : Int32)), .val (.int (2 : Int32)), .val (.ref b2), .unset, .unset] []))
  refine Go.st (fun _ kk => XS.aloadN X2.here hx rfl (hb hby d15_4) rfl rfl  kk) ?_
  show Go p e below _ (T2.setTop (mkF m 5 #[.val (.ref a1), .val (.int (0 : Int32)), .val (.int (2 : Int32)), .val (.ref b2), .unset, .unset] [(.ref a1)]))
  refine Go.st (fun _ kk => XS.iloadN X2.here hx rfl (hb hby d15_5) rfl  kk) ?_
  show Go p e below _ (T2.setTop (mkF m 6 #[.val (.ref a1), .val (.int (0 : Int32)), .val (.int (2 : Int32)), .val (.ref b2), .unset, .unset] [(.int (0 : Int32)), (.ref a1)]))
  refine Go.st (fun _ kk => XS.aloadN X2.here hx rfl (hb hby d15_6) rfl rfl  kk) ?_
  show Go p e below _ (T2.setTop (mkF m 7 #[.val (.ref a1), .val (.int (0 : Int32)), .val (.int (2 : Int32)), .val (.ref b2), .unset, .unset] [(.ref b2), (.int (0 : Int32)), (.ref a1)]))
  refine Go.st (fun _ kk => XS.iconst X2.here hx rfl (hb hby d15_7) kk) ?_
  show Go p e below _ (T2.setTop (mkF m 8 #[.val (.ref a1), .val (.int (0 : Int32)), .val (.int (2 : Int32)), .val (.ref b2), .unset, .unset] [(.int (0 : Int32)), (.ref b2), (.int (0 : Int32)), (.ref a1)]))
  refine Go.st (fun _ kk => XS.iloadN X2.here hx rfl (hb hby d15_8) rfl  kk) ?_
  show Go p e below _ (T2.setTop (mkF m 9 #[.val (.ref a1), .val (.int (0 : Int32)), .val (.int (2 : Int32)), .val (.ref b2), .unset, .unset] [(.int (2 : Int32)), (.int (0 : Int32)), (.ref b2), (.int (0 : Int32)), (.ref a1)]))
  have f_3 := (V_a1.keep K2 nin0)
  obtain ⟨_, _, ⟨T4, L4, k4, n4⟩, -, X4, ⟨Lc4, hQ4, l4, y4, z4⟩, st4⟩ := Jvm.LawKit.callS X2 hx (y := (⟨"java/lang/StringUTF16", "compress", "([CI[BII)I"⟩ : MethodName)) hown (mvT hZ (hw _ (List.mem_of_getElem? (i := 95) rfl))) (mvT hZ (hw _ (List.mem_of_getElem? (i := 96) rfl))) (mvT hZ (hw _ (List.mem_of_getElem? (i := 93) rfl))) (mvT hZ (hw _ (List.mem_of_getElem? (i := 97) rfl))) (by decide) (backOf (W := 0) (rm162_o l Z a0 hw [] a1 b2 v0 v1 kc h2 n0 (Nat.le_trans Z0 K2.1) f_3 hv0 hv1 (Arv.arn V_b2) g_b2 (Nat.ne_of_lt (Nat.lt_of_lt_of_le V_a1.lt sz_b2))) hZ (hw _ (List.mem_of_getElem? (i := 97) rfl)) (hw _ (List.mem_of_getElem? (i := 93) rfl)) (by decide) (by decide)) (g := (mkF m 9 #[.val (.ref a1), .val (.int (0 : Int32)), .val (.int (2 : Int32)), .val (.ref b2), .unset, .unset] [(.int (2 : Int32)), (.int (0 : Int32)), (.ref b2), (.int (0 : Int32)), (.ref a1)])) rfl (by rw [hml]; rfl) (argsL := [(.ref a1), (.int (0 : Int32)), (.ref b2), (.int (0 : Int32)), (.int (2 : Int32))]) (rest := []) (lenOf pd_3 rfl) rfl (by show 2 * 0 + _ ≤ _; exact Nat.le_of_eq rfl) (hb hby d15_9) (fun _ _ => ⟨rfl, e2, (by decide : 1 + 0 ≤ _), (by decide : 2 + 0 ≤ _)⟩)
  dsimp only [Pt.U, Pt.locs, Pt.cells, Pt.slots] at X4 l4 y4 z4 st4 hQ4
  subst l4 y4 z4
  obtain ⟨rfl, N4q, Kc4, P4_0⟩ := hQ4
  have K4 : Keep h0 T4.heap [] := K2.trans Kc4 (allS (Or.inr sz_b2) all0)
  have N4 := Fr.app N0 N4q
  refine Go.st st4 ?_
  show Go p e below _ (T4.setTop (mkF m 12 #[.val (.ref a1), .val (.int (0 : Int32)), .val (.int (2 : Int32)), .val (.ref b2), .unset, .unset] [(.int (2 : Int32))]))
  refine Go.st (fun _ kk => XS.istore X4.here hx rfl (hb hby d15_12) rfl (l' := #[.val (.ref a1), .val (.int (0 : Int32)), .val (.int (2 : Int32)), .val (.ref b2), .val (.int (2 : Int32)), .unset]) rfl kk) ?_
  show Go p e below _ (T4.setTop (mkF m 14 #[.val (.ref a1), .val (.int (0 : Int32)), .val (.int (2 : Int32)), .val (.ref b2), .val (.int (2 : Int32)), .unset] []))
  refine Go.st (fun _ kk => XS.iload X4.here hx rfl (hb hby d15_14) rfl  kk) ?_
  show Go p e below _ (T4.setTop (mkF m 16 #[.val (.ref a1), .val (.int (0 : Int32)), .val (.int (2 : Int32)), .val (.ref b2), .val (.int (2 : Int32)), .unset] [(.int (2 : Int32))]))
  refine Go.st (fun _ kk => XS.iloadN X4.here hx rfl (hb hby d15_16) rfl  kk) ?_
  show Go p e below _ (T4.setTop (mkF m 17 #[.val (.ref a1), .val (.int (0 : Int32)), .val (.int (2 : Int32)), .val (.ref b2), .val (.int (2 : Int32)), .unset] [(.int (2 : Int32)), (.int (2 : Int32))]))
  refine Go.st (fun _ kk => XS.icmpYes X4.here hx rfl (pc0 := 17) (pc' := 57) rfl (hb hby d15_17) rfl (teq (by decide : ((2 : Int32) = (2 : Int32)))).1 (by decide) (by decide) kk) ?_
  show Go p e below _ (T4.setTop (mkF m 57 #[.val (.ref a1), .val (.int (0 : Int32)), .val (.int (2 : Int32)), .val (.ref b2), .val (.int (2 : Int32)), .unset] []))
  refine Go.st (fun _ kk => XS.aloadN X4.here hx rfl (hb hby d15_57) rfl rfl  kk) ?_
  show Go p e below _ (T4.setTop (mkF m 58 #[.val (.ref a1), .val (.int (0 : Int32)), .val (.int (2 : Int32)), .val (.ref b2), .val (.int (2 : Int32)), .unset] [(.ref b2)]))
  exact Go.ret (Q := Qm152_o Z a1 v0 v1 kc h0 n0) X4 (v := some (.ref b2)) (fun h => by rw [Bd.returns] at h; cases h) Bd.notSynchronized (fun fs hr => retOut X4 hx Bd.returns rfl (Or.inr (Or.inr (Or.inr (Or.inr ⟨rfl, rfl, rfl⟩)))) (hb hby d15_58) hr) rfl ⟨b2, rfl, N4, K4, g_b2, sz_b2, P4_0⟩ (by decide) (by decide)
def Qm172_o (Z : State) (a1 : Addr) (h0 : Heap) (n0 : Nat) (v : Option Value) (h : Heap) (L : List Loc) : Prop := v = some (.int (nar .byte (((((2 : Int32) - (2 : Int32)).toUInt32 >>> ((31 : Int32) &&& 31).toUInt32).toInt32).toInt8.toInt32))) ∧ Fr n0 L ∧ h = h0
set_option maxRecDepth 65536 in
set_option maxHeartbeats 40000000 in
theorem rm172_o (l : Launch) (Z : State) (a0 : Array Value) (hw : ∀ d ∈ tables_1, d.before a0 Z = true) (ws : List Jvm.Cond) (a1 : Addr) (h0 : Heap) (n0 : Nat) (Z0 : n0 ≤ h0.size) (V_a1 : Arn Z h0 a1 .byte (2 : Int32)) :
    MetFree l (⟨"java/lang/StringUTF16", "coderFromArrayLen", "([BI)B"⟩ : MethodName) (head1 (Jvm.Cond.code (⟨"java/lang/StringUTF16", "coderFromArrayLen", "([BI)B"⟩ : MethodName) jdk_52_method_15_code 2 (some .byte) :: ws) ({ frames := 0, cells := 0, slots := 0, locals := 0 } : Room)) (fun a U => a = #[(.ref a1), (.int (2 : Int32))] ∧ Z.Warmed39 U.vm ∧ U.heap = h0) (fun _ _ _ _ _ => True) (fun _ U o U' => ∃ v L, o = .returned v ∧ Qm172_o Z a1 h0 n0 v U'.heap L ∧ FrameEnd U o U' L ({ frames := 0, cells := 0, slots := 0, locals := 0 } : Room).cells ({ frames := 0, cells := 0, slots := 0, locals := 0 } : Room).slots) := by
  refine MetFree.of_bodySF (plainFor_of_name pn_17) hisR ?_
  intro p e s m args below meth c s₁ Bd hml0 hP hK
  obtain ⟨rfl, hZ, hh⟩ := hP
  have hx := Bd.exec
  have hby := Bd.bytes
  have hml : c.maxLocals = 2 := hml0
  have hown : s.vm.findClass "java/lang/StringUTF16" = some m.cls := findClass_of_methodNamed Bd.named
  have hnm := (name_of_methodNamed Bd.named Bd.method).1
  have X0 : Stand p l e ({ frames := 0, cells := 0, slots := 0, locals := 0 } : Room) s m #[(.ref a1), (.int (2 : Int32))] below meth c s₁ [] 0 0 := Stand.of_body Bd
  have e0 : s₁.heap = h0 := by rw [← hh, Bd.state]; rfl
  have N0 := Fr.nil n0
  refine Go.en (ef_17 m a1 (2 : Int32)) ?_
  show Go p e below _ (s₁.setTop (mkF m 0 #[.val (.ref a1), .val (.int (2 : Int32))] []))
  refine Go.st (fun _ kk => XS.iloadN X0.here hx rfl (hb hby d17_0) rfl  kk) ?_
  show Go p e below _ (s₁.setTop (mkF m 1 #[.val (.ref a1), .val (.int (2 : Int32))] [(.int (2 : Int32))]))
  refine Go.st (fun _ kk => XS.aloadN X0.here hx rfl (hb hby d17_1) rfl rfl  kk) ?_
  show Go p e below _ (s₁.setTop (mkF m 2 #[.val (.ref a1), .val (.int (2 : Int32))] [(.ref a1), (.int (2 : Int32))]))
  obtain ⟨clq2, Arq2, saq2, naq2⟩ := id V_a1
  refine Go.st (fun _ kk => X0.arraylength hx (by rw [e0]; exact Arq2.1) (State.isArrayOf_alike hZ.alike Arq2.2.1) (g := (mkF m 2 #[.val (.ref a1), .val (.int (2 : Int32))] [(.ref a1), (.int (2 : Int32))])) rfl rfl (hb hby d17_2) _ kk) ?_
  rw [len_of saq2 naq2]
  show Go p e below _ (s₁.setTop (mkF m 3 #[.val (.ref a1), .val (.int (2 : Int32))] [(.int (2 : Int32)), (.int (2 : Int32))]))
  refine Go.st (fun _ kk => XS.isub X0.here hx rfl (hb hby d17_3) rfl kk) ?_
  show Go p e below _ (s₁.setTop (mkF m 4 #[.val (.ref a1), .val (.int (2 : Int32))] [(.int ((2 : Int32) - (2 : Int32)))]))
  refine Go.st (fun _ kk => XS.bipush X0.here hx rfl (hb hby d17_4) kk) ?_
  show Go p e below _ (s₁.setTop (mkF m 6 #[.val (.ref a1), .val (.int (2 : Int32))] [(.int (31 : Int32)), (.int ((2 : Int32) - (2 : Int32)))]))
  refine Go.st (fun _ kk => XS.iushr X0.here hx rfl (hb hby d17_6) rfl kk) ?_
  show Go p e below _ (s₁.setTop (mkF m 7 #[.val (.ref a1), .val (.int (2 : Int32))] [(.int ((((2 : Int32) - (2 : Int32)).toUInt32 >>> ((31 : Int32) &&& 31).toUInt32).toInt32))]))
  refine Go.st (fun _ kk => XS.i2b X0.here hx rfl (hb hby d17_7) rfl kk) ?_
  show Go p e below _ (s₁.setTop (mkF m 8 #[.val (.ref a1), .val (.int (2 : Int32))] [(.int (((((2 : Int32) - (2 : Int32)).toUInt32 >>> ((31 : Int32) &&& 31).toUInt32).toInt32).toInt8.toInt32))]))
  exact Go.ret (Q := Qm172_o Z a1 h0 n0) X0 (v := some (.int (nar .byte (((((2 : Int32) - (2 : Int32)).toUInt32 >>> ((31 : Int32) &&& 31).toUInt32).toInt32).toInt8.toInt32)))) (fun h => by rw [Bd.returns] at h; cases h) Bd.notSynchronized (fun fs hr => retN X0 hx (t := .byte) Bd.returns (by simp) (hb hby d17_8) hr) e0 ⟨rfl, N0, rfl⟩ (by decide) (by decide)
def Qm142_f (Z : State) (a1 : Addr) (a2 : Addr) (v0 : Int32) (v1 : Int32) (kc : ClassId) (u_coder_a1 : Value) (u_value_a1 : Value) (w4 : Int32) (h0 : Heap) (n0 : Nat) (v : Option Value) (h : Heap) (L : List Loc) : Prop := v = none ∧ Fr n0 L ∧ Keep h0 h [a1] ∧ Exa Z h a1 "java/lang/String"
set_option maxRecDepth 65536 in
set_option maxHeartbeats 40000000 in
theorem rm142_f (l : Launch) (Z : State) (a0 : Array Value) (hw : ∀ d ∈ tables_1, d.before a0 Z = true) (ws : List Jvm.Cond) (a1 : Addr) (a2 : Addr) (v0 : Int32) (v1 : Int32) (kc : ClassId) (u_coder_a1 : Value) (u_value_a1 : Value) (w4 : Int32) (h0 : Heap) (n0 : Nat) (Z0 : n0 ≤ h0.size) (E_a1 : Exa Z h0 a1 "java/lang/String") (V_a2 : Arv Z h0 a2 kc .char (2 : Int32) [(.int v0), (.int v1)] (.int (0 : Int32))) (hv0 : ¬ ((255 : Int32) < v0)) (hv1 : ¬ ((255 : Int32) < v1)) (F_coder_a1 : Fld Z h0 a1 "java/lang/String" "coder" "B" u_coder_a1) (F_value_a1 : Fld Z h0 a1 "java/lang/String" "value" "[B" u_value_a1) (g_a1 : n0 ≤ a1) (hne_a2_a1 : ¬ (a2 = a1)) (S_COMPACT_STRINGS : Sta Z h0 "java/lang/String" "COMPACT_STRINGS" "Z" (.int w4)) (hd3 : ¬ (w4 = (0 : Int32))) :
    MetFree l (⟨"java/lang/String", "<init>", "([CIILjava/lang/Void;)V"⟩ : MethodName) (head1 (Jvm.Cond.code (⟨"java/lang/String", "<init>", "([CIILjava/lang/Void;)V"⟩ : MethodName) jdk_42_method_149_code 6 none :: ws) ({ frames := 2, cells := 1, slots := 2, locals := 35 } : Room)) (fun a U => a = #[(.ref a1), (.ref a2), (.int (0 : Int32)), (.int (2 : Int32)), .null] ∧ Z.Warmed39 U.vm ∧ U.heap = h0) (fun _ _ _ _ _ => True) (fun _ U o U' => ∃ v L, o = .returned v ∧ Qm142_f Z a1 a2 v0 v1 kc u_coder_a1 u_value_a1 w4 h0 n0 v U'.heap L ∧ FrameEnd U o U' L ({ frames := 2, cells := 1, slots := 2, locals := 35 } : Room).cells ({ frames := 2, cells := 1, slots := 2, locals := 35 } : Room).slots) := by
  refine MetFree.of_bodySF (plainFor_of_name pn_14) hisR ?_
  intro p e s m args below meth c s₁ Bd hml0 hP hK
  obtain ⟨rfl, hZ, hh⟩ := hP
  have hx := Bd.exec
  have hby := Bd.bytes
  have hml : c.maxLocals = 6 := hml0
  have hown : s.vm.findClass "java/lang/String" = some m.cls := findClass_of_methodNamed Bd.named
  have hnm := (name_of_methodNamed Bd.named Bd.method).1
  have X0 : Stand p l e ({ frames := 2, cells := 1, slots := 2, locals := 35 } : Room) s m #[(.ref a1), (.ref a2), (.int (0 : Int32)), (.int (2 : Int32)), .null] below meth c s₁ [] 0 0 := Stand.of_body Bd
  have e0 : s₁.heap = h0 := by rw [← hh, Bd.state]; rfl
  have N0 := Fr.nil n0
  refine Go.en (ef_142 m a1 a2 (0 : Int32) (2 : Int32)) ?_
  show Go p e below _ (s₁.setTop (mkF m 0 #[.val (.ref a1), .val (.ref a2), .val (.int (0 : Int32)), .val (.int (2 : Int32)), .val .null, .unset] []))
  refine Go.st (fun _ kk => XS.aloadN X0.here hx rfl (hb hby d14_0) rfl rfl  kk) ?_
  show Go p e below _ (s₁.setTop (mkF m 1 #[.val (.ref a1), .val (.ref a2), .val (.int (0 : Int32)), .val (.int (2 : Int32)), .val .null, .unset] [(.ref a1)]))
  obtain ⟨T3, X3, e3, st3⟩ := initO X0 hx hZ hown (hw _ (List.mem_of_getElem? (i := 20) rfl)) (hw _ (List.mem_of_getElem? (i := 21) rfl)) (hw _ (List.mem_of_getElem? (i := 22) rfl)) e0 (g := (mkF m 1 #[.val (.ref a1), .val (.ref a2), .val (.int (0 : Int32)), .val (.int (2 : Int32)), .val .null, .unset] [(.ref a1)])) rfl (by rw [hml]; rfl) rfl (hb hby d14_1) (by decide) (W := 0) (by show 2 * 0 + _ ≤ _; exact Nat.le_of_eq rfl) (by decide)
  refine Go.st st3 ?_
  show Go p e below _ (T3.setTop (mkF m 4 #[.val (.ref a1), .val (.ref a2), .val (.int (0 : Int32)), .val (.int (2 : Int32)), .val .null, .unset] []))
  refine Go.st (fun _ kk => XS.iloadN X3.here hx rfl (hb hby d14_4) rfl  kk) ?_
  show Go p e below _ (T3.setTop (mkF m 5 #[.val (.ref a1), .val (.ref a2), .val (.int (0 : Int32)), .val (.int (2 : Int32)), .val .null, .unset] [(.int (2 : Int32))]))
  refine Go.st (fun _ kk => XS.ifYes X3.here hx rfl (pc0 := 5) (pc' := 27) rfl (hb hby d14_5) rfl ((if0 _ _).trans (feq (by decide : ¬ ((2 : Int32) = (0 : Int32)))).2) (by decide) (by decide) kk) ?_
  show Go p e below _ (T3.setTop (mkF m 27 #[.val (.ref a1), .val (.ref a2), .val (.int (0 : Int32)), .val (.int (2 : Int32)), .val .null, .unset] []))
  obtain ⟨T5, X5, e5, st5⟩ := getS2 X3 hx hZ hown (host := "") (Or.inl (hw _ (List.mem_of_getElem? (i := 5) rfl))) Via.refl e3 S_COMPACT_STRINGS (g := (mkF m 27 #[.val (.ref a1), .val (.ref a2), .val (.int (0 : Int32)), .val (.int (2 : Int32)), .val .null, .unset] [])) rfl (hb hby d14_27)
  refine Go.st st5 ?_
  show Go p e below _ (T5.setTop (mkF m 30 #[.val (.ref a1), .val (.ref a2), .val (.int (0 : Int32)), .val (.int (2 : Int32)), .val .null, .unset] [(.int w4)]))
  refine Go.st (fun _ kk => XS.ifNo X5.here hx rfl (hb hby d14_30) rfl ((if0 _ _).trans (feq hd3).1) kk) ?_
  show Go p e below _ (T5.setTop (mkF m 33 #[.val (.ref a1), .val (.ref a2), .val (.int (0 : Int32)), .val (.int (2 : Int32)), .val .null, .unset] []))
  refine Go.st (fun _ kk => XS.aloadN X5.here hx rfl (hb hby d14_33) rfl rfl  kk) ?_
  show Go p e below _ (T5.setTop (mkF m 34 #[.val (.ref a1), .val (.ref a2), .val (.int (0 : Int32)), .val (.int (2 : Int32)), .val .null, .unset] [(.ref a2)]))
  refine Go.st (fun _ kk => XS.iloadN X5.here hx rfl (hb hby d14_34) rfl  kk) ?_
  show Go p e below _ (T5.setTop (mkF m 35 #[.val (.ref a1), .val (.ref a2), .val (.int (0 : Int32)), .val (.int (2 : Int32)), .val .null, .unset] [(.int (0 : Int32)), (.ref a2)]))
  refine Go.st (fun _ kk => XS.iloadN X5.here hx rfl (hb hby d14_35) rfl  kk) ?_
  show Go p e below _ (T5.setTop (mkF m 36 #[.val (.ref a1), .val (.ref a2), .val (.int (0 : Int32)), .val (.int (2 : Int32)), .val .null, .unset] [(.int (2 : Int32)), (.int (0 : Int32)), (.ref a2)]))
  obtain ⟨_, _, ⟨T6, L6, k6, n6⟩, -, X6, ⟨Lc6, hQ6, l6, y6, z6⟩, st6⟩ := Jvm.LawKit.callS X5 hx (y := (⟨"java/lang/StringUTF16", "compress", "([CII)[B"⟩ : MethodName)) hown (mvT hZ (hw _ (List.mem_of_getElem? (i := 91) rfl))) (mvT hZ (hw _ (List.mem_of_getElem? (i := 92) rfl))) (mvT hZ (hw _ (List.mem_of_getElem? (i := 93) rfl))) (mvT hZ (hw _ (List.mem_of_getElem? (i := 94) rfl))) (by decide) (backOf (W := 0) (rm152_o l Z a0 hw [] a2 v0 v1 kc h0 n0 Z0 V_a2 hv0 hv1) hZ (hw _ (List.mem_of_getElem? (i := 94) rfl)) (hw _ (List.mem_of_getElem? (i := 93) rfl)) (by decide) (by decide)) (g := (mkF m 36 #[.val (.ref a1), .val (.ref a2), .val (.int (0 : Int32)), .val (.int (2 : Int32)), .val .null, .unset] [(.int (2 : Int32)), (.int (0 : Int32)), (.ref a2)])) rfl (by rw [hml]; rfl) (argsL := [(.ref a2), (.int (0 : Int32)), (.int (2 : Int32))]) (rest := []) (lenOf pd_4 rfl) rfl (by show 2 * 0 + _ ≤ _; exact Nat.le_of_eq rfl) (hb hby d14_36) (fun _ _ => ⟨rfl, e5, (by decide : 0 + 1 ≤ _), (by decide : 0 + 2 ≤ _)⟩)
  dsimp only [Pt.U, Pt.locs, Pt.cells, Pt.slots] at X6 l6 y6 z6 st6 hQ6
  subst l6 y6 z6
  obtain ⟨b2_6, rfl, N6q, Kc6, P6_0, P6_1, P6_2⟩ := hQ6
  have K6 : Keep h0 T6.heap [a1] := (Keep.refl h0 [a1]).trans Kc6 all0
  have g_b2_6 := P6_0
  have sz_b2_6 : h0.size ≤ b2_6 := P6_1
  have N6 := Fr.app N0 N6q
  refine Go.st st6 ?_
  show Go p e below _ (T6.setTop (mkF m 39 #[.val (.ref a1), .val (.ref a2), .val (.int (0 : Int32)), .val (.int (2 : Int32)), .val .null, .unset] [(.ref b2_6)]))
  refine Go.st (fun _ kk => XS.astore X6.here hx rfl (hb hby d14_39) rfl rfl (l' := #[.val (.ref a1), .val (.ref a2), .val (.int (0 : Int32)), .val (.int (2 : Int32)), .val .null, .val (.ref b2_6)]) rfl kk) ?_
  show Go p e below _ (T6.setTop (mkF m 41 #[.val (.ref a1), .val (.ref a2), .val (.int (0 : Int32)), .val (.int (2 : Int32)), .val .null, .val (.ref b2_6)] []))
  refine Go.st (fun _ kk => XS.aloadN X6.here hx rfl (hb hby d14_41) rfl rfl  kk) ?_
  show Go p e below _ (T6.setTop (mkF m 42 #[.val (.ref a1), .val (.ref a2), .val (.int (0 : Int32)), .val (.int (2 : Int32)), .val .null, .val (.ref b2_6)] [(.ref a1)]))
  refine Go.st (fun _ kk => XS.aload X6.here hx rfl (hb hby d14_42) rfl rfl  kk) ?_
  show Go p e below _ (T6.setTop (mkF m 44 #[.val (.ref a1), .val (.ref a2), .val (.int (0 : Int32)), .val (.int (2 : Int32)), .val .null, .val (.ref b2_6)] [(.ref b2_6), (.ref a1)]))
  refine Go.st (fun _ kk => XS.iloadN X6.here hx rfl (hb hby d14_44) rfl  kk) ?_
  show Go p e below _ (T6.setTop (mkF m 45 #[.val (.ref a1), .val (.ref a2), .val (.int (0 : Int32)), .val (.int (2 : Int32)), .val .null, .val (.ref b2_6)] [(.int (2 : Int32)), (.ref b2_6), (.ref a1)]))
  obtain ⟨_, _, ⟨T7, L7, k7, n7⟩, -, X7, ⟨Lc7, hQ7, l7, y7, z7⟩, st7⟩ := Jvm.LawKit.callS X6 hx (y := (⟨"java/lang/StringUTF16", "coderFromArrayLen", "([BI)B"⟩ : MethodName)) hown (mvT hZ (hw _ (List.mem_of_getElem? (i := 98) rfl))) (mvT hZ (hw _ (List.mem_of_getElem? (i := 99) rfl))) (mvT hZ (hw _ (List.mem_of_getElem? (i := 93) rfl))) (mvT hZ (hw _ (List.mem_of_getElem? (i := 100) rfl))) (by decide) (backOf (W := 1) (rm172_o l Z a0 hw [] b2_6 T6.heap n0 (Nat.le_trans Z0 K6.1) P6_2) hZ (hw _ (List.mem_of_getElem? (i := 100) rfl)) (hw _ (List.mem_of_getElem? (i := 93) rfl)) (by decide) (by decide)) (g := (mkF m 45 #[.val (.ref a1), .val (.ref a2), .val (.int (0 : Int32)), .val (.int (2 : Int32)), .val .null, .val (.ref b2_6)] [(.int (2 : Int32)), (.ref b2_6), (.ref a1)])) rfl (by rw [hml]; rfl) (argsL := [(.ref b2_6), (.int (2 : Int32))]) (rest := [(.ref a1)]) (lenOf pd_5 rfl) rfl (by show 2 * 0 + _ ≤ _; exact Nat.le_of_eq rfl) (hb hby d14_45) (fun _ _ => ⟨rfl, rfl, (by decide : 1 + 0 ≤ _), (by decide : 2 + 0 ≤ _)⟩)
  dsimp only [Pt.U, Pt.locs, Pt.cells, Pt.slots] at X7 l7 y7 z7 st7 hQ7
  subst l7 y7 z7
  obtain ⟨rfl, N7q, eq7⟩ := hQ7
  have N7 := Fr.app N6 N7q
  refine Go.st st7 ?_
  show Go p e below _ (T7.setTop (mkF m 48 #[.val (.ref a1), .val (.ref a2), .val (.int (0 : Int32)), .val (.int (2 : Int32)), .val .null, .val (.ref b2_6)] [(.int (nar .byte (((((2 : Int32) - (2 : Int32)).toUInt32 >>> ((31 : Int32) &&& 31).toUInt32).toInt32).toInt8.toInt32))), (.ref a1)]))
  have f_8 := (E_a1.keep Kc6)
  have f_9 := (F_coder_a1.keep Kc6 nin0)
  obtain ⟨T10, h10, X10, e10, W10, st10⟩ := putFN X7 hx hZ hown (hw _ (List.mem_of_getElem? (i := 25) rfl)) Via.refl eq7 f_9 f_8 (Or.inr ⟨(hw _ (List.mem_of_getElem? (i := 26) rfl)), rfl, hnm⟩) (hw _ (List.mem_of_getElem? (i := 11) rfl)) (ty := .byte) (v' := (.int (nar .byte (nar .byte (((((2 : Int32) - (2 : Int32)).toUInt32 >>> ((31 : Int32) &&& 31).toUInt32).toInt32).toInt8.toInt32))))) (by decide) rfl (fits_nar_byte _) (g := (mkF m 48 #[.val (.ref a1), .val (.ref a2), .val (.int (0 : Int32)), .val (.int (2 : Int32)), .val .null, .val (.ref b2_6)] [(.int (nar .byte (((((2 : Int32) - (2 : Int32)).toUInt32 >>> ((31 : Int32) &&& 31).toUInt32).toInt32).toInt8.toInt32))), (.ref a1)])) rfl rfl (hb hby d14_48)
  refine Go.st st10 ?_
  have Fw10 : Fld Z h10 a1 "java/lang/String" "coder" "B" (.int (nar .byte (nar .byte (((((2 : Int32) - (2 : Int32)).toUInt32 >>> ((31 : Int32) &&& 31).toUInt32).toInt32).toInt8.toInt32)))) := Fld.same W10 f_9
  have K10 : Keep h0 h10 [a1] := K6.wr W10 (Or.inl (List.mem_of_getElem? (i := 0) rfl))
  have N10 := Fr.snoc X10 N7 g_a1
  show Go p e below _ (T10.setTop (mkF m 51 #[.val (.ref a1), .val (.ref a2), .val (.int (0 : Int32)), .val (.int (2 : Int32)), .val .null, .val (.ref b2_6)] []))
  refine Go.st (fun _ kk => XS.aloadN X10.here hx rfl (hb hby d14_51) rfl rfl  kk) ?_
  show Go p e below _ (T10.setTop (mkF m 52 #[.val (.ref a1), .val (.ref a2), .val (.int (0 : Int32)), .val (.int (2 : Int32)), .val .null, .val (.ref b2_6)] [(.ref a1)]))
  refine Go.st (fun _ kk => XS.aload X10.here hx rfl (hb hby d14_52) rfl rfl  kk) ?_
  show Go p e below _ (T10.setTop (mkF m 54 #[.val (.ref a1), .val (.ref a2), .val (.int (0 : Int32)), .val (.int (2 : Int32)), .val .null, .val (.ref b2_6)] [(.ref b2_6), (.ref a1)]))
  have f_11 := (Exa.wr W10 f_8)
  have f_12 := (Fld.other W10 (F_value_a1.keep Kc6 nin0) (Or.inr (slot_ne (Or.inr (hw _ (List.mem_of_getElem? (i := 24) rfl))) (Or.inr (hw _ (List.mem_of_getElem? (i := 26) rfl))) (by decide) (t := (.array .byte)) (t' := .byte) (by decide) (by decide))))
  obtain ⟨T13, h13, X13, e13, W13, st13⟩ := putF X10 hx hZ hown (host := "") (Or.inl (hw _ (List.mem_of_getElem? (i := 23) rfl))) Via.refl e10 f_12 f_11 (Or.inr ⟨(hw _ (List.mem_of_getElem? (i := 24) rfl)), rfl, hnm⟩) (hw _ (List.mem_of_getElem? (i := 11) rfl)) (ty := (.array .byte)) (by decide) rfl rfl (g := (mkF m 54 #[.val (.ref a1), .val (.ref a2), .val (.int (0 : Int32)), .val (.int (2 : Int32)), .val .null, .val (.ref b2_6)] [(.ref b2_6), (.ref a1)])) rfl rfl (hb hby d14_54)
  refine Go.st st13 ?_
  have Fw13 : Fld Z h13 a1 "java/lang/String" "value" "[B" (.ref b2_6) := Fld.same W13 f_12
  have K13 : Keep h0 h13 [a1] := K10.wr W13 (Or.inl (List.mem_of_getElem? (i := 0) rfl))
  have N13 := Fr.snoc X13 N10 g_a1
  show Go p e below _ (T13.setTop (mkF m 57 #[.val (.ref a1), .val (.ref a2), .val (.int (0 : Int32)), .val (.int (2 : Int32)), .val .null, .val (.ref b2_6)] []))
  have f_14 := (Exa.wr W13 f_11)
  exact Go.ret (Q := Qm142_f Z a1 a2 v0 v1 kc u_coder_a1 u_value_a1 w4 h0 n0) X13 (v := none) (fun _ => rfl) Bd.notSynchronized (fun fs hr => X13.returnOut hx Bd.returns (hb hby d14_57) hr) e13 ⟨rfl, N13, K13, f_14⟩ (by decide) (by decide)
def Qm132_f (Z : State) (a1 : Addr) (a2 : Addr) (v0 : Int32) (v1 : Int32) (kc : ClassId) (u_coder_a1 : Value) (u_value_a1 : Value) (w4 : Int32) (h0 : Heap) (n0 : Nat) (v : Option Value) (h : Heap) (L : List Loc) : Prop := v = none ∧ Fr n0 L ∧ Keep h0 h [a1] ∧ Exa Z h a1 "java/lang/String"
set_option maxRecDepth 65536 in
set_option maxHeartbeats 40000000 in
theorem rm132_f (l : Launch) (Z : State) (a0 : Array Value) (hw : ∀ d ∈ tables_1, d.before a0 Z = true) (ws : List Jvm.Cond) (a1 : Addr) (a2 : Addr) (v0 : Int32) (v1 : Int32) (kc : ClassId) (u_coder_a1 : Value) (u_value_a1 : Value) (w4 : Int32) (h0 : Heap) (n0 : Nat) (Z0 : n0 ≤ h0.size) (E_a1 : Exa Z h0 a1 "java/lang/String") (V_a2 : Arv Z h0 a2 kc .char (2 : Int32) [(.int v0), (.int v1)] (.int (0 : Int32))) (hv0 : ¬ ((255 : Int32) < v0)) (hv1 : ¬ ((255 : Int32) < v1)) (F_coder_a1 : Fld Z h0 a1 "java/lang/String" "coder" "B" u_coder_a1) (F_value_a1 : Fld Z h0 a1 "java/lang/String" "value" "[B" u_value_a1) (g_a1 : n0 ≤ a1) (hne_a2_a1 : ¬ (a2 = a1)) (hd3 : ¬ (w4 = (0 : Int32))) (S_COMPACT_STRINGS : Sta Z h0 "java/lang/String" "COMPACT_STRINGS" "Z" (.int w4)) :
    MetFree l (⟨"java/lang/String", "<init>", "([C)V"⟩ : MethodName) (head1 (Jvm.Cond.code (⟨"java/lang/String", "<init>", "([C)V"⟩ : MethodName) jdk_42_method_3_code 2 none :: ws) ({ frames := 3, cells := 1, slots := 2, locals := 52 } : Room)) (fun a U => a = #[(.ref a1), (.ref a2)] ∧ Z.Warmed39 U.vm ∧ U.heap = h0) (fun _ _ _ _ _ => True) (fun _ U o U' => ∃ v L, o = .returned v ∧ Qm132_f Z a1 a2 v0 v1 kc u_coder_a1 u_value_a1 w4 h0 n0 v U'.heap L ∧ FrameEnd U o U' L ({ frames := 3, cells := 1, slots := 2, locals := 52 } : Room).cells ({ frames := 3, cells := 1, slots := 2, locals := 52 } : Room).slots) := by
  refine MetFree.of_bodySF (plainFor_of_name pn_13) hisR ?_
  intro p e s m args below meth c s₁ Bd hml0 hP hK
  obtain ⟨rfl, hZ, hh⟩ := hP
  have hx := Bd.exec
  have hby := Bd.bytes
  have hml : c.maxLocals = 2 := hml0
  have hown : s.vm.findClass "java/lang/String" = some m.cls := findClass_of_methodNamed Bd.named
  have hnm := (name_of_methodNamed Bd.named Bd.method).1
  have X0 : Stand p l e ({ frames := 3, cells := 1, slots := 2, locals := 52 } : Room) s m #[(.ref a1), (.ref a2)] below meth c s₁ [] 0 0 := Stand.of_body Bd
  have e0 : s₁.heap = h0 := by rw [← hh, Bd.state]; rfl
  have N0 := Fr.nil n0
  refine Go.en (ef_13 m a1 a2) ?_
  show Go p e below _ (s₁.setTop (mkF m 0 #[.val (.ref a1), .val (.ref a2)] []))
  refine Go.st (fun _ kk => XS.aloadN X0.here hx rfl (hb hby d13_0) rfl rfl  kk) ?_
  show Go p e below _ (s₁.setTop (mkF m 1 #[.val (.ref a1), .val (.ref a2)] [(.ref a1)]))
  refine Go.st (fun _ kk => XS.aloadN X0.here hx rfl (hb hby d13_1) rfl rfl  kk) ?_
  show Go p e below _ (s₁.setTop (mkF m 2 #[.val (.ref a1), .val (.ref a2)] [(.ref a2), (.ref a1)]))
  refine Go.st (fun _ kk => XS.iconst X0.here hx rfl (hb hby d13_2) kk) ?_
  show Go p e below _ (s₁.setTop (mkF m 3 #[.val (.ref a1), .val (.ref a2)] [(.int (0 : Int32)), (.ref a2), (.ref a1)]))
  refine Go.st (fun _ kk => XS.aloadN X0.here hx rfl (hb hby d13_3) rfl rfl  kk) ?_
  show Go p e below _ (s₁.setTop (mkF m 4 #[.val (.ref a1), .val (.ref a2)] [(.ref a2), (.int (0 : Int32)), (.ref a2), (.ref a1)]))
  obtain ⟨clq3, Arq3, caq3, saq3, naq3, haq3, gaq3⟩ := id V_a2
  refine Go.st (fun _ kk => X0.arraylength hx (by rw [e0]; exact Arq3.1) (State.isArrayOf_alike hZ.alike Arq3.2.1) (g := (mkF m 4 #[.val (.ref a1), .val (.ref a2)] [(.ref a2), (.int (0 : Int32)), (.ref a2), (.ref a1)])) rfl rfl (hb hby d13_4) _ kk) ?_
  rw [len_of saq3 naq3]
  show Go p e below _ (s₁.setTop (mkF m 5 #[.val (.ref a1), .val (.ref a2)] [(.int (2 : Int32)), (.int (0 : Int32)), (.ref a2), (.ref a1)]))
  refine Go.st (fun _ kk => XS.aconstNull X0.here hx rfl (hb hby d13_5) kk) ?_
  show Go p e below _ (s₁.setTop (mkF m 6 #[.val (.ref a1), .val (.ref a2)] [.null, (.int (2 : Int32)), (.int (0 : Int32)), (.ref a2), (.ref a1)]))
  obtain ⟨_, _, ⟨T5, L5, k5, n5⟩, -, X5, ⟨Lc5, hQ5, l5, y5, z5⟩, st5⟩ := X0.specialBack hx (y := (⟨"java/lang/String", "<init>", "([CIILjava/lang/Void;)V"⟩ : MethodName)) rfl hown (mvT hZ (hw _ (List.mem_of_getElem? (i := 88) rfl))) (mvT hZ (hw _ (List.mem_of_getElem? (i := 89) rfl))) (mvT hZ (hw _ (List.mem_of_getElem? (i := 90) rfl))) (by decide) (backOf (W := 0) (rm142_f l Z a0 hw [] a1 a2 v0 v1 kc u_coder_a1 u_value_a1 w4 h0 n0 Z0 E_a1 V_a2 hv0 hv1 F_coder_a1 F_value_a1 g_a1 hne_a2_a1 S_COMPACT_STRINGS hd3) hZ (hw _ (List.mem_of_getElem? (i := 90) rfl)) (hw _ (List.mem_of_getElem? (i := 3) rfl)) (by decide) (by decide)) (g := (mkF m 6 #[.val (.ref a1), .val (.ref a2)] [.null, (.int (2 : Int32)), (.int (0 : Int32)), (.ref a2), (.ref a1)])) rfl (by rw [hml]; rfl) (Steps.refl _) (a := a1) (argsL := [(.ref a2), (.int (0 : Int32)), (.int (2 : Int32)), .null]) (rest := []) (lenOf pd_6 rfl) rfl (by show 2 * 0 + _ ≤ _; exact Nat.le_of_eq rfl) (hb hby d13_6) (fun _ _ => ⟨rfl, e0, (by decide : 0 + 1 ≤ _), (by decide : 0 + 2 ≤ _)⟩)
  dsimp only [Pt.U, Pt.locs, Pt.cells, Pt.slots] at X5 l5 y5 z5 st5 hQ5
  subst l5 y5 z5
  obtain ⟨rfl, N5q, Kc5, P5_0⟩ := hQ5
  have K5 : Keep h0 T5.heap [a1] := (Keep.refl h0 [a1]).trans Kc5 (allS (Or.inl (List.mem_of_getElem? (i := 0) rfl)) all0)
  have N5 := Fr.app N0 N5q
  refine Go.tr st5 ?_
  show Go p e below _ (T5.setTop (mkF m 9 #[.val (.ref a1), .val (.ref a2)] []))
  exact Go.ret (Q := Qm132_f Z a1 a2 v0 v1 kc u_coder_a1 u_value_a1 w4 h0 n0) X5 (v := none) (fun _ => rfl) Bd.notSynchronized (fun fs hr => X5.returnOut hx Bd.returns (hb hby d13_9) hr) rfl ⟨rfl, N5, K5, P5_0⟩ (by decide) (by decide)
def Qm14e_o (Z : State) (a1 : Addr) (a2 : Addr) (u_coder_a1 : Value) (u_value_a1 : Value) (h0 : Heap) (n0 : Nat) (v : Option Value) (h : Heap) (L : List Loc) : Prop := v = none ∧ Fr n0 L ∧ Keep h0 h [a1] ∧ Exa Z h a1 "java/lang/String"
set_option maxRecDepth 65536 in
set_option maxHeartbeats 40000000 in
theorem rm14e_o (l : Launch) (Z : State) (a0 : Array Value) (hw : ∀ d ∈ tables_1, d.before a0 Z = true) (ws : List Jvm.Cond) (a1 : Addr) (a2 : Addr) (u_coder_a1 : Value) (u_value_a1 : Value) (h0 : Heap) (n0 : Nat) (Z0 : n0 ≤ h0.size) (E_a1 : Exa Z h0 a1 "java/lang/String") (F_coder_a1 : Fld Z h0 a1 "java/lang/String" "coder" "B" u_coder_a1) (F_value_a1 : Fld Z h0 a1 "java/lang/String" "value" "[B" u_value_a1) (g_a1 : n0 ≤ a1) :
    MetFree l (⟨"java/lang/String", "<init>", "([CIILjava/lang/Void;)V"⟩ : MethodName) (head1 (Jvm.Cond.code (⟨"java/lang/String", "<init>", "([CIILjava/lang/Void;)V"⟩ : MethodName) jdk_42_method_149_code 6 none :: ws) ({ frames := 1, cells := 2, slots := 4, locals := 12 } : Room)) (fun a U => a = #[(.ref a1), (.ref a2), (.int (0 : Int32)), (.int (0 : Int32)), .null] ∧ Z.Warmed39 U.vm ∧ U.heap = h0 ∧ CHv Z own_EL U.vm h0) (fun _ _ _ _ _ => True) (fun _ U o U' => ∃ v L, o = .returned v ∧ Qm14e_o Z a1 a2 u_coder_a1 u_value_a1 h0 n0 v U'.heap L ∧ ReturnedEndW U o U' L ({ frames := 1, cells := 2, slots := 4, locals := 12 } : Room).cells ({ frames := 1, cells := 2, slots := 4, locals := 12 } : Room).slots) := by
  refine MetFree.of_bodySF (plainFor_of_name pn_14) hisR ?_
  intro p e s m args below meth c s₁ Bd hml0 hP hK
  obtain ⟨rfl, hZ, hh, hH⟩ := hP
  have hx := Bd.exec
  have hby := Bd.bytes
  have hml : c.maxLocals = 6 := hml0
  have hown : s.vm.findClass "java/lang/String" = some m.cls := findClass_of_methodNamed Bd.named
  have hnm := (name_of_methodNamed Bd.named Bd.method).1
  have X0 : Stand p l e ({ frames := 1, cells := 2, slots := 4, locals := 12 } : Room) (s.setVm s.vm) m #[(.ref a1), (.ref a2), (.int (0 : Int32)), (.int (0 : Int32)), .null] below meth c s₁ [] 0 0 := Stand.of_body Bd
  have hS : s.Since s.vm 0 := State.WarmedH.since (State.WarmedH.refl s) 0
  have hk : 0 ≤ h0.size := Nat.zero_le _
  have own_wS0 : ∀ a ∈ Bundle.stringAtoms, a.before a0 Z = true := own_wS hw
  have e0 : s₁.heap = h0 := by rw [← hh, Bd.state]; rfl
  have N0 := Fr.nil n0
  refine Go.en (ef_14e m a1 a2 (0 : Int32) (0 : Int32)) ?_
  show Go p e below _ (s₁.setTop (mkF m 0 #[.val (.ref a1), .val (.ref a2), .val (.int (0 : Int32)), .val (.int (0 : Int32)), .val .null, .unset] []))
  refine Go.st (fun _ kk => XS.aloadN X0.here hx rfl (hb hby d14_0) rfl rfl  kk) ?_
  show Go p e below _ (s₁.setTop (mkF m 1 #[.val (.ref a1), .val (.ref a2), .val (.int (0 : Int32)), .val (.int (0 : Int32)), .val .null, .unset] [(.ref a1)]))
  obtain ⟨T3, X3, e3, st3⟩ := initO X0 hx hZ hown (hw _ (List.mem_of_getElem? (i := 20) rfl)) (hw _ (List.mem_of_getElem? (i := 21) rfl)) (hw _ (List.mem_of_getElem? (i := 22) rfl)) e0 (g := (mkF m 1 #[.val (.ref a1), .val (.ref a2), .val (.int (0 : Int32)), .val (.int (0 : Int32)), .val .null, .unset] [(.ref a1)])) rfl (by rw [hml]; rfl) rfl (hb hby d14_1) (by decide) (W := 0) (by show 2 * 0 + _ ≤ _; exact Nat.le_of_eq rfl) (by decide)
  refine Go.st st3 ?_
  show Go p e below _ (T3.setTop (mkF m 4 #[.val (.ref a1), .val (.ref a2), .val (.int (0 : Int32)), .val (.int (0 : Int32)), .val .null, .unset] []))
  refine Go.st (fun _ kk => XS.iloadN X3.here hx rfl (hb hby d14_4) rfl  kk) ?_
  show Go p e below _ (T3.setTop (mkF m 5 #[.val (.ref a1), .val (.ref a2), .val (.int (0 : Int32)), .val (.int (0 : Int32)), .val .null, .unset] [(.int (0 : Int32))]))
  refine Go.st (fun _ kk => XS.ifNo X3.here hx rfl (hb hby d14_5) rfl ((if0 _ _).trans (teq (by decide : ((0 : Int32) = (0 : Int32)))).2) kk) ?_
  show Go p e below _ (T3.setTop (mkF m 8 #[.val (.ref a1), .val (.ref a2), .val (.int (0 : Int32)), .val (.int (0 : Int32)), .val .null, .unset] []))
  refine Go.st (fun _ kk => XS.aloadN X3.here hx rfl (hb hby d14_8) rfl rfl  kk) ?_
  show Go p e below _ (T3.setTop (mkF m 9 #[.val (.ref a1), .val (.ref a2), .val (.int (0 : Int32)), .val (.int (0 : Int32)), .val .null, .unset] [(.ref a1)]))
  obtain ⟨a4, T4, h4, k4, b4, kb4, X4, e4, E4, hS, hk, hZ, hown, Q4, C4, V4, B4, -, -, -, L4, -, st4⟩ := ldcCH X3 hx hZ hown (hw _ (List.mem_of_getElem? (i := 103) rfl)) own_wS0 e3 hS hk (own_EW hw) (own_mem) hH (vs := []) (z := (0 : Int32)) ⟨by decide, rfl⟩ (by decide) rfl (g := (mkF m 9 #[.val (.ref a1), .val (.ref a2), .val (.int (0 : Int32)), .val (.int (0 : Int32)), .val .null, .unset] [(.ref a1)])) rfl (hb hby d14_9) (n := 0) (by decide) (by decide) (by decide) (by decide)
  refine Go.st st4 ?_
  have K4 : Keep h0 h4 [a1] := (Keep.refl h0 [a1]).ext E4
  have f_5 := (Exa.ext E4 E_a1)
  have hnb4 : b4 ≠ a1 := Ne.symm (Exa.neArv f_5 B4 (hw _ (List.mem_of_getElem? (i := 11) rfl)))
  show Go p e below _ (T4.setTop (mkF m 11 #[.val (.ref a1), .val (.ref a2), .val (.int (0 : Int32)), .val (.int (0 : Int32)), .val .null, .unset] [(.ref a4), (.ref a1)]))
  obtain ⟨T6, X6, e6, st6⟩ := getF X4 hx hZ hown (host := "") (Or.inl (hw _ (List.mem_of_getElem? (i := 23) rfl))) Via.refl e4 V4 (g := (mkF m 11 #[.val (.ref a1), .val (.ref a2), .val (.int (0 : Int32)), .val (.int (0 : Int32)), .val .null, .unset] [(.ref a4), (.ref a1)])) rfl rfl (hb hby d14_11)
  refine Go.st st6 ?_
  show Go p e below _ (T6.setTop (mkF m 14 #[.val (.ref a1), .val (.ref a2), .val (.int (0 : Int32)), .val (.int (0 : Int32)), .val .null, .unset] [(.ref b4), (.ref a1)]))
  have f_7 := (Fld.ext E4 F_value_a1)
  obtain ⟨T8, h8, X8, e8, W8, st8⟩ := putF X6 hx hZ hown (host := "") (Or.inl (hw _ (List.mem_of_getElem? (i := 23) rfl))) Via.refl e6 f_7 f_5 (Or.inr ⟨(hw _ (List.mem_of_getElem? (i := 24) rfl)), rfl, hnm⟩) (hw _ (List.mem_of_getElem? (i := 11) rfl)) (ty := (.array .byte)) (by decide) rfl rfl (g := (mkF m 14 #[.val (.ref a1), .val (.ref a2), .val (.int (0 : Int32)), .val (.int (0 : Int32)), .val .null, .unset] [(.ref b4), (.ref a1)])) rfl rfl (hb hby d14_14)
  refine Go.st st8 ?_
  have Fw8 : Fld Z h8 a1 "java/lang/String" "value" "[B" (.ref b4) := Fld.same W8 f_7
  have K8 : Keep h0 h8 [a1] := K4.wr W8 (Or.inl (List.mem_of_getElem? (i := 0) rfl))
  have N8 := Fr.snoc X8 N0 g_a1
  show Go p e below _ (T8.setTop (mkF m 17 #[.val (.ref a1), .val (.ref a2), .val (.int (0 : Int32)), .val (.int (0 : Int32)), .val .null, .unset] []))
  refine Go.st (fun _ kk => XS.aloadN X8.here hx rfl (hb hby d14_17) rfl rfl  kk) ?_
  show Go p e below _ (T8.setTop (mkF m 18 #[.val (.ref a1), .val (.ref a2), .val (.int (0 : Int32)), .val (.int (0 : Int32)), .val .null, .unset] [(.ref a1)]))
  refine Go.st (ldcAgain X8 hx hZ hown (hw _ (List.mem_of_getElem? (i := 103) rfl)) L4 (g := (mkF m 18 #[.val (.ref a1), .val (.ref a2), .val (.int (0 : Int32)), .val (.int (0 : Int32)), .val .null, .unset] [(.ref a1)])) rfl (hb hby d14_18)) ?_
  show Go p e below _ (T8.setTop (mkF m 20 #[.val (.ref a1), .val (.ref a2), .val (.int (0 : Int32)), .val (.int (0 : Int32)), .val .null, .unset] [(.ref a4), (.ref a1)]))
  have f_9 := (Fld.other W8 C4 (Or.inr (slot_ne (Or.inr (hw _ (List.mem_of_getElem? (i := 26) rfl))) (Or.inr (hw _ (List.mem_of_getElem? (i := 24) rfl))) (by decide) (t := .byte) (t' := (.array .byte)) (by decide) (by decide))))
  obtain ⟨T10, X10, e10, st10⟩ := getF X8 hx hZ hown (host := "") (Or.inl (hw _ (List.mem_of_getElem? (i := 25) rfl))) Via.refl e8 f_9 (g := (mkF m 20 #[.val (.ref a1), .val (.ref a2), .val (.int (0 : Int32)), .val (.int (0 : Int32)), .val .null, .unset] [(.ref a4), (.ref a1)])) rfl rfl (hb hby d14_20)
  refine Go.st st10 ?_
  show Go p e below _ (T10.setTop (mkF m 23 #[.val (.ref a1), .val (.ref a2), .val (.int (0 : Int32)), .val (.int (0 : Int32)), .val .null, .unset] [(.int (0 : Int32)), (.ref a1)]))
  have f_11 := (Exa.wr W8 f_5)
  have f_12 := (Fld.other W8 (Fld.ext E4 F_coder_a1) (Or.inr (slot_ne (Or.inr (hw _ (List.mem_of_getElem? (i := 26) rfl))) (Or.inr (hw _ (List.mem_of_getElem? (i := 24) rfl))) (by decide) (t := .byte) (t' := (.array .byte)) (by decide) (by decide))))
  obtain ⟨T13, h13, X13, e13, W13, st13⟩ := putFN X10 hx hZ hown (hw _ (List.mem_of_getElem? (i := 25) rfl)) Via.refl e10 f_12 f_11 (Or.inr ⟨(hw _ (List.mem_of_getElem? (i := 26) rfl)), rfl, hnm⟩) (hw _ (List.mem_of_getElem? (i := 11) rfl)) (ty := .byte) (v' := (.int (0 : Int32))) (by decide) rfl (fits_nar_byte (0 : Int32)) (g := (mkF m 23 #[.val (.ref a1), .val (.ref a2), .val (.int (0 : Int32)), .val (.int (0 : Int32)), .val .null, .unset] [(.int (0 : Int32)), (.ref a1)])) rfl rfl (hb hby d14_23)
  refine Go.st st13 ?_
  have Fw13 : Fld Z h13 a1 "java/lang/String" "coder" "B" (.int (0 : Int32)) := Fld.same W13 f_12
  have K13 : Keep h0 h13 [a1] := K8.wr W13 (Or.inl (List.mem_of_getElem? (i := 0) rfl))
  have N13 := Fr.snoc X13 N8 g_a1
  show Go p e below _ (T13.setTop (mkF m 26 #[.val (.ref a1), .val (.ref a2), .val (.int (0 : Int32)), .val (.int (0 : Int32)), .val .null, .unset] []))
  have hk := (Nat.le_trans (Nat.le_trans hk (Nat.le_of_eq (Wr.size W8).symm)) (Nat.le_of_eq (Wr.size W13).symm))
  have f_14 := (Exa.wr W13 f_11)
  exact Go.retW (Q := Qm14e_o Z a1 a2 u_coder_a1 u_value_a1 h0 n0) hS (hk) X13 (v := none) (fun _ => rfl) Bd.notSynchronized (fun fs hr => X13.returnOut hx Bd.returns (hb hby d14_26) hr) e13 ⟨rfl, N13, K13, f_14⟩ (by decide) (by decide)
def Qm13e_o (Z : State) (a1 : Addr) (a2 : Addr) (u_coder_a1 : Value) (u_value_a1 : Value) (h0 : Heap) (n0 : Nat) (v : Option Value) (h : Heap) (L : List Loc) : Prop := v = none ∧ Fr n0 L ∧ Keep h0 h [a1] ∧ Exa Z h a1 "java/lang/String"
set_option maxRecDepth 65536 in
set_option maxHeartbeats 40000000 in
theorem rm13e_o (l : Launch) (Z : State) (a0 : Array Value) (hw : ∀ d ∈ tables_1, d.before a0 Z = true) (ws : List Jvm.Cond) (a1 : Addr) (a2 : Addr) (u_coder_a1 : Value) (u_value_a1 : Value) (h0 : Heap) (n0 : Nat) (Z0 : n0 ≤ h0.size) (E_a1 : Exa Z h0 a1 "java/lang/String") (F_coder_a1 : Fld Z h0 a1 "java/lang/String" "coder" "B" u_coder_a1) (F_value_a1 : Fld Z h0 a1 "java/lang/String" "value" "[B" u_value_a1) (g_a1 : n0 ≤ a1) (V_a2 : Arn Z h0 a2 .char (0 : Int32)) (hne_a2_a1 : ¬ (a2 = a1)) :
    MetFree l (⟨"java/lang/String", "<init>", "([C)V"⟩ : MethodName) (head1 (Jvm.Cond.code (⟨"java/lang/String", "<init>", "([C)V"⟩ : MethodName) jdk_42_method_3_code 2 none :: ws) ({ frames := 2, cells := 2, slots := 4, locals := 29 } : Room)) (fun a U => a = #[(.ref a1), (.ref a2)] ∧ Z.Warmed39 U.vm ∧ U.heap = h0 ∧ CHv Z own_EL U.vm h0) (fun _ _ _ _ _ => True) (fun _ U o U' => ∃ v L, o = .returned v ∧ Qm13e_o Z a1 a2 u_coder_a1 u_value_a1 h0 n0 v U'.heap L ∧ ReturnedEndW U o U' L ({ frames := 2, cells := 2, slots := 4, locals := 29 } : Room).cells ({ frames := 2, cells := 2, slots := 4, locals := 29 } : Room).slots) := by
  refine MetFree.of_bodySF (plainFor_of_name pn_13) hisR ?_
  intro p e s m args below meth c s₁ Bd hml0 hP hK
  obtain ⟨rfl, hZ, hh, hH⟩ := hP
  have hx := Bd.exec
  have hby := Bd.bytes
  have hml : c.maxLocals = 2 := hml0
  have hown : s.vm.findClass "java/lang/String" = some m.cls := findClass_of_methodNamed Bd.named
  have hnm := (name_of_methodNamed Bd.named Bd.method).1
  have X0 : Stand p l e ({ frames := 2, cells := 2, slots := 4, locals := 29 } : Room) (s.setVm s.vm) m #[(.ref a1), (.ref a2)] below meth c s₁ [] 0 0 := Stand.of_body Bd
  have hS : s.Since s.vm 0 := State.WarmedH.since (State.WarmedH.refl s) 0
  have hk : 0 ≤ h0.size := Nat.zero_le _
  have own_wS0 : ∀ a ∈ Bundle.stringAtoms, a.before a0 Z = true := own_wS hw
  have e0 : s₁.heap = h0 := by rw [← hh, Bd.state]; rfl
  have N0 := Fr.nil n0
  refine Go.en (ef_13 m a1 a2) ?_
  show Go p e below _ (s₁.setTop (mkF m 0 #[.val (.ref a1), .val (.ref a2)] []))
  refine Go.st (fun _ kk => XS.aloadN X0.here hx rfl (hb hby d13_0) rfl rfl  kk) ?_
  show Go p e below _ (s₁.setTop (mkF m 1 #[.val (.ref a1), .val (.ref a2)] [(.ref a1)]))
  refine Go.st (fun _ kk => XS.aloadN X0.here hx rfl (hb hby d13_1) rfl rfl  kk) ?_
  show Go p e below _ (s₁.setTop (mkF m 2 #[.val (.ref a1), .val (.ref a2)] [(.ref a2), (.ref a1)]))
  refine Go.st (fun _ kk => XS.iconst X0.here hx rfl (hb hby d13_2) kk) ?_
  show Go p e below _ (s₁.setTop (mkF m 3 #[.val (.ref a1), .val (.ref a2)] [(.int (0 : Int32)), (.ref a2), (.ref a1)]))
  refine Go.st (fun _ kk => XS.aloadN X0.here hx rfl (hb hby d13_3) rfl rfl  kk) ?_
  show Go p e below _ (s₁.setTop (mkF m 4 #[.val (.ref a1), .val (.ref a2)] [(.ref a2), (.int (0 : Int32)), (.ref a2), (.ref a1)]))
  obtain ⟨clq3, Arq3, saq3, naq3⟩ := id V_a2
  refine Go.st (fun _ kk => X0.arraylength hx (by rw [e0]; exact Arq3.1) (State.isArrayOf_alike hZ.alike Arq3.2.1) (g := (mkF m 4 #[.val (.ref a1), .val (.ref a2)] [(.ref a2), (.int (0 : Int32)), (.ref a2), (.ref a1)])) rfl rfl (hb hby d13_4) _ kk) ?_
  rw [len_of saq3 naq3]
  show Go p e below _ (s₁.setTop (mkF m 5 #[.val (.ref a1), .val (.ref a2)] [(.int (0 : Int32)), (.int (0 : Int32)), (.ref a2), (.ref a1)]))
  refine Go.st (fun _ kk => XS.aconstNull X0.here hx rfl (hb hby d13_5) kk) ?_
  show Go p e below _ (s₁.setTop (mkF m 6 #[.val (.ref a1), .val (.ref a2)] [.null, (.int (0 : Int32)), (.int (0 : Int32)), (.ref a2), (.ref a1)]))
  obtain ⟨_, _, ⟨T4, L4, k4, n4⟩, -, X4, hS4, hG4, ⟨Lc4, hQ4, l4, y4, z4⟩, st4⟩ := X0.specialBackS hx (y := (⟨"java/lang/String", "<init>", "([CIILjava/lang/Void;)V"⟩ : MethodName)) rfl hown (mvT hZ (hw _ (List.mem_of_getElem? (i := 88) rfl))) (mvT hZ (hw _ (List.mem_of_getElem? (i := 89) rfl))) (mvT hZ (hw _ (List.mem_of_getElem? (i := 90) rfl))) (by decide) (backOfSC (W := 0) (rm14e_o l Z a0 hw [] a1 a2 u_coder_a1 u_value_a1 h0 n0 Z0 E_a1 F_coder_a1 F_value_a1 g_a1) hZ (hw _ (List.mem_of_getElem? (i := 90) rfl)) (hw _ (List.mem_of_getElem? (i := 3) rfl)) (by decide) (by decide) (own_EW hw) hH) (g := (mkF m 6 #[.val (.ref a1), .val (.ref a2)] [.null, (.int (0 : Int32)), (.int (0 : Int32)), (.ref a2), (.ref a1)])) rfl (by rw [hml]; rfl) (Steps.refl _) (a := a1) (argsL := [(.ref a2), (.int (0 : Int32)), (.int (0 : Int32)), .null]) (rest := []) (lenOf pd_6 rfl) rfl (by show 2 * 0 + _ ≤ _; exact Nat.le_of_eq rfl) (hb hby d13_6) (fun _ _ => ⟨rfl, e0, (by decide : 0 + 2 ≤ _), (by decide : 0 + 4 ≤ _)⟩)
  dsimp only [Pt.U, Pt.locs, Pt.cells, Pt.slots] at X4 l4 y4 z4 st4 hQ4 hS4 hG4
  subst l4 y4 z4
  obtain ⟨X4, hS, hZ, hown⟩ := rebS hS (by rw [e0]; exact hk) X4 hS4 hG4 hZ hown
  have hk := Nat.le_refl T4.heap.size
  obtain ⟨rfl, N4q, Kc4, P4_0⟩ := hQ4
  have K4 : Keep h0 T4.heap [a1] := (Keep.refl h0 [a1]).trans Kc4 (allS (Or.inl (List.mem_of_getElem? (i := 0) rfl)) all0)
  have N4 := Fr.app N0 N4q
  refine Go.tr st4 ?_
  show Go p e below _ (T4.setTop (mkF m 9 #[.val (.ref a1), .val (.ref a2)] []))
  exact Go.retW (Q := Qm13e_o Z a1 a2 u_coder_a1 u_value_a1 h0 n0) hS (hk) X4 (v := none) (fun _ => rfl) Bd.notSynchronized (fun fs hr => X4.returnOut hx Bd.returns (hb hby d13_9) hr) rfl ⟨rfl, N4, K4, P4_0⟩ (by decide) (by decide)
def Qm9_o (Z : State) (a1 : Addr) (h0 : Heap) (n0 : Nat) (v : Option Value) (h : Heap) (L : List Loc) : Prop := v = none ∧ Fr n0 L ∧ h = h0
set_option maxRecDepth 65536 in
set_option maxHeartbeats 40000000 in
theorem rm9_o (l : Launch) (Z : State) (a0 : Array Value) (hw : ∀ d ∈ tables_1, d.before a0 Z = true) (ws : List Jvm.Cond) (a1 : Addr) (h0 : Heap) (n0 : Nat) (Z0 : n0 ≤ h0.size) :
    MetFree l (⟨"java/lang/Record", "<init>", "()V"⟩ : MethodName) (head1 (Jvm.Cond.code (⟨"java/lang/Record", "<init>", "()V"⟩ : MethodName) jdk_30_method_1_code 1 none :: ws) ({ frames := 1, cells := 0, slots := 0, locals := 12 } : Room)) (fun a U => a = #[(.ref a1)] ∧ Z.Warmed39 U.vm ∧ U.heap = h0) (fun _ _ _ _ _ => True) (fun _ U o U' => ∃ v L, o = .returned v ∧ Qm9_o Z a1 h0 n0 v U'.heap L ∧ FrameEnd U o U' L ({ frames := 1, cells := 0, slots := 0, locals := 12 } : Room).cells ({ frames := 1, cells := 0, slots := 0, locals := 12 } : Room).slots) := by
  refine MetFree.of_bodySF (plainFor_of_name pn_9) hisR ?_
  intro p e s m args below meth c s₁ Bd hml0 hP hK
  obtain ⟨rfl, hZ, hh⟩ := hP
  have hx := Bd.exec
  have hby := Bd.bytes
  have hml : c.maxLocals = 1 := hml0
  have hown : s.vm.findClass "java/lang/Record" = some m.cls := findClass_of_methodNamed Bd.named
  have hnm := (name_of_methodNamed Bd.named Bd.method).1
  have X0 : Stand p l e ({ frames := 1, cells := 0, slots := 0, locals := 12 } : Room) s m #[(.ref a1)] below meth c s₁ [] 0 0 := Stand.of_body Bd
  have e0 : s₁.heap = h0 := by rw [← hh, Bd.state]; rfl
  have N0 := Fr.nil n0
  refine Go.en (ef_9 m a1) ?_
  show Go p e below _ (s₁.setTop (mkF m 0 #[.val (.ref a1)] []))
  refine Go.st (fun _ kk => XS.aloadN X0.here hx rfl (hb hby d9_0) rfl rfl  kk) ?_
  show Go p e below _ (s₁.setTop (mkF m 1 #[.val (.ref a1)] [(.ref a1)]))
  obtain ⟨T2, X2, e2, st2⟩ := initO X0 hx hZ hown (hw _ (List.mem_of_getElem? (i := 47) rfl)) (hw _ (List.mem_of_getElem? (i := 21) rfl)) (hw _ (List.mem_of_getElem? (i := 22) rfl)) e0 (g := (mkF m 1 #[.val (.ref a1)] [(.ref a1)])) rfl (by rw [hml]; rfl) rfl (hb hby d9_1) (by decide) (W := 0) (by show 2 * 0 + _ ≤ _; exact Nat.le_of_eq rfl) (by decide)
  refine Go.st st2 ?_
  show Go p e below _ (T2.setTop (mkF m 4 #[.val (.ref a1)] []))
  exact Go.ret (Q := Qm9_o Z a1 h0 n0) X2 (v := none) (fun _ => rfl) Bd.notSynchronized (fun fs hr => X2.returnOut hx Bd.returns (hb hby d9_4) hr) e2 ⟨rfl, N0, rfl⟩ (by decide) (by decide)
def Qm10_o (Z : State) (a1 : Addr) (a2 : Addr) (h0 : Heap) (n0 : Nat) (v : Option Value) (h : Heap) (L : List Loc) : Prop := v = some (.ref a1) ∧ Fr n0 L ∧ h = h0
set_option maxRecDepth 65536 in
set_option maxHeartbeats 40000000 in
theorem rm10_o (l : Launch) (Z : State) (a0 : Array Value) (hw : ∀ d ∈ tables_1, d.before a0 Z = true) (ws : List Jvm.Cond) (a1 : Addr) (a2 : Addr) (h0 : Heap) (n0 : Nat) (Z0 : n0 ≤ h0.size) :
    MetFree l (⟨"java/util/Objects", "requireNonNull", "(Ljava/lang/Object;Ljava/lang/String;)Ljava/lang/Object;"⟩ : MethodName) (head1 (Jvm.Cond.code (⟨"java/util/Objects", "requireNonNull", "(Ljava/lang/Object;Ljava/lang/String;)Ljava/lang/Object;"⟩ : MethodName) jdk_31_method_11_code 2 (some (.object "java/lang/Object")) :: ws) ({ frames := 0, cells := 0, slots := 0, locals := 0 } : Room)) (fun a U => a = #[(.ref a1), (.ref a2)] ∧ Z.Warmed39 U.vm ∧ U.heap = h0) (fun _ _ _ _ _ => True) (fun _ U o U' => ∃ v L, o = .returned v ∧ Qm10_o Z a1 a2 h0 n0 v U'.heap L ∧ FrameEnd U o U' L ({ frames := 0, cells := 0, slots := 0, locals := 0 } : Room).cells ({ frames := 0, cells := 0, slots := 0, locals := 0 } : Room).slots) := by
  refine MetFree.of_bodySF (plainFor_of_name pn_10) hisR ?_
  intro p e s m args below meth c s₁ Bd hml0 hP hK
  obtain ⟨rfl, hZ, hh⟩ := hP
  have hx := Bd.exec
  have hby := Bd.bytes
  have hml : c.maxLocals = 2 := hml0
  have hown : s.vm.findClass "java/util/Objects" = some m.cls := findClass_of_methodNamed Bd.named
  have hnm := (name_of_methodNamed Bd.named Bd.method).1
  have X0 : Stand p l e ({ frames := 0, cells := 0, slots := 0, locals := 0 } : Room) s m #[(.ref a1), (.ref a2)] below meth c s₁ [] 0 0 := Stand.of_body Bd
  have e0 : s₁.heap = h0 := by rw [← hh, Bd.state]; rfl
  have N0 := Fr.nil n0
  refine Go.en (ef_10 m a1 a2) ?_
  show Go p e below _ (s₁.setTop (mkF m 0 #[.val (.ref a1), .val (.ref a2)] []))
  refine Go.st (fun _ kk => XS.aloadN X0.here hx rfl (hb hby d10_0) rfl rfl  kk) ?_
  show Go p e below _ (s₁.setTop (mkF m 1 #[.val (.ref a1), .val (.ref a2)] [(.ref a1)]))
  refine Go.st (fun _ kk => XS.ifnonnullYes X0.here hx rfl (pc0 := 1) (pc' := 13) rfl (hb hby d10_1) rfl (by decide) (by decide) kk) ?_
  show Go p e below _ (s₁.setTop (mkF m 13 #[.val (.ref a1), .val (.ref a2)] []))
  refine Go.st (fun _ kk => XS.aloadN X0.here hx rfl (hb hby d10_13) rfl rfl  kk) ?_
  show Go p e below _ (s₁.setTop (mkF m 14 #[.val (.ref a1), .val (.ref a2)] [(.ref a1)]))
  exact Go.ret (Q := Qm10_o Z a1 a2 h0 n0) X0 (v := some (.ref a1)) (fun h => by rw [Bd.returns] at h; cases h) Bd.notSynchronized (fun fs hr => retOut X0 hx Bd.returns rfl (Or.inr (Or.inr (Or.inr (Or.inr ⟨rfl, rfl, rfl⟩)))) (hb hby d10_14) hr) e0 ⟨rfl, N0, rfl⟩ (by decide) (by decide)
def Qm8x_o (Z : State) (a1 : Addr) (a2 : Addr) (a3 : Addr) (p4 : Int32) (p5 : Int32) (u_name_a1 : Value) (u_kind_a1 : Value) (u_many_a1 : Value) (u_ordered_a1 : Value) (u_singleOpposite_a1 : Value) (h0 : Heap) (n0 : Nat) (v : Option Value) (h : Heap) (L : List Loc) : Prop := v = none ∧ Fr n0 L ∧ Keep h0 h [a1] ∧ Exa Z h a1 "com/example/mergewell/mergewell/core/Feature"
set_option maxRecDepth 65536 in
set_option maxHeartbeats 40000000 in
theorem rm8x_o (l : Launch) (Z : State) (a0 : Array Value) (hw : ∀ d ∈ tables_1, d.before a0 Z = true) (ws : List Jvm.Cond) (a1 : Addr) (a2 : Addr) (a3 : Addr) (p4 : Int32) (p5 : Int32) (u_name_a1 : Value) (u_kind_a1 : Value) (u_many_a1 : Value) (u_ordered_a1 : Value) (u_singleOpposite_a1 : Value) (h0 : Heap) (n0 : Nat) (Z0 : n0 ≤ h0.size) (E_a1 : Exa Z h0 a1 "com/example/mergewell/mergewell/core/Feature") (F_name_a1 : Fld Z h0 a1 "com/example/mergewell/mergewell/core/Feature" "name" "Ljava/lang/String;" u_name_a1) (g_a1 : n0 ≤ a1) (F_kind_a1 : Fld Z h0 a1 "com/example/mergewell/mergewell/core/Feature" "kind" "Lcom/example/mergewell/mergewell/core/Feature$Kind;" u_kind_a1) (F_many_a1 : Fld Z h0 a1 "com/example/mergewell/mergewell/core/Feature" "many" "Z" u_many_a1) (F_ordered_a1 : Fld Z h0 a1 "com/example/mergewell/mergewell/core/Feature" "ordered" "Z" u_ordered_a1) (F_singleOpposite_a1 : Fld Z h0 a1 "com/example/mergewell/mergewell/core/Feature" "singleOpposite" "Ljava/lang/String;" u_singleOpposite_a1) :
    MetFree l (⟨"com/example/mergewell/mergewell/core/Feature", "<init>", "(Ljava/lang/String;Lcom/example/mergewell/mergewell/core/Feature$Kind;ZZLjava/lang/String;)V"⟩ : MethodName) (head1 (Jvm.Cond.code (⟨"com/example/mergewell/mergewell/core/Feature", "<init>", "(Ljava/lang/String;Lcom/example/mergewell/mergewell/core/Feature$Kind;ZZLjava/lang/String;)V"⟩ : MethodName) prog_6_method_1_code 6 none :: ws) ({ frames := 2, cells := 4, slots := 40, locals := 24 } : Room)) (fun a U => a = #[(.ref a1), (.ref a2), (.ref a3), (.int p4), (.int p5), .null] ∧ Z.Warmed39 U.vm ∧ U.heap = h0) (fun _ _ _ _ _ => True) (fun _ U o U' => ∃ v L, o = .returned v ∧ Qm8x_o Z a1 a2 a3 p4 p5 u_name_a1 u_kind_a1 u_many_a1 u_ordered_a1 u_singleOpposite_a1 h0 n0 v U'.heap L ∧ ReturnedEndW U o U' L ({ frames := 2, cells := 4, slots := 40, locals := 24 } : Room).cells ({ frames := 2, cells := 4, slots := 40, locals := 24 } : Room).slots) := by
  refine MetFree.of_bodySF (plainFor_of_name pn_8) hisR ?_
  intro p e s m args below meth c s₁ Bd hml0 hP hK
  obtain ⟨rfl, hZ, hh⟩ := hP
  have hx := Bd.exec
  have hby := Bd.bytes
  have hml : c.maxLocals = 6 := hml0
  have hown : s.vm.findClass "com/example/mergewell/mergewell/core/Feature" = some m.cls := findClass_of_methodNamed Bd.named
  have hnm := (name_of_methodNamed Bd.named Bd.method).1
  have X0 : Stand p l e ({ frames := 2, cells := 4, slots := 40, locals := 24 } : Room) (s.setVm s.vm) m #[(.ref a1), (.ref a2), (.ref a3), (.int p4), (.int p5), .null] below meth c s₁ [] 0 0 := Stand.of_body Bd
  have hS : s.Since s.vm 0 := State.WarmedH.since (State.WarmedH.refl s) 0
  have hk : 0 ≤ h0.size := Nat.zero_le _
  have own_wS0 : ∀ a ∈ Bundle.stringAtoms, a.before a0 Z = true := own_wS hw
  have e0 : s₁.heap = h0 := by rw [← hh, Bd.state]; rfl
  have N0 := Fr.nil n0
  refine Go.en (ef_8x m a1 a2 a3 p4 p5) ?_
  show Go p e below _ (s₁.setTop (mkF m 0 #[.val (.ref a1), .val (.ref a2), .val (.ref a3), .val (.int p4), .val (.int p5), .val .null] []))
  refine Go.st (fun _ kk => XS.aloadN X0.here hx rfl (hb hby d8_0) rfl rfl  kk) ?_
  show Go p e below _ (s₁.setTop (mkF m 1 #[.val (.ref a1), .val (.ref a2), .val (.ref a3), .val (.int p4), .val (.int p5), .val .null] [(.ref a1)]))
  obtain ⟨_, _, ⟨T6, L6, k6, n6⟩, -, X6, ⟨Lc6, hQ6, l6, y6, z6⟩, st6⟩ := X0.specialBack hx (y := (⟨"java/lang/Record", "<init>", "()V"⟩ : MethodName)) rfl hown (mvT hZ (hw _ (List.mem_of_getElem? (i := 42) rfl))) (mvT hZ (hw _ (List.mem_of_getElem? (i := 43) rfl))) (mvT hZ (hw _ (List.mem_of_getElem? (i := 46) rfl))) (by decide) (backOf (W := 0) (rm9_o l Z a0 hw [] a1 h0 n0 Z0 ) hZ (hw _ (List.mem_of_getElem? (i := 46) rfl)) (hw _ (List.mem_of_getElem? (i := 45) rfl)) (by decide) (by decide)) (g := (mkF m 1 #[.val (.ref a1), .val (.ref a2), .val (.ref a3), .val (.int p4), .val (.int p5), .val .null] [(.ref a1)])) rfl (by rw [hml]; rfl) (Steps.refl _) (a := a1) (argsL := []) (rest := []) (lenOf pd_7 rfl) rfl (by show 2 * 0 + _ ≤ _; exact Nat.le_of_eq rfl) (hb hby d8_1) (fun _ _ => ⟨rfl, e0, (by decide : 0 + 0 ≤ _), (by decide : 0 + 0 ≤ _)⟩)
  dsimp only [Pt.U, Pt.locs, Pt.cells, Pt.slots] at X6 l6 y6 z6 st6 hQ6
  subst l6 y6 z6
  obtain ⟨rfl, N6q, eq6⟩ := hQ6
  have N6 := Fr.app N0 N6q
  refine Go.tr st6 ?_
  show Go p e below _ (T6.setTop (mkF m 4 #[.val (.ref a1), .val (.ref a2), .val (.ref a3), .val (.int p4), .val (.int p5), .val .null] []))
  refine Go.st (fun _ kk => XS.aloadN X6.here hx rfl (hb hby d8_4) rfl rfl  kk) ?_
  show Go p e below _ (T6.setTop (mkF m 5 #[.val (.ref a1), .val (.ref a2), .val (.ref a3), .val (.int p4), .val (.int p5), .val .null] [(.ref a2)]))
  obtain ⟨a7, T7, h7, k7, X7, e7, E7, hS, hk, hZ, hown, st7⟩ := ldcS X6 hx hZ hown (hw _ (List.mem_of_getElem? (i := 48) rfl)) own_wS0 eq6 hS hk (g := (mkF m 5 #[.val (.ref a1), .val (.ref a2), .val (.ref a3), .val (.int p4), .val (.int p5), .val .null] [(.ref a2)])) rfl (hb hby d8_5) (n := 16) (by decide) (by decide) (by decide) (by decide)
  refine Go.st st7 ?_
  have K7 : Keep h0 h7 [a1] := (Keep.refl h0 [a1]).ext E7
  show Go p e below _ (T7.setTop (mkF m 7 #[.val (.ref a1), .val (.ref a2), .val (.ref a3), .val (.int p4), .val (.int p5), .val .null] [(.ref a7), (.ref a2)]))
  obtain ⟨_, _, ⟨T8, L8, k8, n8⟩, -, X8, ⟨Lc8, hQ8, l8, y8, z8⟩, st8⟩ := Jvm.LawKit.callS X7 hx (y := (⟨"java/util/Objects", "requireNonNull", "(Ljava/lang/Object;Ljava/lang/String;)Ljava/lang/Object;"⟩ : MethodName)) hown (mvT hZ (hw _ (List.mem_of_getElem? (i := 51) rfl))) (mvT hZ (hw _ (List.mem_of_getElem? (i := 52) rfl))) (mvT hZ (hw _ (List.mem_of_getElem? (i := 53) rfl))) (mvT hZ (hw _ (List.mem_of_getElem? (i := 54) rfl))) (by decide) (backOf (W := 0) (rm10_o l Z a0 hw [] a2 a7 h7 n0 (Nat.le_trans Z0 K7.1) ) hZ (hw _ (List.mem_of_getElem? (i := 54) rfl)) (hw _ (List.mem_of_getElem? (i := 53) rfl)) (by decide) (by decide)) (g := (mkF m 7 #[.val (.ref a1), .val (.ref a2), .val (.ref a3), .val (.int p4), .val (.int p5), .val .null] [(.ref a7), (.ref a2)])) rfl (by rw [hml]; rfl) (argsL := [(.ref a2), (.ref a7)]) (rest := []) (lenOf pd_8 rfl) rfl (by show 2 * 0 + _ ≤ _; exact Nat.le_of_eq rfl) (hb hby d8_7) (fun _ _ => ⟨rfl, e7, (by decide : 2 + 0 ≤ _), (by decide : 20 + 0 ≤ _)⟩)
  dsimp only [Pt.U, Pt.locs, Pt.cells, Pt.slots] at X8 l8 y8 z8 st8 hQ8
  subst l8 y8 z8
  obtain ⟨rfl, N8q, eq8⟩ := hQ8
  have N8 := Fr.app N6 N8q
  refine Go.st st8 ?_
  show Go p e below _ (T8.setTop (mkF m 10 #[.val (.ref a1), .val (.ref a2), .val (.ref a3), .val (.int p4), .val (.int p5), .val .null] [(.ref a2)]))
  refine Go.st (fun _ kk => XS.pop X8.here hx rfl (hb hby d8_10) rfl rfl kk) ?_
  show Go p e below _ (T8.setTop (mkF m 11 #[.val (.ref a1), .val (.ref a2), .val (.ref a3), .val (.int p4), .val (.int p5), .val .null] []))
  refine Go.st (fun _ kk => XS.aloadN X8.here hx rfl (hb hby d8_11) rfl rfl  kk) ?_
  show Go p e below _ (T8.setTop (mkF m 12 #[.val (.ref a1), .val (.ref a2), .val (.ref a3), .val (.int p4), .val (.int p5), .val .null] [(.ref a3)]))
  obtain ⟨a9, T9, h9, k9, X9, e9, E9, hS, hk, hZ, hown, st9⟩ := ldcS X8 hx hZ hown (hw _ (List.mem_of_getElem? (i := 55) rfl)) own_wS0 eq8 hS hk (g := (mkF m 12 #[.val (.ref a1), .val (.ref a2), .val (.ref a3), .val (.int p4), .val (.int p5), .val .null] [(.ref a3)])) rfl (hb hby d8_12) (n := 16) (by decide) (by decide) (by decide) (by decide)
  refine Go.st st9 ?_
  have K9 : Keep h0 h9 [a1] := K7.ext E9
  show Go p e below _ (T9.setTop (mkF m 14 #[.val (.ref a1), .val (.ref a2), .val (.ref a3), .val (.int p4), .val (.int p5), .val .null] [(.ref a9), (.ref a3)]))
  obtain ⟨_, _, ⟨T10, L10, k10, n10⟩, -, X10, ⟨Lc10, hQ10, l10, y10, z10⟩, st10⟩ := Jvm.LawKit.callS X9 hx (y := (⟨"java/util/Objects", "requireNonNull", "(Ljava/lang/Object;Ljava/lang/String;)Ljava/lang/Object;"⟩ : MethodName)) hown (mvT hZ (hw _ (List.mem_of_getElem? (i := 51) rfl))) (mvT hZ (hw _ (List.mem_of_getElem? (i := 52) rfl))) (mvT hZ (hw _ (List.mem_of_getElem? (i := 53) rfl))) (mvT hZ (hw _ (List.mem_of_getElem? (i := 54) rfl))) (by decide) (backOf (W := 0) (rm10_o l Z a0 hw [] a3 a9 h9 n0 (Nat.le_trans Z0 K9.1) ) hZ (hw _ (List.mem_of_getElem? (i := 54) rfl)) (hw _ (List.mem_of_getElem? (i := 53) rfl)) (by decide) (by decide)) (g := (mkF m 14 #[.val (.ref a1), .val (.ref a2), .val (.ref a3), .val (.int p4), .val (.int p5), .val .null] [(.ref a9), (.ref a3)])) rfl (by rw [hml]; rfl) (argsL := [(.ref a3), (.ref a9)]) (rest := []) (lenOf pd_8 rfl) rfl (by show 2 * 0 + _ ≤ _; exact Nat.le_of_eq rfl) (hb hby d8_14) (fun _ _ => ⟨rfl, e9, (by decide : 4 + 0 ≤ _), (by decide : 40 + 0 ≤ _)⟩)
  dsimp only [Pt.U, Pt.locs, Pt.cells, Pt.slots] at X10 l10 y10 z10 st10 hQ10
  subst l10 y10 z10
  obtain ⟨rfl, N10q, eq10⟩ := hQ10
  have N10 := Fr.app N8 N10q
  refine Go.st st10 ?_
  show Go p e below _ (T10.setTop (mkF m 17 #[.val (.ref a1), .val (.ref a2), .val (.ref a3), .val (.int p4), .val (.int p5), .val .null] [(.ref a3)]))
  refine Go.st (fun _ kk => XS.pop X10.here hx rfl (hb hby d8_17) rfl rfl kk) ?_
  show Go p e below _ (T10.setTop (mkF m 18 #[.val (.ref a1), .val (.ref a2), .val (.ref a3), .val (.int p4), .val (.int p5), .val .null] []))
  refine Go.st (fun _ kk => XS.aloadN X10.here hx rfl (hb hby d8_18) rfl rfl  kk) ?_
  show Go p e below _ (T10.setTop (mkF m 19 #[.val (.ref a1), .val (.ref a2), .val (.ref a3), .val (.int p4), .val (.int p5), .val .null] [(.ref a1)]))
  refine Go.st (fun _ kk => XS.aloadN X10.here hx rfl (hb hby d8_19) rfl rfl  kk) ?_
  show Go p e below _ (T10.setTop (mkF m 20 #[.val (.ref a1), .val (.ref a2), .val (.ref a3), .val (.int p4), .val (.int p5), .val .null] [(.ref a2), (.ref a1)]))
  have f_11 := (Exa.ext E9 (Exa.ext E7 E_a1))
  have f_12 := (Fld.ext E9 (Fld.ext E7 F_name_a1))
  obtain ⟨T13, h13, X13, e13, W13, st13⟩ := putF X10 hx hZ hown (host := "") (Or.inl (hw _ (List.mem_of_getElem? (i := 56) rfl))) Via.refl eq10 f_12 f_11 (Or.inr ⟨(hw _ (List.mem_of_getElem? (i := 57) rfl)), rfl, hnm⟩) (hw _ (List.mem_of_getElem? (i := 31) rfl)) (ty := (.object "java/lang/String")) (by decide) rfl rfl (g := (mkF m 20 #[.val (.ref a1), .val (.ref a2), .val (.ref a3), .val (.int p4), .val (.int p5), .val .null] [(.ref a2), (.ref a1)])) rfl rfl (hb hby d8_20)
  refine Go.st st13 ?_
  have Fw13 : Fld Z h13 a1 "com/example/mergewell/mergewell/core/Feature" "name" "Ljava/lang/String;" (.ref a2) := Fld.same W13 f_12
  have K13 : Keep h0 h13 [a1] := K9.wr W13 (Or.inl (List.mem_of_getElem? (i := 0) rfl))
  have N13 := Fr.snoc X13 N10 g_a1
  show Go p e below _ (T13.setTop (mkF m 23 #[.val (.ref a1), .val (.ref a2), .val (.ref a3), .val (.int p4), .val (.int p5), .val .null] []))
  refine Go.st (fun _ kk => XS.aloadN X13.here hx rfl (hb hby d8_23) rfl rfl  kk) ?_
  show Go p e below _ (T13.setTop (mkF m 24 #[.val (.ref a1), .val (.ref a2), .val (.ref a3), .val (.int p4), .val (.int p5), .val .null] [(.ref a1)]))
  refine Go.st (fun _ kk => XS.aloadN X13.here hx rfl (hb hby d8_24) rfl rfl  kk) ?_
  show Go p e below _ (T13.setTop (mkF m 25 #[.val (.ref a1), .val (.ref a2), .val (.ref a3), .val (.int p4), .val (.int p5), .val .null] [(.ref a3), (.ref a1)]))
  have f_14 := (Exa.wr W13 f_11)
  have f_15 := (Fld.other W13 (Fld.ext E9 (Fld.ext E7 F_kind_a1)) (Or.inr (slot_ne (Or.inr (hw _ (List.mem_of_getElem? (i := 59) rfl))) (Or.inr (hw _ (List.mem_of_getElem? (i := 57) rfl))) (by decide) (t := (.object "com/example/mergewell/mergewell/core/Feature$Kind")) (t' := (.object "java/lang/String")) (by decide) (by decide))))
  obtain ⟨T16, h16, X16, e16, W16, st16⟩ := putF X13 hx hZ hown (host := "") (Or.inl (hw _ (List.mem_of_getElem? (i := 58) rfl))) Via.refl e13 f_15 f_14 (Or.inr ⟨(hw _ (List.mem_of_getElem? (i := 59) rfl)), rfl, hnm⟩) (hw _ (List.mem_of_getElem? (i := 31) rfl)) (ty := (.object "com/example/mergewell/mergewell/core/Feature$Kind")) (by decide) rfl rfl (g := (mkF m 25 #[.val (.ref a1), .val (.ref a2), .val (.ref a3), .val (.int p4), .val (.int p5), .val .null] [(.ref a3), (.ref a1)])) rfl rfl (hb hby d8_25)
  refine Go.st st16 ?_
  have Fw16 : Fld Z h16 a1 "com/example/mergewell/mergewell/core/Feature" "kind" "Lcom/example/mergewell/mergewell/core/Feature$Kind;" (.ref a3) := Fld.same W16 f_15
  have K16 : Keep h0 h16 [a1] := K13.wr W16 (Or.inl (List.mem_of_getElem? (i := 0) rfl))
  have N16 := Fr.snoc X16 N13 g_a1
  show Go p e below _ (T16.setTop (mkF m 28 #[.val (.ref a1), .val (.ref a2), .val (.ref a3), .val (.int p4), .val (.int p5), .val .null] []))
  refine Go.st (fun _ kk => XS.aloadN X16.here hx rfl (hb hby d8_28) rfl rfl  kk) ?_
  show Go p e below _ (T16.setTop (mkF m 29 #[.val (.ref a1), .val (.ref a2), .val (.ref a3), .val (.int p4), .val (.int p5), .val .null] [(.ref a1)]))
  refine Go.st (fun _ kk => XS.iloadN X16.here hx rfl (hb hby d8_29) rfl  kk) ?_
  show Go p e below _ (T16.setTop (mkF m 30 #[.val (.ref a1), .val (.ref a2), .val (.ref a3), .val (.int p4), .val (.int p5), .val .null] [(.int p4), (.ref a1)]))
  have f_17 := (Exa.wr W16 f_14)
  have f_18 := (Fld.other W16 (Fld.other W13 (Fld.ext E9 (Fld.ext E7 F_many_a1)) (Or.inr (slot_ne (Or.inr (hw _ (List.mem_of_getElem? (i := 61) rfl))) (Or.inr (hw _ (List.mem_of_getElem? (i := 57) rfl))) (by decide) (t := .boolean) (t' := (.object "java/lang/String")) (by decide) (by decide)))) (Or.inr (slot_ne (Or.inr (hw _ (List.mem_of_getElem? (i := 61) rfl))) (Or.inr (hw _ (List.mem_of_getElem? (i := 59) rfl))) (by decide) (t := .boolean) (t' := (.object "com/example/mergewell/mergewell/core/Feature$Kind")) (by decide) (by decide))))
  obtain ⟨T19, h19, X19, e19, W19, st19⟩ := putFN X16 hx hZ hown (hw _ (List.mem_of_getElem? (i := 60) rfl)) Via.refl e16 f_18 f_17 (Or.inr ⟨(hw _ (List.mem_of_getElem? (i := 61) rfl)), rfl, hnm⟩) (hw _ (List.mem_of_getElem? (i := 31) rfl)) (ty := .boolean) (v' := (.int (nar .boolean p4))) (by decide) rfl (fits_nar_bool _) (g := (mkF m 30 #[.val (.ref a1), .val (.ref a2), .val (.ref a3), .val (.int p4), .val (.int p5), .val .null] [(.int p4), (.ref a1)])) rfl rfl (hb hby d8_30)
  refine Go.st st19 ?_
  have Fw19 : Fld Z h19 a1 "com/example/mergewell/mergewell/core/Feature" "many" "Z" (.int (nar .boolean p4)) := Fld.same W19 f_18
  have K19 : Keep h0 h19 [a1] := K16.wr W19 (Or.inl (List.mem_of_getElem? (i := 0) rfl))
  have N19 := Fr.snoc X19 N16 g_a1
  show Go p e below _ (T19.setTop (mkF m 33 #[.val (.ref a1), .val (.ref a2), .val (.ref a3), .val (.int p4), .val (.int p5), .val .null] []))
  refine Go.st (fun _ kk => XS.aloadN X19.here hx rfl (hb hby d8_33) rfl rfl  kk) ?_
  show Go p e below _ (T19.setTop (mkF m 34 #[.val (.ref a1), .val (.ref a2), .val (.ref a3), .val (.int p4), .val (.int p5), .val .null] [(.ref a1)]))
  refine Go.st (fun _ kk => XS.iload X19.here hx rfl (hb hby d8_34) rfl  kk) ?_
  show Go p e below _ (T19.setTop (mkF m 36 #[.val (.ref a1), .val (.ref a2), .val (.ref a3), .val (.int p4), .val (.int p5), .val .null] [(.int p5), (.ref a1)]))
  have f_20 := (Exa.wr W19 f_17)
  have f_21 := (Fld.other W19 (Fld.other W16 (Fld.other W13 (Fld.ext E9 (Fld.ext E7 F_ordered_a1)) (Or.inr (slot_ne (Or.inr (hw _ (List.mem_of_getElem? (i := 63) rfl))) (Or.inr (hw _ (List.mem_of_getElem? (i := 57) rfl))) (by decide) (t := .boolean) (t' := (.object "java/lang/String")) (by decide) (by decide)))) (Or.inr (slot_ne (Or.inr (hw _ (List.mem_of_getElem? (i := 63) rfl))) (Or.inr (hw _ (List.mem_of_getElem? (i := 59) rfl))) (by decide) (t := .boolean) (t' := (.object "com/example/mergewell/mergewell/core/Feature$Kind")) (by decide) (by decide)))) (Or.inr (slot_ne (Or.inr (hw _ (List.mem_of_getElem? (i := 63) rfl))) (Or.inr (hw _ (List.mem_of_getElem? (i := 61) rfl))) (by decide) (t := .boolean) (t' := .boolean) (by decide) (by decide))))
  obtain ⟨T22, h22, X22, e22, W22, st22⟩ := putFN X19 hx hZ hown (hw _ (List.mem_of_getElem? (i := 62) rfl)) Via.refl e19 f_21 f_20 (Or.inr ⟨(hw _ (List.mem_of_getElem? (i := 63) rfl)), rfl, hnm⟩) (hw _ (List.mem_of_getElem? (i := 31) rfl)) (ty := .boolean) (v' := (.int (nar .boolean p5))) (by decide) rfl (fits_nar_bool _) (g := (mkF m 36 #[.val (.ref a1), .val (.ref a2), .val (.ref a3), .val (.int p4), .val (.int p5), .val .null] [(.int p5), (.ref a1)])) rfl rfl (hb hby d8_36)
  refine Go.st st22 ?_
  have Fw22 : Fld Z h22 a1 "com/example/mergewell/mergewell/core/Feature" "ordered" "Z" (.int (nar .boolean p5)) := Fld.same W22 f_21
  have K22 : Keep h0 h22 [a1] := K19.wr W22 (Or.inl (List.mem_of_getElem? (i := 0) rfl))
  have N22 := Fr.snoc X22 N19 g_a1
  show Go p e below _ (T22.setTop (mkF m 39 #[.val (.ref a1), .val (.ref a2), .val (.ref a3), .val (.int p4), .val (.int p5), .val .null] []))
  refine Go.st (fun _ kk => XS.aloadN X22.here hx rfl (hb hby d8_39) rfl rfl  kk) ?_
  show Go p e below _ (T22.setTop (mkF m 40 #[.val (.ref a1), .val (.ref a2), .val (.ref a3), .val (.int p4), .val (.int p5), .val .null] [(.ref a1)]))
  refine Go.st (fun _ kk => XS.aload X22.here hx rfl (hb hby d8_40) rfl rfl  kk) ?_
  show Go p e below _ (T22.setTop (mkF m 42 #[.val (.ref a1), .val (.ref a2), .val (.ref a3), .val (.int p4), .val (.int p5), .val .null] [.null, (.ref a1)]))
  have f_23 := (Exa.wr W22 f_20)
  have f_24 := (Fld.other W22 (Fld.other W19 (Fld.other W16 (Fld.other W13 (Fld.ext E9 (Fld.ext E7 F_singleOpposite_a1)) (Or.inr (slot_ne (Or.inr (hw _ (List.mem_of_getElem? (i := 65) rfl))) (Or.inr (hw _ (List.mem_of_getElem? (i := 57) rfl))) (by decide) (t := (.object "java/lang/String")) (t' := (.object "java/lang/String")) (by decide) (by decide)))) (Or.inr (slot_ne (Or.inr (hw _ (List.mem_of_getElem? (i := 65) rfl))) (Or.inr (hw _ (List.mem_of_getElem? (i := 59) rfl))) (by decide) (t := (.object "java/lang/String")) (t' := (.object "com/example/mergewell/mergewell/core/Feature$Kind")) (by decide) (by decide)))) (Or.inr (slot_ne (Or.inr (hw _ (List.mem_of_getElem? (i := 65) rfl))) (Or.inr (hw _ (List.mem_of_getElem? (i := 61) rfl))) (by decide) (t := (.object "java/lang/String")) (t' := .boolean) (by decide) (by decide)))) (Or.inr (slot_ne (Or.inr (hw _ (List.mem_of_getElem? (i := 65) rfl))) (Or.inr (hw _ (List.mem_of_getElem? (i := 63) rfl))) (by decide) (t := (.object "java/lang/String")) (t' := .boolean) (by decide) (by decide))))
  obtain ⟨T25, h25, X25, e25, W25, st25⟩ := putF X22 hx hZ hown (host := "") (Or.inl (hw _ (List.mem_of_getElem? (i := 64) rfl))) Via.refl e22 f_24 f_23 (Or.inr ⟨(hw _ (List.mem_of_getElem? (i := 65) rfl)), rfl, hnm⟩) (hw _ (List.mem_of_getElem? (i := 31) rfl)) (ty := (.object "java/lang/String")) (by decide) rfl rfl (g := (mkF m 42 #[.val (.ref a1), .val (.ref a2), .val (.ref a3), .val (.int p4), .val (.int p5), .val .null] [.null, (.ref a1)])) rfl rfl (hb hby d8_42)
  refine Go.st st25 ?_
  have Fw25 : Fld Z h25 a1 "com/example/mergewell/mergewell/core/Feature" "singleOpposite" "Ljava/lang/String;" .null := Fld.same W25 f_24
  have K25 : Keep h0 h25 [a1] := K22.wr W25 (Or.inl (List.mem_of_getElem? (i := 0) rfl))
  have N25 := Fr.snoc X25 N22 g_a1
  show Go p e below _ (T25.setTop (mkF m 45 #[.val (.ref a1), .val (.ref a2), .val (.ref a3), .val (.int p4), .val (.int p5), .val .null] []))
  have hk := (Nat.le_trans (Nat.le_trans (Nat.le_trans (Nat.le_trans (Nat.le_trans hk (Nat.le_of_eq (Wr.size W13).symm)) (Nat.le_of_eq (Wr.size W16).symm)) (Nat.le_of_eq (Wr.size W19).symm)) (Nat.le_of_eq (Wr.size W22).symm)) (Nat.le_of_eq (Wr.size W25).symm))
  have f_26 := (Exa.wr W25 f_23)
  exact Go.retW (Q := Qm8x_o Z a1 a2 a3 p4 p5 u_name_a1 u_kind_a1 u_many_a1 u_ordered_a1 u_singleOpposite_a1 h0 n0) hS (hk) X25 (v := none) (fun _ => rfl) Bd.notSynchronized (fun fs hr => X25.returnOut hx Bd.returns (hb hby d8_45) hr) e25 ⟨rfl, N25, K25, f_26⟩ (by decide) (by decide)
def Qm7_o (Z : State) (a1 : Addr) (a2 : Addr) (a3 : Addr) (p4 : Int32) (p5 : Int32) (u_name_a1 : Value) (u_kind_a1 : Value) (u_many_a1 : Value) (u_ordered_a1 : Value) (u_singleOpposite_a1 : Value) (h0 : Heap) (n0 : Nat) (v : Option Value) (h : Heap) (L : List Loc) : Prop := v = none ∧ Fr n0 L ∧ Keep h0 h [a1] ∧ Exa Z h a1 "com/example/mergewell/mergewell/core/Feature"
set_option maxRecDepth 65536 in
set_option maxHeartbeats 40000000 in
theorem rm7_o (l : Launch) (Z : State) (a0 : Array Value) (hw : ∀ d ∈ tables_1, d.before a0 Z = true) (ws : List Jvm.Cond) (a1 : Addr) (a2 : Addr) (a3 : Addr) (p4 : Int32) (p5 : Int32) (u_name_a1 : Value) (u_kind_a1 : Value) (u_many_a1 : Value) (u_ordered_a1 : Value) (u_singleOpposite_a1 : Value) (h0 : Heap) (n0 : Nat) (Z0 : n0 ≤ h0.size) (E_a1 : Exa Z h0 a1 "com/example/mergewell/mergewell/core/Feature") (F_name_a1 : Fld Z h0 a1 "com/example/mergewell/mergewell/core/Feature" "name" "Ljava/lang/String;" u_name_a1) (g_a1 : n0 ≤ a1) (F_kind_a1 : Fld Z h0 a1 "com/example/mergewell/mergewell/core/Feature" "kind" "Lcom/example/mergewell/mergewell/core/Feature$Kind;" u_kind_a1) (F_many_a1 : Fld Z h0 a1 "com/example/mergewell/mergewell/core/Feature" "many" "Z" u_many_a1) (F_ordered_a1 : Fld Z h0 a1 "com/example/mergewell/mergewell/core/Feature" "ordered" "Z" u_ordered_a1) (F_singleOpposite_a1 : Fld Z h0 a1 "com/example/mergewell/mergewell/core/Feature" "singleOpposite" "Ljava/lang/String;" u_singleOpposite_a1) :
    MetFree l (⟨"com/example/mergewell/mergewell/core/Feature", "<init>", "(Ljava/lang/String;Lcom/example/mergewell/mergewell/core/Feature$Kind;ZZ)V"⟩ : MethodName) (head1 (Jvm.Cond.code (⟨"com/example/mergewell/mergewell/core/Feature", "<init>", "(Ljava/lang/String;Lcom/example/mergewell/mergewell/core/Feature$Kind;ZZ)V"⟩ : MethodName) prog_6_method_2_code 5 none :: ws) ({ frames := 3, cells := 4, slots := 40, locals := 41 } : Room)) (fun a U => a = #[(.ref a1), (.ref a2), (.ref a3), (.int p4), (.int p5)] ∧ Z.Warmed39 U.vm ∧ U.heap = h0) (fun _ _ _ _ _ => True) (fun _ U o U' => ∃ v L, o = .returned v ∧ Qm7_o Z a1 a2 a3 p4 p5 u_name_a1 u_kind_a1 u_many_a1 u_ordered_a1 u_singleOpposite_a1 h0 n0 v U'.heap L ∧ ReturnedEndW U o U' L ({ frames := 3, cells := 4, slots := 40, locals := 41 } : Room).cells ({ frames := 3, cells := 4, slots := 40, locals := 41 } : Room).slots) := by
  refine MetFree.of_bodySF (plainFor_of_name pn_7) hisR ?_
  intro p e s m args below meth c s₁ Bd hml0 hP hK
  obtain ⟨rfl, hZ, hh⟩ := hP
  have hx := Bd.exec
  have hby := Bd.bytes
  have hml : c.maxLocals = 5 := hml0
  have hown : s.vm.findClass "com/example/mergewell/mergewell/core/Feature" = some m.cls := findClass_of_methodNamed Bd.named
  have hnm := (name_of_methodNamed Bd.named Bd.method).1
  have X0 : Stand p l e ({ frames := 3, cells := 4, slots := 40, locals := 41 } : Room) (s.setVm s.vm) m #[(.ref a1), (.ref a2), (.ref a3), (.int p4), (.int p5)] below meth c s₁ [] 0 0 := Stand.of_body Bd
  have hS : s.Since s.vm 0 := State.WarmedH.since (State.WarmedH.refl s) 0
  have hk : 0 ≤ h0.size := Nat.zero_le _
  have own_wS0 : ∀ a ∈ Bundle.stringAtoms, a.before a0 Z = true := own_wS hw
  have e0 : s₁.heap = h0 := by rw [← hh, Bd.state]; rfl
  have N0 := Fr.nil n0
  refine Go.en (ef_7 m a1 a2 a3 p4 p5) ?_
  show Go p e below _ (s₁.setTop (mkF m 0 #[.val (.ref a1), .val (.ref a2), .val (.ref a3), .val (.int p4), .val (.int p5)] []))
  refine Go.st (fun _ kk => XS.aloadN X0.here hx rfl (hb hby d7_0) rfl rfl  kk) ?_
  show Go p e below _ (s₁.setTop (mkF m 1 #[.val (.ref a1), .val (.ref a2), .val (.ref a3), .val (.int p4), .val (.int p5)] [(.ref a1)]))
  refine Go.st (fun _ kk => XS.aloadN X0.here hx rfl (hb hby d7_1) rfl rfl  kk) ?_
  show Go p e below _ (s₁.setTop (mkF m 2 #[.val (.ref a1), .val (.ref a2), .val (.ref a3), .val (.int p4), .val (.int p5)] [(.ref a2), (.ref a1)]))
  refine Go.st (fun _ kk => XS.aloadN X0.here hx rfl (hb hby d7_2) rfl rfl  kk) ?_
  show Go p e below _ (s₁.setTop (mkF m 3 #[.val (.ref a1), .val (.ref a2), .val (.ref a3), .val (.int p4), .val (.int p5)] [(.ref a3), (.ref a2), (.ref a1)]))
  refine Go.st (fun _ kk => XS.iloadN X0.here hx rfl (hb hby d7_3) rfl  kk) ?_
  show Go p e below _ (s₁.setTop (mkF m 4 #[.val (.ref a1), .val (.ref a2), .val (.ref a3), .val (.int p4), .val (.int p5)] [(.int p4), (.ref a3), (.ref a2), (.ref a1)]))
  refine Go.st (fun _ kk => XS.iload X0.here hx rfl (hb hby d7_4) rfl  kk) ?_
  show Go p e below _ (s₁.setTop (mkF m 6 #[.val (.ref a1), .val (.ref a2), .val (.ref a3), .val (.int p4), .val (.int p5)] [(.int p5), (.int p4), (.ref a3), (.ref a2), (.ref a1)]))
  refine Go.st (fun _ kk => XS.aconstNull X0.here hx rfl (hb hby d7_6) kk) ?_
  show Go p e below _ (s₁.setTop (mkF m 7 #[.val (.ref a1), .val (.ref a2), .val (.ref a3), .val (.int p4), .val (.int p5)] [.null, (.int p5), (.int p4), (.ref a3), (.ref a2), (.ref a1)]))
  obtain ⟨_, _, ⟨T6, L6, k6, n6⟩, -, X6, hS6, hG6, ⟨Lc6, hQ6, l6, y6, z6⟩, st6⟩ := X0.specialBackS hx (y := (⟨"com/example/mergewell/mergewell/core/Feature", "<init>", "(Ljava/lang/String;Lcom/example/mergewell/mergewell/core/Feature$Kind;ZZLjava/lang/String;)V"⟩ : MethodName)) rfl hown (mvT hZ (hw _ (List.mem_of_getElem? (i := 39) rfl))) (mvT hZ (hw _ (List.mem_of_getElem? (i := 40) rfl))) (mvT hZ (hw _ (List.mem_of_getElem? (i := 41) rfl))) (by decide) (backOfS (W := 0) (rm8x_o l Z a0 hw [] a1 a2 a3 p4 p5 u_name_a1 u_kind_a1 u_many_a1 u_ordered_a1 u_singleOpposite_a1 h0 n0 Z0 E_a1 F_name_a1 g_a1 F_kind_a1 F_many_a1 F_ordered_a1 F_singleOpposite_a1) hZ (hw _ (List.mem_of_getElem? (i := 41) rfl)) (hw _ (List.mem_of_getElem? (i := 32) rfl)) (by decide) (by decide)) (g := (mkF m 7 #[.val (.ref a1), .val (.ref a2), .val (.ref a3), .val (.int p4), .val (.int p5)] [.null, (.int p5), (.int p4), (.ref a3), (.ref a2), (.ref a1)])) rfl (by rw [hml]; rfl) (Steps.refl _) (a := a1) (argsL := [(.ref a2), (.ref a3), (.int p4), (.int p5), .null]) (rest := []) (lenOf pd_9 rfl) rfl (by show 2 * 0 + _ ≤ _; exact Nat.le_of_eq rfl) (hb hby d7_7) (fun _ _ => ⟨rfl, e0, (by decide : 0 + 4 ≤ _), (by decide : 0 + 40 ≤ _)⟩)
  dsimp only [Pt.U, Pt.locs, Pt.cells, Pt.slots] at X6 l6 y6 z6 st6 hQ6 hS6 hG6
  subst l6 y6 z6
  obtain ⟨X6, hS, hZ, hown⟩ := rebS hS (by rw [e0]; exact hk) X6 hS6 hG6 hZ hown
  have hk := Nat.le_refl T6.heap.size
  obtain ⟨rfl, N6q, Kc6, P6_0⟩ := hQ6
  have K6 : Keep h0 T6.heap [a1] := (Keep.refl h0 [a1]).trans Kc6 (allS (Or.inl (List.mem_of_getElem? (i := 0) rfl)) all0)
  have N6 := Fr.app N0 N6q
  refine Go.tr st6 ?_
  show Go p e below _ (T6.setTop (mkF m 10 #[.val (.ref a1), .val (.ref a2), .val (.ref a3), .val (.int p4), .val (.int p5)] []))
  exact Go.retW (Q := Qm7_o Z a1 a2 a3 p4 p5 u_name_a1 u_kind_a1 u_many_a1 u_ordered_a1 u_singleOpposite_a1 h0 n0) hS (hk) X6 (v := none) (fun _ => rfl) Bd.notSynchronized (fun fs hr => X6.returnOut hx Bd.returns (hb hby d7_10) hr) rfl ⟨rfl, N6, K6, P6_0⟩ (by decide) (by decide)
def Qm6_o (Z : State) (a1 : Addr) (a2 : Addr) (a3 : Addr) (p4 : Int32) (u_name_a1 : Value) (u_kind_a1 : Value) (u_many_a1 : Value) (u_ordered_a1 : Value) (u_singleOpposite_a1 : Value) (h0 : Heap) (n0 : Nat) (v : Option Value) (h : Heap) (L : List Loc) : Prop := v = none ∧ Fr n0 L ∧ Keep h0 h [a1] ∧ Exa Z h a1 "com/example/mergewell/mergewell/core/Feature"
set_option maxRecDepth 65536 in
set_option maxHeartbeats 40000000 in
theorem rm6_o (l : Launch) (Z : State) (a0 : Array Value) (hw : ∀ d ∈ tables_1, d.before a0 Z = true) (ws : List Jvm.Cond) (a1 : Addr) (a2 : Addr) (a3 : Addr) (p4 : Int32) (u_name_a1 : Value) (u_kind_a1 : Value) (u_many_a1 : Value) (u_ordered_a1 : Value) (u_singleOpposite_a1 : Value) (h0 : Heap) (n0 : Nat) (Z0 : n0 ≤ h0.size) (E_a1 : Exa Z h0 a1 "com/example/mergewell/mergewell/core/Feature") (F_name_a1 : Fld Z h0 a1 "com/example/mergewell/mergewell/core/Feature" "name" "Ljava/lang/String;" u_name_a1) (g_a1 : n0 ≤ a1) (F_kind_a1 : Fld Z h0 a1 "com/example/mergewell/mergewell/core/Feature" "kind" "Lcom/example/mergewell/mergewell/core/Feature$Kind;" u_kind_a1) (F_many_a1 : Fld Z h0 a1 "com/example/mergewell/mergewell/core/Feature" "many" "Z" u_many_a1) (F_ordered_a1 : Fld Z h0 a1 "com/example/mergewell/mergewell/core/Feature" "ordered" "Z" u_ordered_a1) (F_singleOpposite_a1 : Fld Z h0 a1 "com/example/mergewell/mergewell/core/Feature" "singleOpposite" "Ljava/lang/String;" u_singleOpposite_a1) :
    MetFree l (⟨"com/example/mergewell/mergewell/core/Feature", "<init>", "(Ljava/lang/String;Lcom/example/mergewell/mergewell/core/Feature$Kind;Z)V"⟩ : MethodName) (head1 (Jvm.Cond.code (⟨"com/example/mergewell/mergewell/core/Feature", "<init>", "(Ljava/lang/String;Lcom/example/mergewell/mergewell/core/Feature$Kind;Z)V"⟩ : MethodName) prog_6_method_3_code 4 none :: ws) ({ frames := 4, cells := 4, slots := 40, locals := 57 } : Room)) (fun a U => a = #[(.ref a1), (.ref a2), (.ref a3), (.int p4)] ∧ Z.Warmed39 U.vm ∧ U.heap = h0) (fun _ _ _ _ _ => True) (fun _ U o U' => ∃ v L, o = .returned v ∧ Qm6_o Z a1 a2 a3 p4 u_name_a1 u_kind_a1 u_many_a1 u_ordered_a1 u_singleOpposite_a1 h0 n0 v U'.heap L ∧ ReturnedEndW U o U' L ({ frames := 4, cells := 4, slots := 40, locals := 57 } : Room).cells ({ frames := 4, cells := 4, slots := 40, locals := 57 } : Room).slots) := by
  refine MetFree.of_bodySF (plainFor_of_name pn_6) hisR ?_
  intro p e s m args below meth c s₁ Bd hml0 hP hK
  obtain ⟨rfl, hZ, hh⟩ := hP
  have hx := Bd.exec
  have hby := Bd.bytes
  have hml : c.maxLocals = 4 := hml0
  have hown : s.vm.findClass "com/example/mergewell/mergewell/core/Feature" = some m.cls := findClass_of_methodNamed Bd.named
  have hnm := (name_of_methodNamed Bd.named Bd.method).1
  have X0 : Stand p l e ({ frames := 4, cells := 4, slots := 40, locals := 57 } : Room) (s.setVm s.vm) m #[(.ref a1), (.ref a2), (.ref a3), (.int p4)] below meth c s₁ [] 0 0 := Stand.of_body Bd
  have hS : s.Since s.vm 0 := State.WarmedH.since (State.WarmedH.refl s) 0
  have hk : 0 ≤ h0.size := Nat.zero_le _
  have own_wS0 : ∀ a ∈ Bundle.stringAtoms, a.before a0 Z = true := own_wS hw
  have e0 : s₁.heap = h0 := by rw [← hh, Bd.state]; rfl
  have N0 := Fr.nil n0
  refine Go.en (ef_6 m a1 a2 a3 p4) ?_
  show Go p e below _ (s₁.setTop (mkF m 0 #[.val (.ref a1), .val (.ref a2), .val (.ref a3), .val (.int p4)] []))
  refine Go.st (fun _ kk => XS.aloadN X0.here hx rfl (hb hby d6_0) rfl rfl  kk) ?_
  show Go p e below _ (s₁.setTop (mkF m 1 #[.val (.ref a1), .val (.ref a2), .val (.ref a3), .val (.int p4)] [(.ref a1)]))
  refine Go.st (fun _ kk => XS.aloadN X0.here hx rfl (hb hby d6_1) rfl rfl  kk) ?_
  show Go p e below _ (s₁.setTop (mkF m 2 #[.val (.ref a1), .val (.ref a2), .val (.ref a3), .val (.int p4)] [(.ref a2), (.ref a1)]))
  refine Go.st (fun _ kk => XS.aloadN X0.here hx rfl (hb hby d6_2) rfl rfl  kk) ?_
  show Go p e below _ (s₁.setTop (mkF m 3 #[.val (.ref a1), .val (.ref a2), .val (.ref a3), .val (.int p4)] [(.ref a3), (.ref a2), (.ref a1)]))
  refine Go.st (fun _ kk => XS.iloadN X0.here hx rfl (hb hby d6_3) rfl  kk) ?_
  show Go p e below _ (s₁.setTop (mkF m 4 #[.val (.ref a1), .val (.ref a2), .val (.ref a3), .val (.int p4)] [(.int p4), (.ref a3), (.ref a2), (.ref a1)]))
  refine Go.st (fun _ kk => XS.iconst X0.here hx rfl (hb hby d6_4) kk) ?_
  show Go p e below _ (s₁.setTop (mkF m 5 #[.val (.ref a1), .val (.ref a2), .val (.ref a3), .val (.int p4)] [(.int (1 : Int32)), (.int p4), (.ref a3), (.ref a2), (.ref a1)]))
  obtain ⟨_, _, ⟨T5, L5, k5, n5⟩, -, X5, hS5, hG5, ⟨Lc5, hQ5, l5, y5, z5⟩, st5⟩ := X0.specialBackS hx (y := (⟨"com/example/mergewell/mergewell/core/Feature", "<init>", "(Ljava/lang/String;Lcom/example/mergewell/mergewell/core/Feature$Kind;ZZ)V"⟩ : MethodName)) rfl hown (mvT hZ (hw _ (List.mem_of_getElem? (i := 36) rfl))) (mvT hZ (hw _ (List.mem_of_getElem? (i := 37) rfl))) (mvT hZ (hw _ (List.mem_of_getElem? (i := 38) rfl))) (by decide) (backOfS (W := 0) (rm7_o l Z a0 hw [] a1 a2 a3 p4 (1 : Int32) u_name_a1 u_kind_a1 u_many_a1 u_ordered_a1 u_singleOpposite_a1 h0 n0 Z0 E_a1 F_name_a1 g_a1 F_kind_a1 F_many_a1 F_ordered_a1 F_singleOpposite_a1) hZ (hw _ (List.mem_of_getElem? (i := 38) rfl)) (hw _ (List.mem_of_getElem? (i := 32) rfl)) (by decide) (by decide)) (g := (mkF m 5 #[.val (.ref a1), .val (.ref a2), .val (.ref a3), .val (.int p4)] [(.int (1 : Int32)), (.int p4), (.ref a3), (.ref a2), (.ref a1)])) rfl (by rw [hml]; rfl) (Steps.refl _) (a := a1) (argsL := [(.ref a2), (.ref a3), (.int p4), (.int (1 : Int32))]) (rest := []) (lenOf pd_10 rfl) rfl (by show 2 * 0 + _ ≤ _; exact Nat.le_of_eq rfl) (hb hby d6_5) (fun _ _ => ⟨rfl, e0, (by decide : 0 + 4 ≤ _), (by decide : 0 + 40 ≤ _)⟩)
  dsimp only [Pt.U, Pt.locs, Pt.cells, Pt.slots] at X5 l5 y5 z5 st5 hQ5 hS5 hG5
  subst l5 y5 z5
  obtain ⟨X5, hS, hZ, hown⟩ := rebS hS (by rw [e0]; exact hk) X5 hS5 hG5 hZ hown
  have hk := Nat.le_refl T5.heap.size
  obtain ⟨rfl, N5q, Kc5, P5_0⟩ := hQ5
  have K5 : Keep h0 T5.heap [a1] := (Keep.refl h0 [a1]).trans Kc5 (allS (Or.inl (List.mem_of_getElem? (i := 0) rfl)) all0)
  have N5 := Fr.app N0 N5q
  refine Go.tr st5 ?_
  show Go p e below _ (T5.setTop (mkF m 8 #[.val (.ref a1), .val (.ref a2), .val (.ref a3), .val (.int p4)] []))
  exact Go.retW (Q := Qm6_o Z a1 a2 a3 p4 u_name_a1 u_kind_a1 u_many_a1 u_ordered_a1 u_singleOpposite_a1 h0 n0) hS (hk) X5 (v := none) (fun _ => rfl) Bd.notSynchronized (fun fs hr => X5.returnOut hx Bd.returns (hb hby d6_8) hr) rfl ⟨rfl, N5, K5, P5_0⟩ (by decide) (by decide)
def Qm11aa_o (Z : State) (a1 : Addr) (u_owner_a1 : Value) (u_feature_a1 : Value) (h0 : Heap) (n0 : Nat) (v : Option Value) (h : Heap) (L : List Loc) : Prop := v = none ∧ Fr n0 L ∧ Keep h0 h [a1] ∧ Exa Z h a1 "com/example/mergewell/mergewell/core/Slot" ∧ Fld Z h a1 "com/example/mergewell/mergewell/core/Slot" "owner" "Ljava/lang/String;" .null
set_option maxRecDepth 65536 in
set_option maxHeartbeats 40000000 in
theorem rm11aa_o (l : Launch) (Z : State) (a0 : Array Value) (hw : ∀ d ∈ tables_1, d.before a0 Z = true) (ws : List Jvm.Cond) (a1 : Addr) (u_owner_a1 : Value) (u_feature_a1 : Value) (h0 : Heap) (n0 : Nat) (Z0 : n0 ≤ h0.size) (E_a1 : Exa Z h0 a1 "com/example/mergewell/mergewell/core/Slot") (F_owner_a1 : Fld Z h0 a1 "com/example/mergewell/mergewell/core/Slot" "owner" "Ljava/lang/String;" u_owner_a1) (g_a1 : n0 ≤ a1) (F_feature_a1 : Fld Z h0 a1 "com/example/mergewell/mergewell/core/Slot" "feature" "Lcom/example/mergewell/mergewell/core/Feature;" u_feature_a1) :
    MetFree l (⟨"com/example/mergewell/mergewell/core/Slot", "<init>", "(Ljava/lang/String;Lcom/example/mergewell/mergewell/core/Feature;)V"⟩ : MethodName) (head1 (Jvm.Cond.code (⟨"com/example/mergewell/mergewell/core/Slot", "<init>", "(Ljava/lang/String;Lcom/example/mergewell/mergewell/core/Feature;)V"⟩ : MethodName) prog_14_method_1_code 3 none :: ws) ({ frames := 2, cells := 0, slots := 0, locals := 24 } : Room)) (fun a U => a = #[(.ref a1), .null, .null] ∧ Z.Warmed39 U.vm ∧ U.heap = h0) (fun _ _ _ _ _ => True) (fun _ U o U' => ∃ v L, o = .returned v ∧ Qm11aa_o Z a1 u_owner_a1 u_feature_a1 h0 n0 v U'.heap L ∧ FrameEnd U o U' L ({ frames := 2, cells := 0, slots := 0, locals := 24 } : Room).cells ({ frames := 2, cells := 0, slots := 0, locals := 24 } : Room).slots) := by
  refine MetFree.of_bodySF (plainFor_of_name pn_11) hisR ?_
  intro p e s m args below meth c s₁ Bd hml0 hP hK
  obtain ⟨rfl, hZ, hh⟩ := hP
  have hx := Bd.exec
  have hby := Bd.bytes
  have hml : c.maxLocals = 3 := hml0
  have hown : s.vm.findClass "com/example/mergewell/mergewell/core/Slot" = some m.cls := findClass_of_methodNamed Bd.named
  have hnm := (name_of_methodNamed Bd.named Bd.method).1
  have X0 : Stand p l e ({ frames := 2, cells := 0, slots := 0, locals := 24 } : Room) s m #[(.ref a1), .null, .null] below meth c s₁ [] 0 0 := Stand.of_body Bd
  have e0 : s₁.heap = h0 := by rw [← hh, Bd.state]; rfl
  have N0 := Fr.nil n0
  refine Go.en (ef_11aa m a1) ?_
  show Go p e below _ (s₁.setTop (mkF m 0 #[.val (.ref a1), .val .null, .val .null] []))
  refine Go.st (fun _ kk => XS.aloadN X0.here hx rfl (hb hby d11_0) rfl rfl  kk) ?_
  show Go p e below _ (s₁.setTop (mkF m 1 #[.val (.ref a1), .val .null, .val .null] [(.ref a1)]))
  obtain ⟨_, _, ⟨T2, L2, k2, n2⟩, -, X2, ⟨Lc2, hQ2, l2, y2, z2⟩, st2⟩ := X0.specialBack hx (y := (⟨"java/lang/Record", "<init>", "()V"⟩ : MethodName)) rfl hown (mvT hZ (hw _ (List.mem_of_getElem? (i := 72) rfl))) (mvT hZ (hw _ (List.mem_of_getElem? (i := 43) rfl))) (mvT hZ (hw _ (List.mem_of_getElem? (i := 46) rfl))) (by decide) (backOf (W := 0) (rm9_o l Z a0 hw [] a1 h0 n0 Z0 ) hZ (hw _ (List.mem_of_getElem? (i := 46) rfl)) (hw _ (List.mem_of_getElem? (i := 45) rfl)) (by decide) (by decide)) (g := (mkF m 1 #[.val (.ref a1), .val .null, .val .null] [(.ref a1)])) rfl (by rw [hml]; rfl) (Steps.refl _) (a := a1) (argsL := []) (rest := []) (lenOf pd_7 rfl) rfl (by show 2 * 0 + _ ≤ _; exact Nat.le_of_eq rfl) (hb hby d11_1) (fun _ _ => ⟨rfl, e0, (by decide : 0 + 0 ≤ _), (by decide : 0 + 0 ≤ _)⟩)
  dsimp only [Pt.U, Pt.locs, Pt.cells, Pt.slots] at X2 l2 y2 z2 st2 hQ2
  subst l2 y2 z2
  obtain ⟨rfl, N2q, eq2⟩ := hQ2
  have N2 := Fr.app N0 N2q
  refine Go.tr st2 ?_
  show Go p e below _ (T2.setTop (mkF m 4 #[.val (.ref a1), .val .null, .val .null] []))
  refine Go.st (fun _ kk => XS.aloadN X2.here hx rfl (hb hby d11_4) rfl rfl  kk) ?_
  show Go p e below _ (T2.setTop (mkF m 5 #[.val (.ref a1), .val .null, .val .null] [(.ref a1)]))
  refine Go.st (fun _ kk => XS.aloadN X2.here hx rfl (hb hby d11_5) rfl rfl  kk) ?_
  show Go p e below _ (T2.setTop (mkF m 6 #[.val (.ref a1), .val .null, .val .null] [.null, (.ref a1)]))
  obtain ⟨T3, h3, X3, e3, W3, st3⟩ := putF X2 hx hZ hown (host := "") (Or.inl (hw _ (List.mem_of_getElem? (i := 73) rfl))) Via.refl eq2 F_owner_a1 E_a1 (Or.inr ⟨(hw _ (List.mem_of_getElem? (i := 74) rfl)), rfl, hnm⟩) (hw _ (List.mem_of_getElem? (i := 67) rfl)) (ty := (.object "java/lang/String")) (by decide) rfl rfl (g := (mkF m 6 #[.val (.ref a1), .val .null, .val .null] [.null, (.ref a1)])) rfl rfl (hb hby d11_6)
  refine Go.st st3 ?_
  have Fw3 : Fld Z h3 a1 "com/example/mergewell/mergewell/core/Slot" "owner" "Ljava/lang/String;" .null := Fld.same W3 F_owner_a1
  have K3 : Keep h0 h3 [a1] := (Keep.refl h0 [a1]).wr W3 (Or.inl (List.mem_of_getElem? (i := 0) rfl))
  have N3 := Fr.snoc X3 N2 g_a1
  show Go p e below _ (T3.setTop (mkF m 9 #[.val (.ref a1), .val .null, .val .null] []))
  refine Go.st (fun _ kk => XS.aloadN X3.here hx rfl (hb hby d11_9) rfl rfl  kk) ?_
  show Go p e below _ (T3.setTop (mkF m 10 #[.val (.ref a1), .val .null, .val .null] [(.ref a1)]))
  refine Go.st (fun _ kk => XS.aloadN X3.here hx rfl (hb hby d11_10) rfl rfl  kk) ?_
  show Go p e below _ (T3.setTop (mkF m 11 #[.val (.ref a1), .val .null, .val .null] [.null, (.ref a1)]))
  have f_4 := (Exa.wr W3 E_a1)
  have f_5 := (Fld.other W3 F_feature_a1 (Or.inr (slot_ne (Or.inr (hw _ (List.mem_of_getElem? (i := 76) rfl))) (Or.inr (hw _ (List.mem_of_getElem? (i := 74) rfl))) (by decide) (t := (.object "com/example/mergewell/mergewell/core/Feature")) (t' := (.object "java/lang/String")) (by decide) (by decide))))
  obtain ⟨T6, h6, X6, e6, W6, st6⟩ := putF X3 hx hZ hown (host := "") (Or.inl (hw _ (List.mem_of_getElem? (i := 75) rfl))) Via.refl e3 f_5 f_4 (Or.inr ⟨(hw _ (List.mem_of_getElem? (i := 76) rfl)), rfl, hnm⟩) (hw _ (List.mem_of_getElem? (i := 67) rfl)) (ty := (.object "com/example/mergewell/mergewell/core/Feature")) (by decide) rfl rfl (g := (mkF m 11 #[.val (.ref a1), .val .null, .val .null] [.null, (.ref a1)])) rfl rfl (hb hby d11_11)
  refine Go.st st6 ?_
  have Fw6 : Fld Z h6 a1 "com/example/mergewell/mergewell/core/Slot" "feature" "Lcom/example/mergewell/mergewell/core/Feature;" .null := Fld.same W6 f_5
  have K6 : Keep h0 h6 [a1] := K3.wr W6 (Or.inl (List.mem_of_getElem? (i := 0) rfl))
  have N6 := Fr.snoc X6 N3 g_a1
  show Go p e below _ (T6.setTop (mkF m 14 #[.val (.ref a1), .val .null, .val .null] []))
  have f_7 := (Exa.wr W6 f_4)
  have f_8 := (Fld.other W6 Fw3 (Or.inr (slot_ne (Or.inr (hw _ (List.mem_of_getElem? (i := 74) rfl))) (Or.inr (hw _ (List.mem_of_getElem? (i := 76) rfl))) (by decide) (t := (.object "java/lang/String")) (t' := (.object "com/example/mergewell/mergewell/core/Feature")) (by decide) (by decide))))
  exact Go.ret (Q := Qm11aa_o Z a1 u_owner_a1 u_feature_a1 h0 n0) X6 (v := none) (fun _ => rfl) Bd.notSynchronized (fun fs hr => X6.returnOut hx Bd.returns (hb hby d11_14) hr) e6 ⟨rfl, N6, K6, f_7, f_8⟩ (by decide) (by decide)
def Qm11ab_o (Z : State) (a1 : Addr) (a2 : Addr) (u_owner_a1 : Value) (u_feature_a1 : Value) (h0 : Heap) (n0 : Nat) (v : Option Value) (h : Heap) (L : List Loc) : Prop := v = none ∧ Fr n0 L ∧ Keep h0 h [a1] ∧ Exa Z h a1 "com/example/mergewell/mergewell/core/Slot" ∧ Fld Z h a1 "com/example/mergewell/mergewell/core/Slot" "owner" "Ljava/lang/String;" .null
set_option maxRecDepth 65536 in
set_option maxHeartbeats 40000000 in
theorem rm11ab_o (l : Launch) (Z : State) (a0 : Array Value) (hw : ∀ d ∈ tables_1, d.before a0 Z = true) (ws : List Jvm.Cond) (a1 : Addr) (a2 : Addr) (u_owner_a1 : Value) (u_feature_a1 : Value) (h0 : Heap) (n0 : Nat) (Z0 : n0 ≤ h0.size) (E_a1 : Exa Z h0 a1 "com/example/mergewell/mergewell/core/Slot") (F_owner_a1 : Fld Z h0 a1 "com/example/mergewell/mergewell/core/Slot" "owner" "Ljava/lang/String;" u_owner_a1) (g_a1 : n0 ≤ a1) (F_feature_a1 : Fld Z h0 a1 "com/example/mergewell/mergewell/core/Slot" "feature" "Lcom/example/mergewell/mergewell/core/Feature;" u_feature_a1) :
    MetFree l (⟨"com/example/mergewell/mergewell/core/Slot", "<init>", "(Ljava/lang/String;Lcom/example/mergewell/mergewell/core/Feature;)V"⟩ : MethodName) (head1 (Jvm.Cond.code (⟨"com/example/mergewell/mergewell/core/Slot", "<init>", "(Ljava/lang/String;Lcom/example/mergewell/mergewell/core/Feature;)V"⟩ : MethodName) prog_14_method_1_code 3 none :: ws) ({ frames := 2, cells := 0, slots := 0, locals := 24 } : Room)) (fun a U => a = #[(.ref a1), .null, (.ref a2)] ∧ Z.Warmed39 U.vm ∧ U.heap = h0) (fun _ _ _ _ _ => True) (fun _ U o U' => ∃ v L, o = .returned v ∧ Qm11ab_o Z a1 a2 u_owner_a1 u_feature_a1 h0 n0 v U'.heap L ∧ FrameEnd U o U' L ({ frames := 2, cells := 0, slots := 0, locals := 24 } : Room).cells ({ frames := 2, cells := 0, slots := 0, locals := 24 } : Room).slots) := by
  refine MetFree.of_bodySF (plainFor_of_name pn_11) hisR ?_
  intro p e s m args below meth c s₁ Bd hml0 hP hK
  obtain ⟨rfl, hZ, hh⟩ := hP
  have hx := Bd.exec
  have hby := Bd.bytes
  have hml : c.maxLocals = 3 := hml0
  have hown : s.vm.findClass "com/example/mergewell/mergewell/core/Slot" = some m.cls := findClass_of_methodNamed Bd.named
  have hnm := (name_of_methodNamed Bd.named Bd.method).1
  have X0 : Stand p l e ({ frames := 2, cells := 0, slots := 0, locals := 24 } : Room) s m #[(.ref a1), .null, (.ref a2)] below meth c s₁ [] 0 0 := Stand.of_body Bd
  have e0 : s₁.heap = h0 := by rw [← hh, Bd.state]; rfl
  have N0 := Fr.nil n0
  refine Go.en (ef_11ab m a1 a2) ?_
  show Go p e below _ (s₁.setTop (mkF m 0 #[.val (.ref a1), .val .null, .val (.ref a2)] []))
  refine Go.st (fun _ kk => XS.aloadN X0.here hx rfl (hb hby d11_0) rfl rfl  kk) ?_
  show Go p e below _ (s₁.setTop (mkF m 1 #[.val (.ref a1), .val .null, .val (.ref a2)] [(.ref a1)]))
  obtain ⟨_, _, ⟨T3, L3, k3, n3⟩, -, X3, ⟨Lc3, hQ3, l3, y3, z3⟩, st3⟩ := X0.specialBack hx (y := (⟨"java/lang/Record", "<init>", "()V"⟩ : MethodName)) rfl hown (mvT hZ (hw _ (List.mem_of_getElem? (i := 72) rfl))) (mvT hZ (hw _ (List.mem_of_getElem? (i := 43) rfl))) (mvT hZ (hw _ (List.mem_of_getElem? (i := 46) rfl))) (by decide) (backOf (W := 0) (rm9_o l Z a0 hw [] a1 h0 n0 Z0 ) hZ (hw _ (List.mem_of_getElem? (i := 46) rfl)) (hw _ (List.mem_of_getElem? (i := 45) rfl)) (by decide) (by decide)) (g := (mkF m 1 #[.val (.ref a1), .val .null, .val (.ref a2)] [(.ref a1)])) rfl (by rw [hml]; rfl) (Steps.refl _) (a := a1) (argsL := []) (rest := []) (lenOf pd_7 rfl) rfl (by show 2 * 0 + _ ≤ _; exact Nat.le_of_eq rfl) (hb hby d11_1) (fun _ _ => ⟨rfl, e0, (by decide : 0 + 0 ≤ _), (by decide : 0 + 0 ≤ _)⟩)
  dsimp only [Pt.U, Pt.locs, Pt.cells, Pt.slots] at X3 l3 y3 z3 st3 hQ3
  subst l3 y3 z3
  obtain ⟨rfl, N3q, eq3⟩ := hQ3
  have N3 := Fr.app N0 N3q
  refine Go.tr st3 ?_
  show Go p e below _ (T3.setTop (mkF m 4 #[.val (.ref a1), .val .null, .val (.ref a2)] []))
  refine Go.st (fun _ kk => XS.aloadN X3.here hx rfl (hb hby d11_4) rfl rfl  kk) ?_
  show Go p e below _ (T3.setTop (mkF m 5 #[.val (.ref a1), .val .null, .val (.ref a2)] [(.ref a1)]))
  refine Go.st (fun _ kk => XS.aloadN X3.here hx rfl (hb hby d11_5) rfl rfl  kk) ?_
  show Go p e below _ (T3.setTop (mkF m 6 #[.val (.ref a1), .val .null, .val (.ref a2)] [.null, (.ref a1)]))
  obtain ⟨T4, h4, X4, e4, W4, st4⟩ := putF X3 hx hZ hown (host := "") (Or.inl (hw _ (List.mem_of_getElem? (i := 73) rfl))) Via.refl eq3 F_owner_a1 E_a1 (Or.inr ⟨(hw _ (List.mem_of_getElem? (i := 74) rfl)), rfl, hnm⟩) (hw _ (List.mem_of_getElem? (i := 67) rfl)) (ty := (.object "java/lang/String")) (by decide) rfl rfl (g := (mkF m 6 #[.val (.ref a1), .val .null, .val (.ref a2)] [.null, (.ref a1)])) rfl rfl (hb hby d11_6)
  refine Go.st st4 ?_
  have Fw4 : Fld Z h4 a1 "com/example/mergewell/mergewell/core/Slot" "owner" "Ljava/lang/String;" .null := Fld.same W4 F_owner_a1
  have K4 : Keep h0 h4 [a1] := (Keep.refl h0 [a1]).wr W4 (Or.inl (List.mem_of_getElem? (i := 0) rfl))
  have N4 := Fr.snoc X4 N3 g_a1
  show Go p e below _ (T4.setTop (mkF m 9 #[.val (.ref a1), .val .null, .val (.ref a2)] []))
  refine Go.st (fun _ kk => XS.aloadN X4.here hx rfl (hb hby d11_9) rfl rfl  kk) ?_
  show Go p e below _ (T4.setTop (mkF m 10 #[.val (.ref a1), .val .null, .val (.ref a2)] [(.ref a1)]))
  refine Go.st (fun _ kk => XS.aloadN X4.here hx rfl (hb hby d11_10) rfl rfl  kk) ?_
  show Go p e below _ (T4.setTop (mkF m 11 #[.val (.ref a1), .val .null, .val (.ref a2)] [(.ref a2), (.ref a1)]))
  have f_5 := (Exa.wr W4 E_a1)
  have f_6 := (Fld.other W4 F_feature_a1 (Or.inr (slot_ne (Or.inr (hw _ (List.mem_of_getElem? (i := 76) rfl))) (Or.inr (hw _ (List.mem_of_getElem? (i := 74) rfl))) (by decide) (t := (.object "com/example/mergewell/mergewell/core/Feature")) (t' := (.object "java/lang/String")) (by decide) (by decide))))
  obtain ⟨T7, h7, X7, e7, W7, st7⟩ := putF X4 hx hZ hown (host := "") (Or.inl (hw _ (List.mem_of_getElem? (i := 75) rfl))) Via.refl e4 f_6 f_5 (Or.inr ⟨(hw _ (List.mem_of_getElem? (i := 76) rfl)), rfl, hnm⟩) (hw _ (List.mem_of_getElem? (i := 67) rfl)) (ty := (.object "com/example/mergewell/mergewell/core/Feature")) (by decide) rfl rfl (g := (mkF m 11 #[.val (.ref a1), .val .null, .val (.ref a2)] [(.ref a2), (.ref a1)])) rfl rfl (hb hby d11_11)
  refine Go.st st7 ?_
  have Fw7 : Fld Z h7 a1 "com/example/mergewell/mergewell/core/Slot" "feature" "Lcom/example/mergewell/mergewell/core/Feature;" (.ref a2) := Fld.same W7 f_6
  have K7 : Keep h0 h7 [a1] := K4.wr W7 (Or.inl (List.mem_of_getElem? (i := 0) rfl))
  have N7 := Fr.snoc X7 N4 g_a1
  show Go p e below _ (T7.setTop (mkF m 14 #[.val (.ref a1), .val .null, .val (.ref a2)] []))
  have f_8 := (Exa.wr W7 f_5)
  have f_9 := (Fld.other W7 Fw4 (Or.inr (slot_ne (Or.inr (hw _ (List.mem_of_getElem? (i := 74) rfl))) (Or.inr (hw _ (List.mem_of_getElem? (i := 76) rfl))) (by decide) (t := (.object "java/lang/String")) (t' := (.object "com/example/mergewell/mergewell/core/Feature")) (by decide) (by decide))))
  exact Go.ret (Q := Qm11ab_o Z a1 a2 u_owner_a1 u_feature_a1 h0 n0) X7 (v := none) (fun _ => rfl) Bd.notSynchronized (fun fs hr => X7.returnOut hx Bd.returns (hb hby d11_14) hr) e7 ⟨rfl, N7, K7, f_8, f_9⟩ (by decide) (by decide)
def Qm11ba_o (Z : State) (a1 : Addr) (a2 : Addr) (u_owner_a1 : Value) (u_feature_a1 : Value) (h0 : Heap) (n0 : Nat) (v : Option Value) (h : Heap) (L : List Loc) : Prop := v = none ∧ Fr n0 L ∧ Keep h0 h [a1] ∧ Exa Z h a1 "com/example/mergewell/mergewell/core/Slot" ∧ Fld Z h a1 "com/example/mergewell/mergewell/core/Slot" "owner" "Ljava/lang/String;" (.ref a2)
set_option maxRecDepth 65536 in
set_option maxHeartbeats 40000000 in
theorem rm11ba_o (l : Launch) (Z : State) (a0 : Array Value) (hw : ∀ d ∈ tables_1, d.before a0 Z = true) (ws : List Jvm.Cond) (a1 : Addr) (a2 : Addr) (u_owner_a1 : Value) (u_feature_a1 : Value) (h0 : Heap) (n0 : Nat) (Z0 : n0 ≤ h0.size) (E_a1 : Exa Z h0 a1 "com/example/mergewell/mergewell/core/Slot") (F_owner_a1 : Fld Z h0 a1 "com/example/mergewell/mergewell/core/Slot" "owner" "Ljava/lang/String;" u_owner_a1) (g_a1 : n0 ≤ a1) (F_feature_a1 : Fld Z h0 a1 "com/example/mergewell/mergewell/core/Slot" "feature" "Lcom/example/mergewell/mergewell/core/Feature;" u_feature_a1) :
    MetFree l (⟨"com/example/mergewell/mergewell/core/Slot", "<init>", "(Ljava/lang/String;Lcom/example/mergewell/mergewell/core/Feature;)V"⟩ : MethodName) (head1 (Jvm.Cond.code (⟨"com/example/mergewell/mergewell/core/Slot", "<init>", "(Ljava/lang/String;Lcom/example/mergewell/mergewell/core/Feature;)V"⟩ : MethodName) prog_14_method_1_code 3 none :: ws) ({ frames := 2, cells := 0, slots := 0, locals := 24 } : Room)) (fun a U => a = #[(.ref a1), (.ref a2), .null] ∧ Z.Warmed39 U.vm ∧ U.heap = h0) (fun _ _ _ _ _ => True) (fun _ U o U' => ∃ v L, o = .returned v ∧ Qm11ba_o Z a1 a2 u_owner_a1 u_feature_a1 h0 n0 v U'.heap L ∧ FrameEnd U o U' L ({ frames := 2, cells := 0, slots := 0, locals := 24 } : Room).cells ({ frames := 2, cells := 0, slots := 0, locals := 24 } : Room).slots) := by
  refine MetFree.of_bodySF (plainFor_of_name pn_11) hisR ?_
  intro p e s m args below meth c s₁ Bd hml0 hP hK
  obtain ⟨rfl, hZ, hh⟩ := hP
  have hx := Bd.exec
  have hby := Bd.bytes
  have hml : c.maxLocals = 3 := hml0
  have hown : s.vm.findClass "com/example/mergewell/mergewell/core/Slot" = some m.cls := findClass_of_methodNamed Bd.named
  have hnm := (name_of_methodNamed Bd.named Bd.method).1
  have X0 : Stand p l e ({ frames := 2, cells := 0, slots := 0, locals := 24 } : Room) s m #[(.ref a1), (.ref a2), .null] below meth c s₁ [] 0 0 := Stand.of_body Bd
  have e0 : s₁.heap = h0 := by rw [← hh, Bd.state]; rfl
  have N0 := Fr.nil n0
  refine Go.en (ef_11ba m a1 a2) ?_
  show Go p e below _ (s₁.setTop (mkF m 0 #[.val (.ref a1), .val (.ref a2), .val .null] []))
  refine Go.st (fun _ kk => XS.aloadN X0.here hx rfl (hb hby d11_0) rfl rfl  kk) ?_
  show Go p e below _ (s₁.setTop (mkF m 1 #[.val (.ref a1), .val (.ref a2), .val .null] [(.ref a1)]))
  obtain ⟨_, _, ⟨T3, L3, k3, n3⟩, -, X3, ⟨Lc3, hQ3, l3, y3, z3⟩, st3⟩ := X0.specialBack hx (y := (⟨"java/lang/Record", "<init>", "()V"⟩ : MethodName)) rfl hown (mvT hZ (hw _ (List.mem_of_getElem? (i := 72) rfl))) (mvT hZ (hw _ (List.mem_of_getElem? (i := 43) rfl))) (mvT hZ (hw _ (List.mem_of_getElem? (i := 46) rfl))) (by decide) (backOf (W := 0) (rm9_o l Z a0 hw [] a1 h0 n0 Z0 ) hZ (hw _ (List.mem_of_getElem? (i := 46) rfl)) (hw _ (List.mem_of_getElem? (i := 45) rfl)) (by decide) (by decide)) (g := (mkF m 1 #[.val (.ref a1), .val (.ref a2), .val .null] [(.ref a1)])) rfl (by rw [hml]; rfl) (Steps.refl _) (a := a1) (argsL := []) (rest := []) (lenOf pd_7 rfl) rfl (by show 2 * 0 + _ ≤ _; exact Nat.le_of_eq rfl) (hb hby d11_1) (fun _ _ => ⟨rfl, e0, (by decide : 0 + 0 ≤ _), (by decide : 0 + 0 ≤ _)⟩)
  dsimp only [Pt.U, Pt.locs, Pt.cells, Pt.slots] at X3 l3 y3 z3 st3 hQ3
  subst l3 y3 z3
  obtain ⟨rfl, N3q, eq3⟩ := hQ3
  have N3 := Fr.app N0 N3q
  refine Go.tr st3 ?_
  show Go p e below _ (T3.setTop (mkF m 4 #[.val (.ref a1), .val (.ref a2), .val .null] []))
  refine Go.st (fun _ kk => XS.aloadN X3.here hx rfl (hb hby d11_4) rfl rfl  kk) ?_
  show Go p e below _ (T3.setTop (mkF m 5 #[.val (.ref a1), .val (.ref a2), .val .null] [(.ref a1)]))
  refine Go.st (fun _ kk => XS.aloadN X3.here hx rfl (hb hby d11_5) rfl rfl  kk) ?_
  show Go p e below _ (T3.setTop (mkF m 6 #[.val (.ref a1), .val (.ref a2), .val .null] [(.ref a2), (.ref a1)]))
  obtain ⟨T4, h4, X4, e4, W4, st4⟩ := putF X3 hx hZ hown (host := "") (Or.inl (hw _ (List.mem_of_getElem? (i := 73) rfl))) Via.refl eq3 F_owner_a1 E_a1 (Or.inr ⟨(hw _ (List.mem_of_getElem? (i := 74) rfl)), rfl, hnm⟩) (hw _ (List.mem_of_getElem? (i := 67) rfl)) (ty := (.object "java/lang/String")) (by decide) rfl rfl (g := (mkF m 6 #[.val (.ref a1), .val (.ref a2), .val .null] [(.ref a2), (.ref a1)])) rfl rfl (hb hby d11_6)
  refine Go.st st4 ?_
  have Fw4 : Fld Z h4 a1 "com/example/mergewell/mergewell/core/Slot" "owner" "Ljava/lang/String;" (.ref a2) := Fld.same W4 F_owner_a1
  have K4 : Keep h0 h4 [a1] := (Keep.refl h0 [a1]).wr W4 (Or.inl (List.mem_of_getElem? (i := 0) rfl))
  have N4 := Fr.snoc X4 N3 g_a1
  show Go p e below _ (T4.setTop (mkF m 9 #[.val (.ref a1), .val (.ref a2), .val .null] []))
  refine Go.st (fun _ kk => XS.aloadN X4.here hx rfl (hb hby d11_9) rfl rfl  kk) ?_
  show Go p e below _ (T4.setTop (mkF m 10 #[.val (.ref a1), .val (.ref a2), .val .null] [(.ref a1)]))
  refine Go.st (fun _ kk => XS.aloadN X4.here hx rfl (hb hby d11_10) rfl rfl  kk) ?_
  show Go p e below _ (T4.setTop (mkF m 11 #[.val (.ref a1), .val (.ref a2), .val .null] [.null, (.ref a1)]))
  have f_5 := (Exa.wr W4 E_a1)
  have f_6 := (Fld.other W4 F_feature_a1 (Or.inr (slot_ne (Or.inr (hw _ (List.mem_of_getElem? (i := 76) rfl))) (Or.inr (hw _ (List.mem_of_getElem? (i := 74) rfl))) (by decide) (t := (.object "com/example/mergewell/mergewell/core/Feature")) (t' := (.object "java/lang/String")) (by decide) (by decide))))
  obtain ⟨T7, h7, X7, e7, W7, st7⟩ := putF X4 hx hZ hown (host := "") (Or.inl (hw _ (List.mem_of_getElem? (i := 75) rfl))) Via.refl e4 f_6 f_5 (Or.inr ⟨(hw _ (List.mem_of_getElem? (i := 76) rfl)), rfl, hnm⟩) (hw _ (List.mem_of_getElem? (i := 67) rfl)) (ty := (.object "com/example/mergewell/mergewell/core/Feature")) (by decide) rfl rfl (g := (mkF m 11 #[.val (.ref a1), .val (.ref a2), .val .null] [.null, (.ref a1)])) rfl rfl (hb hby d11_11)
  refine Go.st st7 ?_
  have Fw7 : Fld Z h7 a1 "com/example/mergewell/mergewell/core/Slot" "feature" "Lcom/example/mergewell/mergewell/core/Feature;" .null := Fld.same W7 f_6
  have K7 : Keep h0 h7 [a1] := K4.wr W7 (Or.inl (List.mem_of_getElem? (i := 0) rfl))
  have N7 := Fr.snoc X7 N4 g_a1
  show Go p e below _ (T7.setTop (mkF m 14 #[.val (.ref a1), .val (.ref a2), .val .null] []))
  have f_8 := (Exa.wr W7 f_5)
  have f_9 := (Fld.other W7 Fw4 (Or.inr (slot_ne (Or.inr (hw _ (List.mem_of_getElem? (i := 74) rfl))) (Or.inr (hw _ (List.mem_of_getElem? (i := 76) rfl))) (by decide) (t := (.object "java/lang/String")) (t' := (.object "com/example/mergewell/mergewell/core/Feature")) (by decide) (by decide))))
  exact Go.ret (Q := Qm11ba_o Z a1 a2 u_owner_a1 u_feature_a1 h0 n0) X7 (v := none) (fun _ => rfl) Bd.notSynchronized (fun fs hr => X7.returnOut hx Bd.returns (hb hby d11_14) hr) e7 ⟨rfl, N7, K7, f_8, f_9⟩ (by decide) (by decide)
def Qm11bb_o (Z : State) (a1 : Addr) (a2 : Addr) (a3 : Addr) (u_owner_a1 : Value) (u_feature_a1 : Value) (h0 : Heap) (n0 : Nat) (v : Option Value) (h : Heap) (L : List Loc) : Prop := v = none ∧ Fr n0 L ∧ Keep h0 h [a1] ∧ Exa Z h a1 "com/example/mergewell/mergewell/core/Slot" ∧ Fld Z h a1 "com/example/mergewell/mergewell/core/Slot" "owner" "Ljava/lang/String;" (.ref a2)
set_option maxRecDepth 65536 in
set_option maxHeartbeats 40000000 in
theorem rm11bb_o (l : Launch) (Z : State) (a0 : Array Value) (hw : ∀ d ∈ tables_1, d.before a0 Z = true) (ws : List Jvm.Cond) (a1 : Addr) (a2 : Addr) (a3 : Addr) (u_owner_a1 : Value) (u_feature_a1 : Value) (h0 : Heap) (n0 : Nat) (Z0 : n0 ≤ h0.size) (E_a1 : Exa Z h0 a1 "com/example/mergewell/mergewell/core/Slot") (F_owner_a1 : Fld Z h0 a1 "com/example/mergewell/mergewell/core/Slot" "owner" "Ljava/lang/String;" u_owner_a1) (g_a1 : n0 ≤ a1) (F_feature_a1 : Fld Z h0 a1 "com/example/mergewell/mergewell/core/Slot" "feature" "Lcom/example/mergewell/mergewell/core/Feature;" u_feature_a1) :
    MetFree l (⟨"com/example/mergewell/mergewell/core/Slot", "<init>", "(Ljava/lang/String;Lcom/example/mergewell/mergewell/core/Feature;)V"⟩ : MethodName) (head1 (Jvm.Cond.code (⟨"com/example/mergewell/mergewell/core/Slot", "<init>", "(Ljava/lang/String;Lcom/example/mergewell/mergewell/core/Feature;)V"⟩ : MethodName) prog_14_method_1_code 3 none :: ws) ({ frames := 2, cells := 0, slots := 0, locals := 24 } : Room)) (fun a U => a = #[(.ref a1), (.ref a2), (.ref a3)] ∧ Z.Warmed39 U.vm ∧ U.heap = h0) (fun _ _ _ _ _ => True) (fun _ U o U' => ∃ v L, o = .returned v ∧ Qm11bb_o Z a1 a2 a3 u_owner_a1 u_feature_a1 h0 n0 v U'.heap L ∧ FrameEnd U o U' L ({ frames := 2, cells := 0, slots := 0, locals := 24 } : Room).cells ({ frames := 2, cells := 0, slots := 0, locals := 24 } : Room).slots) := by
  refine MetFree.of_bodySF (plainFor_of_name pn_11) hisR ?_
  intro p e s m args below meth c s₁ Bd hml0 hP hK
  obtain ⟨rfl, hZ, hh⟩ := hP
  have hx := Bd.exec
  have hby := Bd.bytes
  have hml : c.maxLocals = 3 := hml0
  have hown : s.vm.findClass "com/example/mergewell/mergewell/core/Slot" = some m.cls := findClass_of_methodNamed Bd.named
  have hnm := (name_of_methodNamed Bd.named Bd.method).1
  have X0 : Stand p l e ({ frames := 2, cells := 0, slots := 0, locals := 24 } : Room) s m #[(.ref a1), (.ref a2), (.ref a3)] below meth c s₁ [] 0 0 := Stand.of_body Bd
  have e0 : s₁.heap = h0 := by rw [← hh, Bd.state]; rfl
  have N0 := Fr.nil n0
  refine Go.en (ef_11 m a1 a2 a3) ?_
  show Go p e below _ (s₁.setTop (mkF m 0 #[.val (.ref a1), .val (.ref a2), .val (.ref a3)] []))
  refine Go.st (fun _ kk => XS.aloadN X0.here hx rfl (hb hby d11_0) rfl rfl  kk) ?_
  show Go p e below _ (s₁.setTop (mkF m 1 #[.val (.ref a1), .val (.ref a2), .val (.ref a3)] [(.ref a1)]))
  obtain ⟨_, _, ⟨T4, L4, k4, n4⟩, -, X4, ⟨Lc4, hQ4, l4, y4, z4⟩, st4⟩ := X0.specialBack hx (y := (⟨"java/lang/Record", "<init>", "()V"⟩ : MethodName)) rfl hown (mvT hZ (hw _ (List.mem_of_getElem? (i := 72) rfl))) (mvT hZ (hw _ (List.mem_of_getElem? (i := 43) rfl))) (mvT hZ (hw _ (List.mem_of_getElem? (i := 46) rfl))) (by decide) (backOf (W := 0) (rm9_o l Z a0 hw [] a1 h0 n0 Z0 ) hZ (hw _ (List.mem_of_getElem? (i := 46) rfl)) (hw _ (List.mem_of_getElem? (i := 45) rfl)) (by decide) (by decide)) (g := (mkF m 1 #[.val (.ref a1), .val (.ref a2), .val (.ref a3)] [(.ref a1)])) rfl (by rw [hml]; rfl) (Steps.refl _) (a := a1) (argsL := []) (rest := []) (lenOf pd_7 rfl) rfl (by show 2 * 0 + _ ≤ _; exact Nat.le_of_eq rfl) (hb hby d11_1) (fun _ _ => ⟨rfl, e0, (by decide : 0 + 0 ≤ _), (by decide : 0 + 0 ≤ _)⟩)
  dsimp only [Pt.U, Pt.locs, Pt.cells, Pt.slots] at X4 l4 y4 z4 st4 hQ4
  subst l4 y4 z4
  obtain ⟨rfl, N4q, eq4⟩ := hQ4
  have N4 := Fr.app N0 N4q
  refine Go.tr st4 ?_
  show Go p e below _ (T4.setTop (mkF m 4 #[.val (.ref a1), .val (.ref a2), .val (.ref a3)] []))
  refine Go.st (fun _ kk => XS.aloadN X4.here hx rfl (hb hby d11_4) rfl rfl  kk) ?_
  show Go p e below _ (T4.setTop (mkF m 5 #[.val (.ref a1), .val (.ref a2), .val (.ref a3)] [(.ref a1)]))
  refine Go.st (fun _ kk => XS.aloadN X4.here hx rfl (hb hby d11_5) rfl rfl  kk) ?_
  show Go p e below _ (T4.setTop (mkF m 6 #[.val (.ref a1), .val (.ref a2), .val (.ref a3)] [(.ref a2), (.ref a1)]))
  obtain ⟨T5, h5, X5, e5, W5, st5⟩ := putF X4 hx hZ hown (host := "") (Or.inl (hw _ (List.mem_of_getElem? (i := 73) rfl))) Via.refl eq4 F_owner_a1 E_a1 (Or.inr ⟨(hw _ (List.mem_of_getElem? (i := 74) rfl)), rfl, hnm⟩) (hw _ (List.mem_of_getElem? (i := 67) rfl)) (ty := (.object "java/lang/String")) (by decide) rfl rfl (g := (mkF m 6 #[.val (.ref a1), .val (.ref a2), .val (.ref a3)] [(.ref a2), (.ref a1)])) rfl rfl (hb hby d11_6)
  refine Go.st st5 ?_
  have Fw5 : Fld Z h5 a1 "com/example/mergewell/mergewell/core/Slot" "owner" "Ljava/lang/String;" (.ref a2) := Fld.same W5 F_owner_a1
  have K5 : Keep h0 h5 [a1] := (Keep.refl h0 [a1]).wr W5 (Or.inl (List.mem_of_getElem? (i := 0) rfl))
  have N5 := Fr.snoc X5 N4 g_a1
  show Go p e below _ (T5.setTop (mkF m 9 #[.val (.ref a1), .val (.ref a2), .val (.ref a3)] []))
  refine Go.st (fun _ kk => XS.aloadN X5.here hx rfl (hb hby d11_9) rfl rfl  kk) ?_
  show Go p e below _ (T5.setTop (mkF m 10 #[.val (.ref a1), .val (.ref a2), .val (.ref a3)] [(.ref a1)]))
  refine Go.st (fun _ kk => XS.aloadN X5.here hx rfl (hb hby d11_10) rfl rfl  kk) ?_
  show Go p e below _ (T5.setTop (mkF m 11 #[.val (.ref a1), .val (.ref a2), .val (.ref a3)] [(.ref a3), (.ref a1)]))
  have f_6 := (Exa.wr W5 E_a1)
  have f_7 := (Fld.other W5 F_feature_a1 (Or.inr (slot_ne (Or.inr (hw _ (List.mem_of_getElem? (i := 76) rfl))) (Or.inr (hw _ (List.mem_of_getElem? (i := 74) rfl))) (by decide) (t := (.object "com/example/mergewell/mergewell/core/Feature")) (t' := (.object "java/lang/String")) (by decide) (by decide))))
  obtain ⟨T8, h8, X8, e8, W8, st8⟩ := putF X5 hx hZ hown (host := "") (Or.inl (hw _ (List.mem_of_getElem? (i := 75) rfl))) Via.refl e5 f_7 f_6 (Or.inr ⟨(hw _ (List.mem_of_getElem? (i := 76) rfl)), rfl, hnm⟩) (hw _ (List.mem_of_getElem? (i := 67) rfl)) (ty := (.object "com/example/mergewell/mergewell/core/Feature")) (by decide) rfl rfl (g := (mkF m 11 #[.val (.ref a1), .val (.ref a2), .val (.ref a3)] [(.ref a3), (.ref a1)])) rfl rfl (hb hby d11_11)
  refine Go.st st8 ?_
  have Fw8 : Fld Z h8 a1 "com/example/mergewell/mergewell/core/Slot" "feature" "Lcom/example/mergewell/mergewell/core/Feature;" (.ref a3) := Fld.same W8 f_7
  have K8 : Keep h0 h8 [a1] := K5.wr W8 (Or.inl (List.mem_of_getElem? (i := 0) rfl))
  have N8 := Fr.snoc X8 N5 g_a1
  show Go p e below _ (T8.setTop (mkF m 14 #[.val (.ref a1), .val (.ref a2), .val (.ref a3)] []))
  have f_9 := (Exa.wr W8 f_6)
  have f_10 := (Fld.other W8 Fw5 (Or.inr (slot_ne (Or.inr (hw _ (List.mem_of_getElem? (i := 74) rfl))) (Or.inr (hw _ (List.mem_of_getElem? (i := 76) rfl))) (by decide) (t := (.object "java/lang/String")) (t' := (.object "com/example/mergewell/mergewell/core/Feature")) (by decide) (by decide))))
  exact Go.ret (Q := Qm11bb_o Z a1 a2 a3 u_owner_a1 u_feature_a1 h0 n0) X8 (v := none) (fun _ => rfl) Bd.notSynchronized (fun fs hr => X8.returnOut hx Bd.returns (hb hby d11_14) hr) e8 ⟨rfl, N8, K8, f_9, f_10⟩ (by decide) (by decide)
def Qm12n_o (Z : State) (a1 : Addr) (h0 : Heap) (n0 : Nat) (v : Option Value) (h : Heap) (L : List Loc) : Prop := v = some (.int (1 : Int32)) ∧ Fr n0 L ∧ h = h0
set_option maxRecDepth 65536 in
set_option maxHeartbeats 40000000 in
theorem rm12n_o (l : Launch) (Z : State) (a0 : Array Value) (hw : ∀ d ∈ tables_1, d.before a0 Z = true) (ws : List Jvm.Cond) (a1 : Addr) (h0 : Heap) (n0 : Nat) (Z0 : n0 ≤ h0.size) (F_owner_a1 : Fld Z h0 a1 "com/example/mergewell/mergewell/core/Slot" "owner" "Ljava/lang/String;" .null) :
    MetFree l (⟨"com/example/mergewell/mergewell/core/Slot", "isRoot", "()Z"⟩ : MethodName) (head1 (Jvm.Cond.code (⟨"com/example/mergewell/mergewell/core/Slot", "isRoot", "()Z"⟩ : MethodName) prog_14_method_2_code 1 (some .boolean) :: ws) ({ frames := 0, cells := 0, slots := 0, locals := 0 } : Room)) (fun a U => a = #[(.ref a1)] ∧ Z.Warmed39 U.vm ∧ U.heap = h0) (fun _ _ _ _ _ => True) (fun _ U o U' => ∃ v L, o = .returned v ∧ Qm12n_o Z a1 h0 n0 v U'.heap L ∧ FrameEnd U o U' L ({ frames := 0, cells := 0, slots := 0, locals := 0 } : Room).cells ({ frames := 0, cells := 0, slots := 0, locals := 0 } : Room).slots) := by
  refine MetFree.of_bodySF (plainFor_of_name pn_12) hisR ?_
  intro p e s m args below meth c s₁ Bd hml0 hP hK
  obtain ⟨rfl, hZ, hh⟩ := hP
  have hx := Bd.exec
  have hby := Bd.bytes
  have hml : c.maxLocals = 1 := hml0
  have hown : s.vm.findClass "com/example/mergewell/mergewell/core/Slot" = some m.cls := findClass_of_methodNamed Bd.named
  have hnm := (name_of_methodNamed Bd.named Bd.method).1
  have X0 : Stand p l e ({ frames := 0, cells := 0, slots := 0, locals := 0 } : Room) s m #[(.ref a1)] below meth c s₁ [] 0 0 := Stand.of_body Bd
  have e0 : s₁.heap = h0 := by rw [← hh, Bd.state]; rfl
  have N0 := Fr.nil n0
  refine Go.en (ef_12 m a1) ?_
  show Go p e below _ (s₁.setTop (mkF m 0 #[.val (.ref a1)] []))
  refine Go.st (fun _ kk => XS.aloadN X0.here hx rfl (hb hby d12_0) rfl rfl  kk) ?_
  show Go p e below _ (s₁.setTop (mkF m 1 #[.val (.ref a1)] [(.ref a1)]))
  obtain ⟨T2, X2, e2, st2⟩ := getF X0 hx hZ hown (host := "") (Or.inl (hw _ (List.mem_of_getElem? (i := 73) rfl))) Via.refl e0 F_owner_a1 (g := (mkF m 1 #[.val (.ref a1)] [(.ref a1)])) rfl rfl (hb hby d12_1)
  refine Go.st st2 ?_
  show Go p e below _ (T2.setTop (mkF m 4 #[.val (.ref a1)] [.null]))
  refine Go.st (fun _ kk => XS.ifnonnullNo X2.here hx rfl (hb hby d12_4) rfl kk) ?_
  show Go p e below _ (T2.setTop (mkF m 7 #[.val (.ref a1)] []))
  refine Go.st (fun _ kk => XS.iconst X2.here hx rfl (hb hby d12_7) kk) ?_
  show Go p e below _ (T2.setTop (mkF m 8 #[.val (.ref a1)] [(.int (1 : Int32))]))
  refine Go.st (fun _ kk => XS.goto X2.here hx rfl (pc0 := 8) (pc' := 12) rfl (hb hby d12_8) (by decide) (by decide) kk) ?_
  show Go p e below _ (T2.setTop (mkF m 12 #[.val (.ref a1)] [(.int (1 : Int32))]))
  exact Go.ret (Q := Qm12n_o Z a1 h0 n0) X2 (v := some (.int (1 : Int32))) (fun h => by rw [Bd.returns] at h; cases h) Bd.notSynchronized (fun fs hr => retN X2 hx (t := .boolean) Bd.returns (by simp) (hb hby d12_12) hr) e2 ⟨rfl, N0, rfl⟩ (by decide) (by decide)
def Qm12_o (Z : State) (a1 : Addr) (w2 : Addr) (h0 : Heap) (n0 : Nat) (v : Option Value) (h : Heap) (L : List Loc) : Prop := v = some (.int (0 : Int32)) ∧ Fr n0 L ∧ h = h0
set_option maxRecDepth 65536 in
set_option maxHeartbeats 40000000 in
theorem rm12_o (l : Launch) (Z : State) (a0 : Array Value) (hw : ∀ d ∈ tables_1, d.before a0 Z = true) (ws : List Jvm.Cond) (a1 : Addr) (w2 : Addr) (h0 : Heap) (n0 : Nat) (Z0 : n0 ≤ h0.size) (F_owner_a1 : Fld Z h0 a1 "com/example/mergewell/mergewell/core/Slot" "owner" "Ljava/lang/String;" (.ref w2)) :
    MetFree l (⟨"com/example/mergewell/mergewell/core/Slot", "isRoot", "()Z"⟩ : MethodName) (head1 (Jvm.Cond.code (⟨"com/example/mergewell/mergewell/core/Slot", "isRoot", "()Z"⟩ : MethodName) prog_14_method_2_code 1 (some .boolean) :: ws) ({ frames := 0, cells := 0, slots := 0, locals := 0 } : Room)) (fun a U => a = #[(.ref a1)] ∧ Z.Warmed39 U.vm ∧ U.heap = h0) (fun _ _ _ _ _ => True) (fun _ U o U' => ∃ v L, o = .returned v ∧ Qm12_o Z a1 w2 h0 n0 v U'.heap L ∧ FrameEnd U o U' L ({ frames := 0, cells := 0, slots := 0, locals := 0 } : Room).cells ({ frames := 0, cells := 0, slots := 0, locals := 0 } : Room).slots) := by
  refine MetFree.of_bodySF (plainFor_of_name pn_12) hisR ?_
  intro p e s m args below meth c s₁ Bd hml0 hP hK
  obtain ⟨rfl, hZ, hh⟩ := hP
  have hx := Bd.exec
  have hby := Bd.bytes
  have hml : c.maxLocals = 1 := hml0
  have hown : s.vm.findClass "com/example/mergewell/mergewell/core/Slot" = some m.cls := findClass_of_methodNamed Bd.named
  have hnm := (name_of_methodNamed Bd.named Bd.method).1
  have X0 : Stand p l e ({ frames := 0, cells := 0, slots := 0, locals := 0 } : Room) s m #[(.ref a1)] below meth c s₁ [] 0 0 := Stand.of_body Bd
  have e0 : s₁.heap = h0 := by rw [← hh, Bd.state]; rfl
  have N0 := Fr.nil n0
  refine Go.en (ef_12 m a1) ?_
  show Go p e below _ (s₁.setTop (mkF m 0 #[.val (.ref a1)] []))
  refine Go.st (fun _ kk => XS.aloadN X0.here hx rfl (hb hby d12_0) rfl rfl  kk) ?_
  show Go p e below _ (s₁.setTop (mkF m 1 #[.val (.ref a1)] [(.ref a1)]))
  obtain ⟨T3, X3, e3, st3⟩ := getF X0 hx hZ hown (host := "") (Or.inl (hw _ (List.mem_of_getElem? (i := 73) rfl))) Via.refl e0 F_owner_a1 (g := (mkF m 1 #[.val (.ref a1)] [(.ref a1)])) rfl rfl (hb hby d12_1)
  refine Go.st st3 ?_
  show Go p e below _ (T3.setTop (mkF m 4 #[.val (.ref a1)] [(.ref w2)]))
  refine Go.st (fun _ kk => XS.ifnonnullYes X3.here hx rfl (pc0 := 4) (pc' := 11) rfl (hb hby d12_4) rfl (by decide) (by decide) kk) ?_
  show Go p e below _ (T3.setTop (mkF m 11 #[.val (.ref a1)] []))
  refine Go.st (fun _ kk => XS.iconst X3.here hx rfl (hb hby d12_11) kk) ?_
  show Go p e below _ (T3.setTop (mkF m 12 #[.val (.ref a1)] [(.int (0 : Int32))]))
  exact Go.ret (Q := Qm12_o Z a1 w2 h0 n0) X3 (v := some (.int (0 : Int32))) (fun h => by rw [Bd.returns] at h; cases h) Bd.notSynchronized (fun fs hr => retN X3 hx (t := .boolean) Bd.returns (by simp) (hb hby d12_12) hr) e3 ⟨rfl, N0, rfl⟩ (by decide) (by decide)
def Q0 (n0 : Nat) (v : Option Value) (h : Heap) (L : List Loc) : Prop := v = some (.int (1 : Int32)) ∧ Fr n0 L
set_option maxRecDepth 65536 in
set_option maxHeartbeats 40000000 in
theorem rm0 (l : Launch) (Z : State) (a0 : Array Value) (hw : ∀ d ∈ tables_1, d.before a0 Z = true) (ws : List Jvm.Cond) (p1 : Int32) (p2 : Int32) (p3 : Int32) (p4 : Int32) (w_ATTRIBUTE : Addr) (w_ROOT : Addr) (w_CONTAINMENT : Addr) (w_REFERENCE : Addr) (wcs : Int32) (h0 : Heap) (n0 : Nat) (Z0 : n0 ≤ h0.size) (S_ATTRIBUTE : Sta Z h0 "com/example/mergewell/mergewell/core/Feature$Kind" "ATTRIBUTE" "Lcom/example/mergewell/mergewell/core/Feature$Kind;" (.ref w_ATTRIBUTE)) (E_w_ATTRIBUTE : Exa Z h0 w_ATTRIBUTE "com/example/mergewell/mergewell/core/Feature$Kind") (S_ROOT : Sta Z h0 "com/example/mergewell/mergewell/core/Slot" "ROOT" "Lcom/example/mergewell/mergewell/core/Slot;" (.ref w_ROOT)) (E_w_ROOT : Exa Z h0 w_ROOT "com/example/mergewell/mergewell/core/Slot") (S_CONTAINMENT : Sta Z h0 "com/example/mergewell/mergewell/core/Feature$Kind" "CONTAINMENT" "Lcom/example/mergewell/mergewell/core/Feature$Kind;" (.ref w_CONTAINMENT)) (E_w_CONTAINMENT : Exa Z h0 w_CONTAINMENT "com/example/mergewell/mergewell/core/Feature$Kind") (S_REFERENCE : Sta Z h0 "com/example/mergewell/mergewell/core/Feature$Kind" "REFERENCE" "Lcom/example/mergewell/mergewell/core/Feature$Kind;" (.ref w_REFERENCE)) (E_w_REFERENCE : Exa Z h0 w_REFERENCE "com/example/mergewell/mergewell/core/Feature$Kind") (S_COMPACT_STRINGS : Sta Z h0 "java/lang/String" "COMPACT_STRINGS" "Z" (.int wcs)) (hcs : ¬ (wcs = (0 : Int32))) (F_owner_w_ROOT : Fld Z h0 w_ROOT "com/example/mergewell/mergewell/core/Slot" "owner" "Ljava/lang/String;" .null) :
    MetFree l x (head1 (Jvm.Cond.code x code maxLocals ret :: ws) room_1) (fun a U => a = #[(.int p1), (.int p2), (.int p3), (.int p4)] ∧ Z.Warmed39 U.vm ∧ U.heap = h0 ∧ CHv Z own_EL U.vm h0) (fun _ _ _ _ _ => True) (fun _ U o U' => ∃ v L, o = .returned v ∧ Q0 n0 v U'.heap L ∧ ReturnedEndW U o U' L room_1.cells room_1.slots) := by
  refine MetFree.of_bodySF (plainFor_of_name pn_0) hisR ?_
  intro p e s m args below meth c s₁ Bd hml0 hP hK
  obtain ⟨rfl, hZ, hh, hH⟩ := hP
  have hx := Bd.exec
  have hby := Bd.bytes
  have hml : c.maxLocals = 13 := hml0
  have hown : s.vm.findClass "com/example/mergewell/mergewell/core/SlotIsRootPinLaw" = some m.cls := findClass_of_methodNamed Bd.named
  have hnm := (name_of_methodNamed Bd.named Bd.method).1
  have X0 : Stand p l e room_1 (s.setVm s.vm) m #[(.int p1), (.int p2), (.int p3), (.int p4)] below meth c s₁ [] 0 0 := Stand.of_body Bd
  have hS : s.Since s.vm 0 := State.WarmedH.since (State.WarmedH.refl s) 0
  have hk : 0 ≤ h0.size := Nat.zero_le _
  have own_wS0 : ∀ a ∈ Bundle.stringAtoms, a.before a0 Z = true := own_wS hw
  have e0 : s₁.heap = h0 := by rw [← hh, Bd.state]; rfl
  have N0 := Fr.nil n0
  refine Go.en (ef_0 m p1 p2 p3 p4) ?_
  show Go p e below _ (s₁.setTop (mkF m 0 #[.val (.int p1), .val (.int p2), .val (.int p3), .val (.int p4), .unset, .unset, .unset, .unset, .unset, .unset, .unset, .unset, .unset] []))
  refine Go.st (fun _ kk => XS.iconst X0.here hx rfl (hb hby at_0) kk) ?_
  show Go p e below _ (s₁.setTop (mkF m 1 #[.val (.int p1), .val (.int p2), .val (.int p3), .val (.int p4), .unset, .unset, .unset, .unset, .unset, .unset, .unset, .unset, .unset] [(.int (2 : Int32))]))
  obtain ⟨T5, h5, k5, X5, e5, E5, A5, st5⟩ := newP X0 hx hZ (hw _ (List.mem_of_getElem? (i := 0) rfl)) e0 (g := (mkF m 1 #[.val (.int p1), .val (.int p2), .val (.int p3), .val (.int p4), .unset, .unset, .unset, .unset, .unset, .unset, .unset, .unset, .unset] [(.int (2 : Int32))])) rfl (hb hby at_1) rfl (by decide) (cap := 2) (by decide) (by decide) (by decide) (by decide)
  obtain ⟨b5, g5⟩ : ∃ z, z = h0.size := ⟨_, rfl⟩
  rw [← g5] at A5 st5
  refine Go.st st5 ?_
  have g_b5 : n0 ≤ b5 := Nat.le_trans Z0 (Nat.le_of_eq g5.symm)
  have sz_b5 : h0.size ≤ b5 := Nat.le_of_eq g5.symm
  have K5 : Keep h0 h5 [] := (Keep.refl h0 []).ext E5
  have V_b5 : Arv Z h5 b5 k5 .char (2 : Int32) [(.int (0 : Int32)), (.int (0 : Int32))] (.int (0 : Int32)) := (Arv.new A5 (by decide)).pad (pad_rep [] (.int (0 : Int32)) 2)
  show Go p e below _ (T5.setTop (mkF m 3 #[.val (.int p1), .val (.int p2), .val (.int p3), .val (.int p4), .unset, .unset, .unset, .unset, .unset, .unset, .unset, .unset, .unset] [(.ref b5)]))
  refine Go.st (fun _ kk => XS.dup X5.here hx rfl (hb hby at_3) rfl rfl kk) ?_
  show Go p e below _ (T5.setTop (mkF m 4 #[.val (.int p1), .val (.int p2), .val (.int p3), .val (.int p4), .unset, .unset, .unset, .unset, .unset, .unset, .unset, .unset, .unset] [(.ref b5), (.ref b5)]))
  refine Go.st (fun _ kk => XS.iconst X5.here hx rfl (hb hby at_4) kk) ?_
  show Go p e below _ (T5.setTop (mkF m 5 #[.val (.int p1), .val (.int p2), .val (.int p3), .val (.int p4), .unset, .unset, .unset, .unset, .unset, .unset, .unset, .unset, .unset] [(.int (0 : Int32)), (.ref b5), (.ref b5)]))
  refine Go.st (fun _ kk => XS.iloadN X5.here hx rfl (hb hby at_5) rfl  kk) ?_
  show Go p e below _ (T5.setTop (mkF m 6 #[.val (.int p1), .val (.int p2), .val (.int p3), .val (.int p4), .unset, .unset, .unset, .unset, .unset, .unset, .unset, .unset, .unset] [(.int p2), (.int (0 : Int32)), (.ref b5), (.ref b5)]))
  refine Go.st (fun _ kk => XS.sipush X5.here hx rfl (hb hby at_6) kk) ?_
  show Go p e below _ (T5.setTop (mkF m 9 #[.val (.int p1), .val (.int p2), .val (.int p3), .val (.int p4), .unset, .unset, .unset, .unset, .unset, .unset, .unset, .unset, .unset] [(.int (255 : Int32)), (.int p2), (.int (0 : Int32)), (.ref b5), (.ref b5)]))
  refine Go.st (fun _ kk => XS.iand X5.here hx rfl (hb hby at_9) rfl kk) ?_
  show Go p e below _ (T5.setTop (mkF m 10 #[.val (.int p1), .val (.int p2), .val (.int p3), .val (.int p4), .unset, .unset, .unset, .unset, .unset, .unset, .unset, .unset, .unset] [(.int (p2 &&& (255 : Int32))), (.int (0 : Int32)), (.ref b5), (.ref b5)]))
  refine Go.st (fun _ kk => XS.i2c X5.here hx rfl (hb hby at_10) rfl kk) ?_
  show Go p e below _ (T5.setTop (mkF m 11 #[.val (.int p1), .val (.int p2), .val (.int p3), .val (.int p4), .unset, .unset, .unset, .unset, .unset, .unset, .unset, .unset, .unset] [(.int ((p2 &&& (255 : Int32)).toUInt32.toUInt16.toUInt32.toInt32)), (.int (0 : Int32)), (.ref b5), (.ref b5)]))
  obtain ⟨clq6, Arq6, caq6, saq6, naq6, haq6, gaq6⟩ := id V_b5
  have inq6 : ¬ ((0 : Int32) < 0 ∨ clq6.slots.size ≤ ((0 : Int32)).toNatClampNeg) := inb_of saq6 ⟨by decide, by decide⟩
  obtain ⟨T7, h7, X7, e7, W7, st7⟩ := stC X5 hx hZ e5 Arq6 (j := (0 : Int32)) inq6 (g := (mkF m 11 #[.val (.int p1), .val (.int p2), .val (.int p3), .val (.int p4), .unset, .unset, .unset, .unset, .unset, .unset, .unset, .unset, .unset] [(.int ((p2 &&& (255 : Int32)).toUInt32.toUInt16.toUInt32.toInt32)), (.int (0 : Int32)), (.ref b5), (.ref b5)])) rfl rfl (hb hby at_11)
  refine Go.st st7 ?_
  have K7 : Keep h0 h7 [] := K5.wr W7 (Or.inr sz_b5)
  have V7 : Arv Z h7 b5 k5 .char (2 : Int32) [(.int (nar .char ((p2 &&& (255 : Int32)).toUInt32.toUInt16.toUInt32.toInt32))), (.int (0 : Int32))] (.int (0 : Int32)) := Arv.set Arq6 caq6 saq6 naq6 haq6 gaq6 (fits_nar_char _) W7 0 rfl (Nat.le_of_ble_eq_true rfl)
  have N7 := Fr.snoc X7 N0 g_b5
  show Go p e below _ (T7.setTop (mkF m 12 #[.val (.int p1), .val (.int p2), .val (.int p3), .val (.int p4), .unset, .unset, .unset, .unset, .unset, .unset, .unset, .unset, .unset] [(.ref b5)]))
  refine Go.st (fun _ kk => XS.dup X7.here hx rfl (hb hby at_12) rfl rfl kk) ?_
  show Go p e below _ (T7.setTop (mkF m 13 #[.val (.int p1), .val (.int p2), .val (.int p3), .val (.int p4), .unset, .unset, .unset, .unset, .unset, .unset, .unset, .unset, .unset] [(.ref b5), (.ref b5)]))
  refine Go.st (fun _ kk => XS.iconst X7.here hx rfl (hb hby at_13) kk) ?_
  show Go p e below _ (T7.setTop (mkF m 14 #[.val (.int p1), .val (.int p2), .val (.int p3), .val (.int p4), .unset, .unset, .unset, .unset, .unset, .unset, .unset, .unset, .unset] [(.int (1 : Int32)), (.ref b5), (.ref b5)]))
  refine Go.st (fun _ kk => XS.iloadN X7.here hx rfl (hb hby at_14) rfl  kk) ?_
  show Go p e below _ (T7.setTop (mkF m 15 #[.val (.int p1), .val (.int p2), .val (.int p3), .val (.int p4), .unset, .unset, .unset, .unset, .unset, .unset, .unset, .unset, .unset] [(.int p3), (.int (1 : Int32)), (.ref b5), (.ref b5)]))
  refine Go.st (fun _ kk => XS.sipush X7.here hx rfl (hb hby at_15) kk) ?_
  show Go p e below _ (T7.setTop (mkF m 18 #[.val (.int p1), .val (.int p2), .val (.int p3), .val (.int p4), .unset, .unset, .unset, .unset, .unset, .unset, .unset, .unset, .unset] [(.int (255 : Int32)), (.int p3), (.int (1 : Int32)), (.ref b5), (.ref b5)]))
  refine Go.st (fun _ kk => XS.iand X7.here hx rfl (hb hby at_18) rfl kk) ?_
  show Go p e below _ (T7.setTop (mkF m 19 #[.val (.int p1), .val (.int p2), .val (.int p3), .val (.int p4), .unset, .unset, .unset, .unset, .unset, .unset, .unset, .unset, .unset] [(.int (p3 &&& (255 : Int32))), (.int (1 : Int32)), (.ref b5), (.ref b5)]))
  refine Go.st (fun _ kk => XS.i2c X7.here hx rfl (hb hby at_19) rfl kk) ?_
  show Go p e below _ (T7.setTop (mkF m 20 #[.val (.int p1), .val (.int p2), .val (.int p3), .val (.int p4), .unset, .unset, .unset, .unset, .unset, .unset, .unset, .unset, .unset] [(.int ((p3 &&& (255 : Int32)).toUInt32.toUInt16.toUInt32.toInt32)), (.int (1 : Int32)), (.ref b5), (.ref b5)]))
  obtain ⟨clq8, Arq8, caq8, saq8, naq8, haq8, gaq8⟩ := id V7
  have inq8 : ¬ ((1 : Int32) < 0 ∨ clq8.slots.size ≤ ((1 : Int32)).toNatClampNeg) := inb_of saq8 ⟨by decide, by decide⟩
  obtain ⟨T9, h9, X9, e9, W9, st9⟩ := stC X7 hx hZ e7 Arq8 (j := (1 : Int32)) inq8 (g := (mkF m 20 #[.val (.int p1), .val (.int p2), .val (.int p3), .val (.int p4), .unset, .unset, .unset, .unset, .unset, .unset, .unset, .unset, .unset] [(.int ((p3 &&& (255 : Int32)).toUInt32.toUInt16.toUInt32.toInt32)), (.int (1 : Int32)), (.ref b5), (.ref b5)])) rfl rfl (hb hby at_20)
  refine Go.st st9 ?_
  have K9 : Keep h0 h9 [] := K7.wr W9 (Or.inr sz_b5)
  have V9 : Arv Z h9 b5 k5 .char (2 : Int32) [(.int (nar .char ((p2 &&& (255 : Int32)).toUInt32.toUInt16.toUInt32.toInt32))), (.int (nar .char ((p3 &&& (255 : Int32)).toUInt32.toUInt16.toUInt32.toInt32)))] (.int (0 : Int32)) := Arv.set Arq8 caq8 saq8 naq8 haq8 gaq8 (fits_nar_char _) W9 1 rfl (Nat.le_of_ble_eq_true rfl)
  have N9 := Fr.snoc X9 N7 g_b5
  show Go p e below _ (T9.setTop (mkF m 21 #[.val (.int p1), .val (.int p2), .val (.int p3), .val (.int p4), .unset, .unset, .unset, .unset, .unset, .unset, .unset, .unset, .unset] [(.ref b5)]))
  refine Go.st (fun _ kk => XS.astore X9.here hx rfl (hb hby at_21) rfl rfl (l' := #[.val (.int p1), .val (.int p2), .val (.int p3), .val (.int p4), .val (.ref b5), .unset, .unset, .unset, .unset, .unset, .unset, .unset, .unset]) rfl kk) ?_
  show Go p e below _ (T9.setTop (mkF m 23 #[.val (.int p1), .val (.int p2), .val (.int p3), .val (.int p4), .val (.ref b5), .unset, .unset, .unset, .unset, .unset, .unset, .unset, .unset] []))
  refine Go.st (fun _ kk => XS.iconst X9.here hx rfl (hb hby at_23) kk) ?_
  show Go p e below _ (T9.setTop (mkF m 24 #[.val (.int p1), .val (.int p2), .val (.int p3), .val (.int p4), .val (.ref b5), .unset, .unset, .unset, .unset, .unset, .unset, .unset, .unset] [(.int (0 : Int32))]))
  obtain ⟨T10, h10, k10, X10, e10, E10, A10, st10⟩ := newP X9 hx hZ (hw _ (List.mem_of_getElem? (i := 0) rfl)) e9 (g := (mkF m 24 #[.val (.int p1), .val (.int p2), .val (.int p3), .val (.int p4), .val (.ref b5), .unset, .unset, .unset, .unset, .unset, .unset, .unset, .unset] [(.int (0 : Int32))])) rfl (hb hby at_24) rfl (by decide) (cap := 0) (by decide) (by decide) (by decide) (by decide)
  obtain ⟨b10, g10⟩ : ∃ z, z = h9.size := ⟨_, rfl⟩
  rw [← g10] at A10 st10
  refine Go.st st10 ?_
  have g_b10 : n0 ≤ b10 := Nat.le_trans (Nat.le_trans Z0 K9.1) (Nat.le_of_eq g10.symm)
  have sz_b10 : h0.size ≤ b10 := Nat.le_trans K9.1 (Nat.le_of_eq g10.symm)
  have lt_b5_b10 : b5 < b10 := Nat.lt_of_lt_of_le V9.lt (Nat.le_of_eq g10.symm)
  have K10 : Keep h0 h10 [] := K9.ext E10
  have V_b10 : Arv Z h10 b10 k10 .char (0 : Int32) [] (.int (0 : Int32)) := (Arv.new A10 (by decide)).pad (pad_rep [] (.int (0 : Int32)) 0)
  show Go p e below _ (T10.setTop (mkF m 26 #[.val (.int p1), .val (.int p2), .val (.int p3), .val (.int p4), .val (.ref b5), .unset, .unset, .unset, .unset, .unset, .unset, .unset, .unset] [(.ref b10)]))
  refine Go.st (fun _ kk => XS.astore X10.here hx rfl (hb hby at_26) rfl rfl (l' := #[.val (.int p1), .val (.int p2), .val (.int p3), .val (.int p4), .val (.ref b5), .val (.ref b10), .unset, .unset, .unset, .unset, .unset, .unset, .unset]) rfl kk) ?_
  show Go p e below _ (T10.setTop (mkF m 28 #[.val (.int p1), .val (.int p2), .val (.int p3), .val (.int p4), .val (.ref b5), .val (.ref b10), .unset, .unset, .unset, .unset, .unset, .unset, .unset] []))
  refine Go.st (fun _ kk => XS.iloadN X10.here hx rfl (hb hby at_28) rfl  kk) ?_
  show Go p e below _ (T10.setTop (mkF m 29 #[.val (.int p1), .val (.int p2), .val (.int p3), .val (.int p4), .val (.ref b5), .val (.ref b10), .unset, .unset, .unset, .unset, .unset, .unset, .unset] [(.int p4)]))
  refine Go.st (fun _ kk => XS.iconst X10.here hx rfl (hb hby at_29) kk) ?_
  show Go p e below _ (T10.setTop (mkF m 30 #[.val (.int p1), .val (.int p2), .val (.int p3), .val (.int p4), .val (.ref b5), .val (.ref b10), .unset, .unset, .unset, .unset, .unset, .unset, .unset] [(.int (3 : Int32)), (.int p4)]))
  refine Go.st (fun _ kk => XS.iand X10.here hx rfl (hb hby at_30) rfl kk) ?_
  show Go p e below _ (T10.setTop (mkF m 31 #[.val (.int p1), .val (.int p2), .val (.int p3), .val (.int p4), .val (.ref b5), .val (.ref b10), .unset, .unset, .unset, .unset, .unset, .unset, .unset] [(.int (p4 &&& (3 : Int32)))]))
  refine Go.st (fun _ kk => XS.istore X10.here hx rfl (hb hby at_31) rfl (l' := #[.val (.int p1), .val (.int p2), .val (.int p3), .val (.int p4), .val (.ref b5), .val (.ref b10), .unset, .val (.int (p4 &&& (3 : Int32))), .unset, .unset, .unset, .unset, .unset]) rfl kk) ?_
  show Go p e below _ (T10.setTop (mkF m 33 #[.val (.int p1), .val (.int p2), .val (.int p3), .val (.int p4), .val (.ref b5), .val (.ref b10), .unset, .val (.int (p4 &&& (3 : Int32))), .unset, .unset, .unset, .unset, .unset] []))
  have tail : ∀ (x : Addr) (T : State) (h : Heap) (locs : List Loc) (vm0 : Vm) (k0 : Nat), s.Since vm0 k0 → k0 ≤ h.size → Z.Warmed39 (s.setVm vm0).vm → (s.setVm vm0).vm.findClass "com/example/mergewell/mergewell/core/SlotIsRootPinLaw" = some m.cls → Stand p l e room_1 (s.setVm vm0) m #[(.int p1), (.int p2), (.int p3), (.int p4)] below meth c T locs 12 60 → T.heap = h → Fr n0 locs → Keep h0 h [] → Go p e below (fun o s₂ => ∃ v L, o = .returned v ∧ Q0 n0 v s₂.heap L ∧ ReturnedEndW s o s₂ L room_1.cells room_1.slots) (T.setTop (mkF m 81 #[.val (.int p1), .val (.int p2), .val (.int p3), .val (.int p4), .val (.ref b5), .val (.ref b10), .val (.ref x), .val (.int (p4 &&& (3 : Int32))), .unset, .unset, .unset, .unset, .unset] [])) := by
    intro x T h locs vm0 k0 hS hk hZ hown X eT N K
    refine Go.st (fun _ kk => XS.iloadN X.here hx rfl (hb hby at_81) rfl  kk) ?_
    show Go p e below _ (T.setTop (mkF m 82 #[.val (.int p1), .val (.int p2), .val (.int p3), .val (.int p4), .val (.ref b5), .val (.ref b10), .val (.ref x), .val (.int (p4 &&& (3 : Int32))), .unset, .unset, .unset, .unset, .unset] [(.int p1)]))
    refine Go.st (fun _ kk => XS.iconst X.here hx rfl (hb hby at_82) kk) ?_
    show Go p e below _ (T.setTop (mkF m 83 #[.val (.int p1), .val (.int p2), .val (.int p3), .val (.int p4), .val (.ref b5), .val (.ref b10), .val (.ref x), .val (.int (p4 &&& (3 : Int32))), .unset, .unset, .unset, .unset, .unset] [(.int (1 : Int32)), (.int p1)]))
    refine Go.st (fun _ kk => XS.iand X.here hx rfl (hb hby at_83) rfl kk) ?_
    show Go p e below _ (T.setTop (mkF m 84 #[.val (.int p1), .val (.int p2), .val (.int p3), .val (.int p4), .val (.ref b5), .val (.ref b10), .val (.ref x), .val (.int (p4 &&& (3 : Int32))), .unset, .unset, .unset, .unset, .unset] [(.int (p1 &&& (1 : Int32)))]))
    by_cases hc_1 : (p1 &&& (1 : Int32)) = (0 : Int32)
    · skip
      refine Go.st (fun _ kk => XS.ifYes X.here hx rfl (pc0 := 84) (pc' := 91) rfl (hb hby at_84) rfl ((if0 _ _).trans (teq hc_1).1) (by decide) (by decide) kk) ?_
      show Go p e below _ (T.setTop (mkF m 91 #[.val (.int p1), .val (.int p2), .val (.int p3), .val (.int p4), .val (.ref b5), .val (.ref b10), .val (.ref x), .val (.int (p4 &&& (3 : Int32))), .unset, .unset, .unset, .unset, .unset] []))
      refine Go.st (fun _ kk => XS.iconst X.here hx rfl (hb hby at_91) kk) ?_
      show Go p e below _ (T.setTop (mkF m 92 #[.val (.int p1), .val (.int p2), .val (.int p3), .val (.int p4), .val (.ref b5), .val (.ref b10), .val (.ref x), .val (.int (p4 &&& (3 : Int32))), .unset, .unset, .unset, .unset, .unset] [(.int (0 : Int32))]))
      refine Go.st (fun _ kk => XS.istore X.here hx rfl (hb hby at_92) rfl (l' := #[.val (.int p1), .val (.int p2), .val (.int p3), .val (.int p4), .val (.ref b5), .val (.ref b10), .val (.ref x), .val (.int (p4 &&& (3 : Int32))), .val (.int (0 : Int32)), .unset, .unset, .unset, .unset]) rfl kk) ?_
      show Go p e below _ (T.setTop (mkF m 94 #[.val (.int p1), .val (.int p2), .val (.int p3), .val (.int p4), .val (.ref b5), .val (.ref b10), .val (.ref x), .val (.int (p4 &&& (3 : Int32))), .val (.int (0 : Int32)), .unset, .unset, .unset, .unset] []))
      refine Go.st (fun _ kk => XS.iload X.here hx rfl (hb hby at_94) rfl  kk) ?_
      show Go p e below _ (T.setTop (mkF m 96 #[.val (.int p1), .val (.int p2), .val (.int p3), .val (.int p4), .val (.ref b5), .val (.ref b10), .val (.ref x), .val (.int (p4 &&& (3 : Int32))), .val (.int (0 : Int32)), .unset, .unset, .unset, .unset] [(.int (0 : Int32))]))
      refine Go.st (fun _ kk => XS.ifYes X.here hx rfl (pc0 := 96) (pc' := 103) rfl (hb hby at_96) rfl ((if0 _ _).trans (teq (by decide : ((0 : Int32) = (0 : Int32)))).1) (by decide) (by decide) kk) ?_
      show Go p e below _ (T.setTop (mkF m 103 #[.val (.int p1), .val (.int p2), .val (.int p3), .val (.int p4), .val (.ref b5), .val (.ref b10), .val (.ref x), .val (.int (p4 &&& (3 : Int32))), .val (.int (0 : Int32)), .unset, .unset, .unset, .unset] []))
      refine Go.st (fun _ kk => XS.aload X.here hx rfl (hb hby at_103) rfl rfl  kk) ?_
      show Go p e below _ (T.setTop (mkF m 105 #[.val (.int p1), .val (.int p2), .val (.int p3), .val (.int p4), .val (.ref b5), .val (.ref b10), .val (.ref x), .val (.int (p4 &&& (3 : Int32))), .val (.int (0 : Int32)), .unset, .unset, .unset, .unset] [(.ref x)]))
      refine Go.st (fun _ kk => XS.astore X.here hx rfl (hb hby at_105) rfl rfl (l' := #[.val (.int p1), .val (.int p2), .val (.int p3), .val (.int p4), .val (.ref b5), .val (.ref b10), .val (.ref x), .val (.int (p4 &&& (3 : Int32))), .val (.int (0 : Int32)), .val (.ref x), .unset, .unset, .unset]) rfl kk) ?_
      show Go p e below _ (T.setTop (mkF m 107 #[.val (.int p1), .val (.int p2), .val (.int p3), .val (.int p4), .val (.ref b5), .val (.ref b10), .val (.ref x), .val (.int (p4 &&& (3 : Int32))), .val (.int (0 : Int32)), .val (.ref x), .unset, .unset, .unset] []))
      refine Go.st (fun _ kk => XS.aconstNull X.here hx rfl (hb hby at_107) kk) ?_
      show Go p e below _ (T.setTop (mkF m 108 #[.val (.int p1), .val (.int p2), .val (.int p3), .val (.int p4), .val (.ref b5), .val (.ref b10), .val (.ref x), .val (.int (p4 &&& (3 : Int32))), .val (.int (0 : Int32)), .val (.ref x), .unset, .unset, .unset] [.null]))
      refine Go.st (fun _ kk => XS.astore X.here hx rfl (hb hby at_108) rfl rfl (l' := #[.val (.int p1), .val (.int p2), .val (.int p3), .val (.int p4), .val (.ref b5), .val (.ref b10), .val (.ref x), .val (.int (p4 &&& (3 : Int32))), .val (.int (0 : Int32)), .val (.ref x), .val .null, .unset, .unset]) rfl kk) ?_
      show Go p e below _ (T.setTop (mkF m 110 #[.val (.int p1), .val (.int p2), .val (.int p3), .val (.int p4), .val (.ref b5), .val (.ref b10), .val (.ref x), .val (.int (p4 &&& (3 : Int32))), .val (.int (0 : Int32)), .val (.ref x), .val .null, .unset, .unset] []))
      refine Go.st (fun _ kk => XS.iloadN X.here hx rfl (hb hby at_110) rfl  kk) ?_
      show Go p e below _ (T.setTop (mkF m 111 #[.val (.int p1), .val (.int p2), .val (.int p3), .val (.int p4), .val (.ref b5), .val (.ref b10), .val (.ref x), .val (.int (p4 &&& (3 : Int32))), .val (.int (0 : Int32)), .val (.ref x), .val .null, .unset, .unset] [(.int p1)]))
      refine Go.st (fun _ kk => XS.iconst X.here hx rfl (hb hby at_111) kk) ?_
      show Go p e below _ (T.setTop (mkF m 112 #[.val (.int p1), .val (.int p2), .val (.int p3), .val (.int p4), .val (.ref b5), .val (.ref b10), .val (.ref x), .val (.int (p4 &&& (3 : Int32))), .val (.int (0 : Int32)), .val (.ref x), .val .null, .unset, .unset] [(.int (2 : Int32)), (.int p1)]))
      refine Go.st (fun _ kk => XS.iand X.here hx rfl (hb hby at_112) rfl kk) ?_
      show Go p e below _ (T.setTop (mkF m 113 #[.val (.int p1), .val (.int p2), .val (.int p3), .val (.int p4), .val (.ref b5), .val (.ref b10), .val (.ref x), .val (.int (p4 &&& (3 : Int32))), .val (.int (0 : Int32)), .val (.ref x), .val .null, .unset, .unset] [(.int (p1 &&& (2 : Int32)))]))
      by_cases hc_2 : (p1 &&& (2 : Int32)) = (0 : Int32)
      · skip
        refine Go.st (fun _ kk => XS.ifNo X.here hx rfl (hb hby at_113) rfl ((if0 _ _).trans (teq hc_2).2) kk) ?_
        show Go p e below _ (T.setTop (mkF m 116 #[.val (.int p1), .val (.int p2), .val (.int p3), .val (.int p4), .val (.ref b5), .val (.ref b10), .val (.ref x), .val (.int (p4 &&& (3 : Int32))), .val (.int (0 : Int32)), .val (.ref x), .val .null, .unset, .unset] []))
        refine Go.st (fun _ kk => XS.iloadN X.here hx rfl (hb hby at_116) rfl  kk) ?_
        show Go p e below _ (T.setTop (mkF m 117 #[.val (.int p1), .val (.int p2), .val (.int p3), .val (.int p4), .val (.ref b5), .val (.ref b10), .val (.ref x), .val (.int (p4 &&& (3 : Int32))), .val (.int (0 : Int32)), .val (.ref x), .val .null, .unset, .unset] [(.int p1)]))
        refine Go.st (fun _ kk => XS.iconst X.here hx rfl (hb hby at_117) kk) ?_
        show Go p e below _ (T.setTop (mkF m 118 #[.val (.int p1), .val (.int p2), .val (.int p3), .val (.int p4), .val (.ref b5), .val (.ref b10), .val (.ref x), .val (.int (p4 &&& (3 : Int32))), .val (.int (0 : Int32)), .val (.ref x), .val .null, .unset, .unset] [(.int (2 : Int32)), (.int p1)]))
        refine Go.st (fun _ kk => XS.iushr X.here hx rfl (hb hby at_118) rfl kk) ?_
        show Go p e below _ (T.setTop (mkF m 119 #[.val (.int p1), .val (.int p2), .val (.int p3), .val (.int p4), .val (.ref b5), .val (.ref b10), .val (.ref x), .val (.int (p4 &&& (3 : Int32))), .val (.int (0 : Int32)), .val (.ref x), .val .null, .unset, .unset] [(.int ((p1.toUInt32 >>> ((2 : Int32) &&& 31).toUInt32).toInt32))]))
        refine Go.st (fun _ kk => XS.iconst X.here hx rfl (hb hby at_119) kk) ?_
        show Go p e below _ (T.setTop (mkF m 120 #[.val (.int p1), .val (.int p2), .val (.int p3), .val (.int p4), .val (.ref b5), .val (.ref b10), .val (.ref x), .val (.int (p4 &&& (3 : Int32))), .val (.int (0 : Int32)), .val (.ref x), .val .null, .unset, .unset] [(.int (3 : Int32)), (.int ((p1.toUInt32 >>> ((2 : Int32) &&& 31).toUInt32).toInt32))]))
        refine Go.st (fun _ kk => XS.iand X.here hx rfl (hb hby at_120) rfl kk) ?_
        show Go p e below _ (T.setTop (mkF m 121 #[.val (.int p1), .val (.int p2), .val (.int p3), .val (.int p4), .val (.ref b5), .val (.ref b10), .val (.ref x), .val (.int (p4 &&& (3 : Int32))), .val (.int (0 : Int32)), .val (.ref x), .val .null, .unset, .unset] [(.int (((p1.toUInt32 >>> ((2 : Int32) &&& 31).toUInt32).toInt32) &&& (3 : Int32)))]))
        refine Go.st (fun _ kk => XS.istore X.here hx rfl (hb hby at_121) rfl (l' := #[.val (.int p1), .val (.int p2), .val (.int p3), .val (.int p4), .val (.ref b5), .val (.ref b10), .val (.ref x), .val (.int (p4 &&& (3 : Int32))), .val (.int (0 : Int32)), .val (.ref x), .val .null, .val (.int (((p1.toUInt32 >>> ((2 : Int32) &&& 31).toUInt32).toInt32) &&& (3 : Int32))), .unset]) rfl kk) ?_
        show Go p e below _ (T.setTop (mkF m 123 #[.val (.int p1), .val (.int p2), .val (.int p3), .val (.int p4), .val (.ref b5), .val (.ref b10), .val (.ref x), .val (.int (p4 &&& (3 : Int32))), .val (.int (0 : Int32)), .val (.ref x), .val .null, .val (.int (((p1.toUInt32 >>> ((2 : Int32) &&& 31).toUInt32).toInt32) &&& (3 : Int32))), .unset] []))
        refine Go.st (fun _ kk => XS.iload X.here hx rfl (hb hby at_123) rfl  kk) ?_
        show Go p e below _ (T.setTop (mkF m 125 #[.val (.int p1), .val (.int p2), .val (.int p3), .val (.int p4), .val (.ref b5), .val (.ref b10), .val (.ref x), .val (.int (p4 &&& (3 : Int32))), .val (.int (0 : Int32)), .val (.ref x), .val .null, .val (.int (((p1.toUInt32 >>> ((2 : Int32) &&& 31).toUInt32).toInt32) &&& (3 : Int32))), .unset] [(.int (((p1.toUInt32 >>> ((2 : Int32) &&& 31).toUInt32).toInt32) &&& (3 : Int32)))]))
        by_cases hc_3 : (((p1.toUInt32 >>> ((2 : Int32) &&& 31).toUInt32).toInt32) &&& (3 : Int32)) = (0 : Int32)
        · skip
          refine Go.st (fun _ kk => XS.ifNo X.here hx rfl (hb hby at_125) rfl ((if0 _ _).trans (teq hc_3).2) kk) ?_
          show Go p e below _ (T.setTop (mkF m 128 #[.val (.int p1), .val (.int p2), .val (.int p3), .val (.int p4), .val (.ref b5), .val (.ref b10), .val (.ref x), .val (.int (p4 &&& (3 : Int32))), .val (.int (0 : Int32)), .val (.ref x), .val .null, .val (.int (((p1.toUInt32 >>> ((2 : Int32) &&& 31).toUInt32).toInt32) &&& (3 : Int32))), .unset] []))
          have f_11 := (staKeep0 S_ATTRIBUTE K)
          obtain ⟨T12, X12, e12, st12⟩ := getS2 X hx hZ hown (host := "") (Or.inl (hw _ (List.mem_of_getElem? (i := 27) rfl))) Via.refl eT f_11 (g := (mkF m 128 #[.val (.int p1), .val (.int p2), .val (.int p3), .val (.int p4), .val (.ref b5), .val (.ref b10), .val (.ref x), .val (.int (p4 &&& (3 : Int32))), .val (.int (0 : Int32)), .val (.ref x), .val .null, .val (.int (((p1.toUInt32 >>> ((2 : Int32) &&& 31).toUInt32).toInt32) &&& (3 : Int32))), .unset] [])) rfl (hb hby at_128)
          refine Go.st st12 ?_
          show Go p e below _ (T12.setTop (mkF m 131 #[.val (.int p1), .val (.int p2), .val (.int p3), .val (.int p4), .val (.ref b5), .val (.ref b10), .val (.ref x), .val (.int (p4 &&& (3 : Int32))), .val (.int (0 : Int32)), .val (.ref x), .val .null, .val (.int (((p1.toUInt32 >>> ((2 : Int32) &&& 31).toUInt32).toInt32) &&& (3 : Int32))), .unset] [(.ref w_ATTRIBUTE)]))
          refine Go.st (fun _ kk => XS.goto X12.here hx rfl (pc0 := 131) (pc' := 149) rfl (hb hby at_131) (by decide) (by decide) kk) ?_
          show Go p e below _ (T12.setTop (mkF m 149 #[.val (.int p1), .val (.int p2), .val (.int p3), .val (.int p4), .val (.ref b5), .val (.ref b10), .val (.ref x), .val (.int (p4 &&& (3 : Int32))), .val (.int (0 : Int32)), .val (.ref x), .val .null, .val (.int (((p1.toUInt32 >>> ((2 : Int32) &&& 31).toUInt32).toInt32) &&& (3 : Int32))), .unset] [(.ref w_ATTRIBUTE)]))
          refine Go.st (fun _ kk => XS.astore X12.here hx rfl (hb hby at_149) rfl rfl (l' := #[.val (.int p1), .val (.int p2), .val (.int p3), .val (.int p4), .val (.ref b5), .val (.ref b10), .val (.ref x), .val (.int (p4 &&& (3 : Int32))), .val (.int (0 : Int32)), .val (.ref x), .val .null, .val (.int (((p1.toUInt32 >>> ((2 : Int32) &&& 31).toUInt32).toInt32) &&& (3 : Int32))), .val (.ref w_ATTRIBUTE)]) rfl kk) ?_
          show Go p e below _ (T12.setTop (mkF m 151 #[.val (.int p1), .val (.int p2), .val (.int p3), .val (.int p4), .val (.ref b5), .val (.ref b10), .val (.ref x), .val (.int (p4 &&& (3 : Int32))), .val (.int (0 : Int32)), .val (.ref x), .val .null, .val (.int (((p1.toUInt32 >>> ((2 : Int32) &&& 31).toUInt32).toInt32) &&& (3 : Int32))), .val (.ref w_ATTRIBUTE)] []))
          obtain ⟨T13, h13, X13, e13, E13, A13, D13, -, st13⟩ := newO X12 hx hZ hown (hw _ (List.mem_of_getElem? (i := 30) rfl)) (hw _ (List.mem_of_getElem? (i := 31) rfl)) (hw _ (List.mem_of_getElem? (i := 32) rfl)) e12 (g := (mkF m 151 #[.val (.int p1), .val (.int p2), .val (.int p3), .val (.int p4), .val (.ref b5), .val (.ref b10), .val (.ref x), .val (.int (p4 &&& (3 : Int32))), .val (.int (0 : Int32)), .val (.ref x), .val .null, .val (.int (((p1.toUInt32 >>> ((2 : Int32) &&& 31).toUInt32).toInt32) &&& (3 : Int32))), .val (.ref w_ATTRIBUTE)] [])) rfl (hb hby at_151) (by decide) (by decide)
          obtain ⟨b13, g13⟩ : ∃ z, z = h.size := ⟨_, rfl⟩
          rw [← g13] at A13 D13 st13
          refine Go.st st13 ?_
          have g_b13 : n0 ≤ b13 := Nat.le_trans (Nat.le_trans Z0 K.1) (Nat.le_of_eq g13.symm)
          have sz_b13 : h0.size ≤ b13 := Nat.le_trans K.1 (Nat.le_of_eq g13.symm)
          have K13 : Keep h0 h13 [] := K.ext E13
          have E_b13 : Exa Z h13 b13 "com/example/mergewell/mergewell/core/Feature" := A13
          have F_name_b13 : Fld Z h13 b13 "com/example/mergewell/mergewell/core/Feature" "name" "Ljava/lang/String;" .null := D13 (Or.inr (hw _ (List.mem_of_getElem? (i := 57) rfl))) (ty := (.object "java/lang/String")) (by decide)
          have F_kind_b13 : Fld Z h13 b13 "com/example/mergewell/mergewell/core/Feature" "kind" "Lcom/example/mergewell/mergewell/core/Feature$Kind;" .null := D13 (Or.inr (hw _ (List.mem_of_getElem? (i := 59) rfl))) (ty := (.object "com/example/mergewell/mergewell/core/Feature$Kind")) (by decide)
          have F_many_b13 : Fld Z h13 b13 "com/example/mergewell/mergewell/core/Feature" "many" "Z" (.int (0 : Int32)) := D13 (Or.inr (hw _ (List.mem_of_getElem? (i := 61) rfl))) (ty := .boolean) (by decide)
          have F_ordered_b13 : Fld Z h13 b13 "com/example/mergewell/mergewell/core/Feature" "ordered" "Z" (.int (0 : Int32)) := D13 (Or.inr (hw _ (List.mem_of_getElem? (i := 63) rfl))) (ty := .boolean) (by decide)
          have F_singleOpposite_b13 : Fld Z h13 b13 "com/example/mergewell/mergewell/core/Feature" "singleOpposite" "Ljava/lang/String;" .null := D13 (Or.inr (hw _ (List.mem_of_getElem? (i := 65) rfl))) (ty := (.object "java/lang/String")) (by decide)
          show Go p e below _ (T13.setTop (mkF m 154 #[.val (.int p1), .val (.int p2), .val (.int p3), .val (.int p4), .val (.ref b5), .val (.ref b10), .val (.ref x), .val (.int (p4 &&& (3 : Int32))), .val (.int (0 : Int32)), .val (.ref x), .val .null, .val (.int (((p1.toUInt32 >>> ((2 : Int32) &&& 31).toUInt32).toInt32) &&& (3 : Int32))), .val (.ref w_ATTRIBUTE)] [(.ref b13)]))
          refine Go.st (fun _ kk => XS.dup X13.here hx rfl (hb hby at_154) rfl rfl kk) ?_
          show Go p e below _ (T13.setTop (mkF m 155 #[.val (.int p1), .val (.int p2), .val (.int p3), .val (.int p4), .val (.ref b5), .val (.ref b10), .val (.ref x), .val (.int (p4 &&& (3 : Int32))), .val (.int (0 : Int32)), .val (.ref x), .val .null, .val (.int (((p1.toUInt32 >>> ((2 : Int32) &&& 31).toUInt32).toInt32) &&& (3 : Int32))), .val (.ref w_ATTRIBUTE)] [(.ref b13), (.ref b13)]))
          refine Go.st (fun _ kk => XS.aload X13.here hx rfl (hb hby at_155) rfl rfl  kk) ?_
          show Go p e below _ (T13.setTop (mkF m 157 #[.val (.int p1), .val (.int p2), .val (.int p3), .val (.int p4), .val (.ref b5), .val (.ref b10), .val (.ref x), .val (.int (p4 &&& (3 : Int32))), .val (.int (0 : Int32)), .val (.ref x), .val .null, .val (.int (((p1.toUInt32 >>> ((2 : Int32) &&& 31).toUInt32).toInt32) &&& (3 : Int32))), .val (.ref w_ATTRIBUTE)] [(.ref x), (.ref b13), (.ref b13)]))
          refine Go.st (fun _ kk => XS.aload X13.here hx rfl (hb hby at_157) rfl rfl  kk) ?_
          show Go p e below _ (T13.setTop (mkF m 159 #[.val (.int p1), .val (.int p2), .val (.int p3), .val (.int p4), .val (.ref b5), .val (.ref b10), .val (.ref x), .val (.int (p4 &&& (3 : Int32))), .val (.int (0 : Int32)), .val (.ref x), .val .null, .val (.int (((p1.toUInt32 >>> ((2 : Int32) &&& 31).toUInt32).toInt32) &&& (3 : Int32))), .val (.ref w_ATTRIBUTE)] [(.ref w_ATTRIBUTE), (.ref x), (.ref b13), (.ref b13)]))
          refine Go.st (fun _ kk => XS.iloadN X13.here hx rfl (hb hby at_159) rfl  kk) ?_
          show Go p e below _ (T13.setTop (mkF m 160 #[.val (.int p1), .val (.int p2), .val (.int p3), .val (.int p4), .val (.ref b5), .val (.ref b10), .val (.ref x), .val (.int (p4 &&& (3 : Int32))), .val (.int (0 : Int32)), .val (.ref x), .val .null, .val (.int (((p1.toUInt32 >>> ((2 : Int32) &&& 31).toUInt32).toInt32) &&& (3 : Int32))), .val (.ref w_ATTRIBUTE)] [(.int p1), (.ref w_ATTRIBUTE), (.ref x), (.ref b13), (.ref b13)]))
          refine Go.st (fun _ kk => XS.bipush X13.here hx rfl (hb hby at_160) kk) ?_
          show Go p e below _ (T13.setTop (mkF m 162 #[.val (.int p1), .val (.int p2), .val (.int p3), .val (.int p4), .val (.ref b5), .val (.ref b10), .val (.ref x), .val (.int (p4 &&& (3 : Int32))), .val (.int (0 : Int32)), .val (.ref x), .val .null, .val (.int (((p1.toUInt32 >>> ((2 : Int32) &&& 31).toUInt32).toInt32) &&& (3 : Int32))), .val (.ref w_ATTRIBUTE)] [(.int (16 : Int32)), (.int p1), (.ref w_ATTRIBUTE), (.ref x), (.ref b13), (.ref b13)]))
          refine Go.st (fun _ kk => XS.iand X13.here hx rfl (hb hby at_162) rfl kk) ?_
          show Go p e below _ (T13.setTop (mkF m 163 #[.val (.int p1), .val (.int p2), .val (.int p3), .val (.int p4), .val (.ref b5), .val (.ref b10), .val (.ref x), .val (.int (p4 &&& (3 : Int32))), .val (.int (0 : Int32)), .val (.ref x), .val .null, .val (.int (((p1.toUInt32 >>> ((2 : Int32) &&& 31).toUInt32).toInt32) &&& (3 : Int32))), .val (.ref w_ATTRIBUTE)] [(.int (p1 &&& (16 : Int32))), (.ref w_ATTRIBUTE), (.ref x), (.ref b13), (.ref b13)]))
          have dia14 : ∀ t, Steps p.tables e below (T13.setTop (mkF m 171 #[.val (.int p1), .val (.int p2), .val (.int p3), .val (.int p4), .val (.ref b5), .val (.ref b10), .val (.ref x), .val (.int (p4 &&& (3 : Int32))), .val (.int (0 : Int32)), .val (.ref x), .val .null, .val (.int (((p1.toUInt32 >>> ((2 : Int32) &&& 31).toUInt32).toInt32) &&& (3 : Int32))), .val (.ref w_ATTRIBUTE)] [(.int (if (p1 &&& (16 : Int32)) = (0 : Int32) then (0 : Int32) else (1 : Int32))), (.ref w_ATTRIBUTE), (.ref x), (.ref b13), (.ref b13)])) t → Steps p.tables e below (T13.setTop (mkF m 163 #[.val (.int p1), .val (.int p2), .val (.int p3), .val (.int p4), .val (.ref b5), .val (.ref b10), .val (.ref x), .val (.int (p4 &&& (3 : Int32))), .val (.int (0 : Int32)), .val (.ref x), .val .null, .val (.int (((p1.toUInt32 >>> ((2 : Int32) &&& 31).toUInt32).toInt32) &&& (3 : Int32))), .val (.ref w_ATTRIBUTE)] [(.int (p1 &&& (16 : Int32))), (.ref w_ATTRIBUTE), (.ref x), (.ref b13), (.ref b13)])) t := by
            intro t kk
            by_cases hd14 : (p1 &&& (16 : Int32)) = (0 : Int32)
            · rw [if_pos hd14] at kk
              refine XS.ifYes X13.here hx rfl (pc0 := 163) (pc' := 170) rfl (hb hby at_163) rfl ((if0 _ _).trans (teq hd14).1) (by decide) (by decide) ?_
              show Steps p.tables e below (T13.setTop (mkF m 170 #[.val (.int p1), .val (.int p2), .val (.int p3), .val (.int p4), .val (.ref b5), .val (.ref b10), .val (.ref x), .val (.int (p4 &&& (3 : Int32))), .val (.int (0 : Int32)), .val (.ref x), .val .null, .val (.int (((p1.toUInt32 >>> ((2 : Int32) &&& 31).toUInt32).toInt32) &&& (3 : Int32))), .val (.ref w_ATTRIBUTE)] [(.ref w_ATTRIBUTE), (.ref x), (.ref b13), (.ref b13)])) t
              refine XS.iconst X13.here hx rfl (hb hby at_170) ?_
              show Steps p.tables e below (T13.setTop (mkF m 171 #[.val (.int p1), .val (.int p2), .val (.int p3), .val (.int p4), .val (.ref b5), .val (.ref b10), .val (.ref x), .val (.int (p4 &&& (3 : Int32))), .val (.int (0 : Int32)), .val (.ref x), .val .null, .val (.int (((p1.toUInt32 >>> ((2 : Int32) &&& 31).toUInt32).toInt32) &&& (3 : Int32))), .val (.ref w_ATTRIBUTE)] [(.int (0 : Int32)), (.ref w_ATTRIBUTE), (.ref x), (.ref b13), (.ref b13)])) t
              exact kk
            · rw [if_neg hd14] at kk
              refine XS.ifNo X13.here hx rfl (hb hby at_163) rfl ((if0 _ _).trans (feq hd14).1) ?_
              show Steps p.tables e below (T13.setTop (mkF m 166 #[.val (.int p1), .val (.int p2), .val (.int p3), .val (.int p4), .val (.ref b5), .val (.ref b10), .val (.ref x), .val (.int (p4 &&& (3 : Int32))), .val (.int (0 : Int32)), .val (.ref x), .val .null, .val (.int (((p1.toUInt32 >>> ((2 : Int32) &&& 31).toUInt32).toInt32) &&& (3 : Int32))), .val (.ref w_ATTRIBUTE)] [(.ref w_ATTRIBUTE), (.ref x), (.ref b13), (.ref b13)])) t
              refine XS.iconst X13.here hx rfl (hb hby at_166) ?_
              show Steps p.tables e below (T13.setTop (mkF m 167 #[.val (.int p1), .val (.int p2), .val (.int p3), .val (.int p4), .val (.ref b5), .val (.ref b10), .val (.ref x), .val (.int (p4 &&& (3 : Int32))), .val (.int (0 : Int32)), .val (.ref x), .val .null, .val (.int (((p1.toUInt32 >>> ((2 : Int32) &&& 31).toUInt32).toInt32) &&& (3 : Int32))), .val (.ref w_ATTRIBUTE)] [(.int (1 : Int32)), (.ref w_ATTRIBUTE), (.ref x), (.ref b13), (.ref b13)])) t
              refine XS.goto X13.here hx rfl (pc0 := 167) (pc' := 171) rfl (hb hby at_167) (by decide) (by decide) ?_
              show Steps p.tables e below (T13.setTop (mkF m 171 #[.val (.int p1), .val (.int p2), .val (.int p3), .val (.int p4), .val (.ref b5), .val (.ref b10), .val (.ref x), .val (.int (p4 &&& (3 : Int32))), .val (.int (0 : Int32)), .val (.ref x), .val .null, .val (.int (((p1.toUInt32 >>> ((2 : Int32) &&& 31).toUInt32).toInt32) &&& (3 : Int32))), .val (.ref w_ATTRIBUTE)] [(.int (1 : Int32)), (.ref w_ATTRIBUTE), (.ref x), (.ref b13), (.ref b13)])) t
              exact kk
          refine Go.st dia14 ?_
          show Go p e below _ (T13.setTop (mkF m 171 #[.val (.int p1), .val (.int p2), .val (.int p3), .val (.int p4), .val (.ref b5), .val (.ref b10), .val (.ref x), .val (.int (p4 &&& (3 : Int32))), .val (.int (0 : Int32)), .val (.ref x), .val .null, .val (.int (((p1.toUInt32 >>> ((2 : Int32) &&& 31).toUInt32).toInt32) &&& (3 : Int32))), .val (.ref w_ATTRIBUTE)] [(.int (if (p1 &&& (16 : Int32)) = (0 : Int32) then (0 : Int32) else (1 : Int32))), (.ref w_ATTRIBUTE), (.ref x), (.ref b13), (.ref b13)]))
          have hk := (Nat.le_trans hk E13.1)
          obtain ⟨_, _, ⟨T15, L15, k15, n15⟩, -, X15, hS15, hG15, ⟨Lc15, hQ15, l15, y15, z15⟩, st15⟩ := X13.specialBackS hx (y := (⟨"com/example/mergewell/mergewell/core/Feature", "<init>", "(Ljava/lang/String;Lcom/example/mergewell/mergewell/core/Feature$Kind;Z)V"⟩ : MethodName)) rfl hown (mvT hZ (hw _ (List.mem_of_getElem? (i := 33) rfl))) (mvT hZ (hw _ (List.mem_of_getElem? (i := 34) rfl))) (mvT hZ (hw _ (List.mem_of_getElem? (i := 35) rfl))) (by decide) (backOfS (W := 1) (rm6_o l Z a0 hw [] b13 x w_ATTRIBUTE (if (p1 &&& (16 : Int32)) = (0 : Int32) then (0 : Int32) else (1 : Int32)) .null .null (.int (0 : Int32)) (.int (0 : Int32)) .null h13 n0 (Nat.le_trans Z0 K13.1) E_b13 F_name_b13 g_b13 F_kind_b13 F_many_b13 F_ordered_b13 F_singleOpposite_b13) hZ (hw _ (List.mem_of_getElem? (i := 35) rfl)) (hw _ (List.mem_of_getElem? (i := 32) rfl)) (by decide) (by decide)) (g := (mkF m 171 #[.val (.int p1), .val (.int p2), .val (.int p3), .val (.int p4), .val (.ref b5), .val (.ref b10), .val (.ref x), .val (.int (p4 &&& (3 : Int32))), .val (.int (0 : Int32)), .val (.ref x), .val .null, .val (.int (((p1.toUInt32 >>> ((2 : Int32) &&& 31).toUInt32).toInt32) &&& (3 : Int32))), .val (.ref w_ATTRIBUTE)] [(.int (if (p1 &&& (16 : Int32)) = (0 : Int32) then (0 : Int32) else (1 : Int32))), (.ref w_ATTRIBUTE), (.ref x), (.ref b13), (.ref b13)])) rfl (by rw [hml]; rfl) (Steps.refl _) (a := b13) (argsL := [(.ref x), (.ref w_ATTRIBUTE), (.int (if (p1 &&& (16 : Int32)) = (0 : Int32) then (0 : Int32) else (1 : Int32)))]) (rest := [(.ref b13)]) (lenOf pd_11 rfl) rfl (by show 2 * 0 + _ ≤ _; exact Nat.le_of_eq rfl) (hb hby at_171) (fun _ _ => ⟨rfl, e13, (by decide : 13 + 4 ≤ _), (by decide : 65 + 40 ≤ _)⟩)
          dsimp only [Pt.U, Pt.locs, Pt.cells, Pt.slots] at X15 l15 y15 z15 st15 hQ15 hS15 hG15
          subst l15 y15 z15
          obtain ⟨X15, hS, hZ, hown⟩ := rebS hS (by rw [e13]; exact hk) X15 hS15 hG15 hZ hown
          have hk := Nat.le_refl T15.heap.size
          obtain ⟨rfl, N15q, Kc15, P15_0⟩ := hQ15
          have K15 : Keep h0 T15.heap [] := K13.trans Kc15 (allS (Or.inr sz_b13) all0)
          have N15 := Fr.app N N15q
          refine Go.tr st15 ?_
          show Go p e below _ (T15.setTop (mkF m 174 #[.val (.int p1), .val (.int p2), .val (.int p3), .val (.int p4), .val (.ref b5), .val (.ref b10), .val (.ref x), .val (.int (p4 &&& (3 : Int32))), .val (.int (0 : Int32)), .val (.ref x), .val .null, .val (.int (((p1.toUInt32 >>> ((2 : Int32) &&& 31).toUInt32).toInt32) &&& (3 : Int32))), .val (.ref w_ATTRIBUTE)] [(.ref b13)]))
          refine Go.st (fun _ kk => XS.astore X15.here hx rfl (hb hby at_174) rfl rfl (l' := #[.val (.int p1), .val (.int p2), .val (.int p3), .val (.int p4), .val (.ref b5), .val (.ref b10), .val (.ref x), .val (.int (p4 &&& (3 : Int32))), .val (.int (0 : Int32)), .val (.ref x), .val (.ref b13), .val (.int (((p1.toUInt32 >>> ((2 : Int32) &&& 31).toUInt32).toInt32) &&& (3 : Int32))), .val (.ref w_ATTRIBUTE)]) rfl kk) ?_
          show Go p e below _ (T15.setTop (mkF m 176 #[.val (.int p1), .val (.int p2), .val (.int p3), .val (.int p4), .val (.ref b5), .val (.ref b10), .val (.ref x), .val (.int (p4 &&& (3 : Int32))), .val (.int (0 : Int32)), .val (.ref x), .val (.ref b13), .val (.int (((p1.toUInt32 >>> ((2 : Int32) &&& 31).toUInt32).toInt32) &&& (3 : Int32))), .val (.ref w_ATTRIBUTE)] []))
          obtain ⟨T16, h16, X16, e16, E16, A16, D16, -, st16⟩ := newO X15 hx hZ hown (hw _ (List.mem_of_getElem? (i := 66) rfl)) (hw _ (List.mem_of_getElem? (i := 67) rfl)) (hw _ (List.mem_of_getElem? (i := 68) rfl)) rfl (g := (mkF m 176 #[.val (.int p1), .val (.int p2), .val (.int p3), .val (.int p4), .val (.ref b5), .val (.ref b10), .val (.ref x), .val (.int (p4 &&& (3 : Int32))), .val (.int (0 : Int32)), .val (.ref x), .val (.ref b13), .val (.int (((p1.toUInt32 >>> ((2 : Int32) &&& 31).toUInt32).toInt32) &&& (3 : Int32))), .val (.ref w_ATTRIBUTE)] [])) rfl (hb hby at_176) (by decide) (by decide)
          obtain ⟨b16, g16⟩ : ∃ z, z = T15.heap.size := ⟨_, rfl⟩
          rw [← g16] at A16 D16 st16
          refine Go.st st16 ?_
          have g_b16 : n0 ≤ b16 := Nat.le_trans (Nat.le_trans Z0 K15.1) (Nat.le_of_eq g16.symm)
          have sz_b16 : h0.size ≤ b16 := Nat.le_trans K15.1 (Nat.le_of_eq g16.symm)
          have lt_b13_b16 : b13 < b16 := Nat.lt_of_lt_of_le P15_0.lt (Nat.le_of_eq g16.symm)
          have K16 : Keep h0 h16 [] := K15.ext E16
          have E_b16 : Exa Z h16 b16 "com/example/mergewell/mergewell/core/Slot" := A16
          have F_owner_b16 : Fld Z h16 b16 "com/example/mergewell/mergewell/core/Slot" "owner" "Ljava/lang/String;" .null := D16 (Or.inr (hw _ (List.mem_of_getElem? (i := 74) rfl))) (ty := (.object "java/lang/String")) (by decide)
          have F_feature_b16 : Fld Z h16 b16 "com/example/mergewell/mergewell/core/Slot" "feature" "Lcom/example/mergewell/mergewell/core/Feature;" .null := D16 (Or.inr (hw _ (List.mem_of_getElem? (i := 76) rfl))) (ty := (.object "com/example/mergewell/mergewell/core/Feature")) (by decide)
          show Go p e below _ (T16.setTop (mkF m 179 #[.val (.int p1), .val (.int p2), .val (.int p3), .val (.int p4), .val (.ref b5), .val (.ref b10), .val (.ref x), .val (.int (p4 &&& (3 : Int32))), .val (.int (0 : Int32)), .val (.ref x), .val (.ref b13), .val (.int (((p1.toUInt32 >>> ((2 : Int32) &&& 31).toUInt32).toInt32) &&& (3 : Int32))), .val (.ref w_ATTRIBUTE)] [(.ref b16)]))
          refine Go.st (fun _ kk => XS.dup X16.here hx rfl (hb hby at_179) rfl rfl kk) ?_
          show Go p e below _ (T16.setTop (mkF m 180 #[.val (.int p1), .val (.int p2), .val (.int p3), .val (.int p4), .val (.ref b5), .val (.ref b10), .val (.ref x), .val (.int (p4 &&& (3 : Int32))), .val (.int (0 : Int32)), .val (.ref x), .val (.ref b13), .val (.int (((p1.toUInt32 >>> ((2 : Int32) &&& 31).toUInt32).toInt32) &&& (3 : Int32))), .val (.ref w_ATTRIBUTE)] [(.ref b16), (.ref b16)]))
          refine Go.st (fun _ kk => XS.aload X16.here hx rfl (hb hby at_180) rfl rfl  kk) ?_
          show Go p e below _ (T16.setTop (mkF m 182 #[.val (.int p1), .val (.int p2), .val (.int p3), .val (.int p4), .val (.ref b5), .val (.ref b10), .val (.ref x), .val (.int (p4 &&& (3 : Int32))), .val (.int (0 : Int32)), .val (.ref x), .val (.ref b13), .val (.int (((p1.toUInt32 >>> ((2 : Int32) &&& 31).toUInt32).toInt32) &&& (3 : Int32))), .val (.ref w_ATTRIBUTE)] [(.ref x), (.ref b16), (.ref b16)]))
          refine Go.st (fun _ kk => XS.aload X16.here hx rfl (hb hby at_182) rfl rfl  kk) ?_
          show Go p e below _ (T16.setTop (mkF m 184 #[.val (.int p1), .val (.int p2), .val (.int p3), .val (.int p4), .val (.ref b5), .val (.ref b10), .val (.ref x), .val (.int (p4 &&& (3 : Int32))), .val (.int (0 : Int32)), .val (.ref x), .val (.ref b13), .val (.int (((p1.toUInt32 >>> ((2 : Int32) &&& 31).toUInt32).toInt32) &&& (3 : Int32))), .val (.ref w_ATTRIBUTE)] [(.ref b13), (.ref x), (.ref b16), (.ref b16)]))
          obtain ⟨_, _, ⟨T17, L17, k17, n17⟩, -, X17, ⟨Lc17, hQ17, l17, y17, z17⟩, st17⟩ := X16.specialBack hx (y := (⟨"com/example/mergewell/mergewell/core/Slot", "<init>", "(Ljava/lang/String;Lcom/example/mergewell/mergewell/core/Feature;)V"⟩ : MethodName)) rfl hown (mvT hZ (hw _ (List.mem_of_getElem? (i := 69) rfl))) (mvT hZ (hw _ (List.mem_of_getElem? (i := 70) rfl))) (mvT hZ (hw _ (List.mem_of_getElem? (i := 71) rfl))) (by decide) (backOf (W := 1) (rm11bb_o l Z a0 hw [] b16 x b13 .null .null h16 n0 (Nat.le_trans Z0 K16.1) E_b16 F_owner_b16 g_b16 F_feature_b16) hZ (hw _ (List.mem_of_getElem? (i := 71) rfl)) (hw _ (List.mem_of_getElem? (i := 68) rfl)) (by decide) (by decide)) (g := (mkF m 184 #[.val (.int p1), .val (.int p2), .val (.int p3), .val (.int p4), .val (.ref b5), .val (.ref b10), .val (.ref x), .val (.int (p4 &&& (3 : Int32))), .val (.int (0 : Int32)), .val (.ref x), .val (.ref b13), .val (.int (((p1.toUInt32 >>> ((2 : Int32) &&& 31).toUInt32).toInt32) &&& (3 : Int32))), .val (.ref w_ATTRIBUTE)] [(.ref b13), (.ref x), (.ref b16), (.ref b16)])) rfl (by rw [hml]; rfl) (Steps.refl _) (a := b16) (argsL := [(.ref x), (.ref b13)]) (rest := [(.ref b16)]) (lenOf pd_12 rfl) rfl (by show 2 * 0 + _ ≤ _; exact Nat.le_of_eq rfl) (hb hby at_184) (fun _ _ => ⟨rfl, e16, (by decide : 18 + 0 ≤ _), (by decide : 107 + 0 ≤ _)⟩)
          dsimp only [Pt.U, Pt.locs, Pt.cells, Pt.slots] at X17 l17 y17 z17 st17 hQ17
          subst l17 y17 z17
          obtain ⟨rfl, N17q, Kc17, P17_0, P17_1⟩ := hQ17
          have K17 : Keep h0 T17.heap [] := K16.trans Kc17 (allS (Or.inr sz_b16) all0)
          have N17 := Fr.app N15 N17q
          refine Go.tr st17 ?_
          show Go p e below _ (T17.setTop (mkF m 187 #[.val (.int p1), .val (.int p2), .val (.int p3), .val (.int p4), .val (.ref b5), .val (.ref b10), .val (.ref x), .val (.int (p4 &&& (3 : Int32))), .val (.int (0 : Int32)), .val (.ref x), .val (.ref b13), .val (.int (((p1.toUInt32 >>> ((2 : Int32) &&& 31).toUInt32).toInt32) &&& (3 : Int32))), .val (.ref w_ATTRIBUTE)] [(.ref b16)]))
          refine Go.st (fun _ kk => XS.astore X17.here hx rfl (hb hby at_187) rfl rfl (l' := #[.val (.int p1), .val (.int p2), .val (.int p3), .val (.int p4), .val (.ref b5), .val (.ref b10), .val (.ref x), .val (.int (p4 &&& (3 : Int32))), .val (.int (0 : Int32)), .val (.ref x), .val (.ref b13), .val (.ref b16), .val (.ref w_ATTRIBUTE)]) rfl kk) ?_
          show Go p e below _ (T17.setTop (mkF m 189 #[.val (.int p1), .val (.int p2), .val (.int p3), .val (.int p4), .val (.ref b5), .val (.ref b10), .val (.ref x), .val (.int (p4 &&& (3 : Int32))), .val (.int (0 : Int32)), .val (.ref x), .val (.ref b13), .val (.ref b16), .val (.ref w_ATTRIBUTE)] []))
          refine Go.st (fun _ kk => XS.aload X17.here hx rfl (hb hby at_189) rfl rfl  kk) ?_
          show Go p e below _ (T17.setTop (mkF m 191 #[.val (.int p1), .val (.int p2), .val (.int p3), .val (.int p4), .val (.ref b5), .val (.ref b10), .val (.ref x), .val (.int (p4 &&& (3 : Int32))), .val (.int (0 : Int32)), .val (.ref x), .val (.ref b13), .val (.ref b16), .val (.ref w_ATTRIBUTE)] [(.ref b16)]))
          obtain ⟨cq18, kq18, q18a, q18b, q18c⟩ := isOf hZ rfl P17_0
          obtain ⟨_, _, ⟨T18, L18, k18, n18⟩, -, X18, ⟨Lc18, hQ18, l18, y18, z18⟩, st18⟩ := X17.virtualBack hx (y := (⟨"com/example/mergewell/mergewell/core/Slot", "isRoot", "()Z"⟩ : MethodName)) (z := (⟨"com/example/mergewell/mergewell/core/Slot", "isRoot", "()Z"⟩ : MethodName)) hown (mvT hZ (hw _ (List.mem_of_getElem? (i := 77) rfl))) (mvT hZ (hw _ (List.mem_of_getElem? (i := 78) rfl))) (notFace_of_selects (args := #[]) (mvT hZ (hw _ (List.mem_of_getElem? (i := 80) rfl)))) (mvT hZ (hw _ (List.mem_of_getElem? (i := 80) rfl))) (mvT hZ (hw _ (List.mem_of_getElem? (i := 79) rfl))) (by decide) (backOf (W := 0) (rm12_o l Z a0 hw [] b16 x T17.heap n0 (Nat.le_trans Z0 K17.1) P17_1) hZ (hw _ (List.mem_of_getElem? (i := 81) rfl)) (hw _ (List.mem_of_getElem? (i := 68) rfl)) (by decide) (by decide)) q18a q18c (g := (mkF m 191 #[.val (.int p1), .val (.int p2), .val (.int p3), .val (.int p4), .val (.ref b5), .val (.ref b10), .val (.ref x), .val (.int (p4 &&& (3 : Int32))), .val (.int (0 : Int32)), .val (.ref x), .val (.ref b13), .val (.ref b16), .val (.ref w_ATTRIBUTE)] [(.ref b16)])) rfl (by rw [hml]; rfl) (Steps.refl _) (argsL := []) (rest := []) (lenOf pd_13 rfl) rfl (by show 2 * 0 + _ ≤ _; exact Nat.le_of_eq rfl) (hb hby at_191) (fun _ _ => ⟨rfl, rfl, (by decide : 18 + 0 ≤ _), (by decide : 107 + 0 ≤ _)⟩)
          dsimp only [Pt.U, Pt.locs, Pt.cells, Pt.slots] at X18 l18 y18 z18 st18 hQ18
          subst l18 y18 z18
          obtain ⟨rfl, N18q, eq18⟩ := hQ18
          have N18 := Fr.app N17 N18q
          refine Go.tr st18 ?_
          show Go p e below _ (T18.setTop (mkF m 194 #[.val (.int p1), .val (.int p2), .val (.int p3), .val (.int p4), .val (.ref b5), .val (.ref b10), .val (.ref x), .val (.int (p4 &&& (3 : Int32))), .val (.int (0 : Int32)), .val (.ref x), .val (.ref b13), .val (.ref b16), .val (.ref w_ATTRIBUTE)] [(.int (0 : Int32))]))
          refine Go.st (fun _ kk => XS.iload X18.here hx rfl (hb hby at_194) rfl  kk) ?_
          show Go p e below _ (T18.setTop (mkF m 196 #[.val (.int p1), .val (.int p2), .val (.int p3), .val (.int p4), .val (.ref b5), .val (.ref b10), .val (.ref x), .val (.int (p4 &&& (3 : Int32))), .val (.int (0 : Int32)), .val (.ref x), .val (.ref b13), .val (.ref b16), .val (.ref w_ATTRIBUTE)] [(.int (0 : Int32)), (.int (0 : Int32))]))
          refine Go.st (fun _ kk => XS.icmpNo X18.here hx rfl (hb hby at_196) rfl (teq (by decide : ((0 : Int32) = (0 : Int32)))).2 kk) ?_
          show Go p e below _ (T18.setTop (mkF m 199 #[.val (.int p1), .val (.int p2), .val (.int p3), .val (.int p4), .val (.ref b5), .val (.ref b10), .val (.ref x), .val (.int (p4 &&& (3 : Int32))), .val (.int (0 : Int32)), .val (.ref x), .val (.ref b13), .val (.ref b16), .val (.ref w_ATTRIBUTE)] []))
          have f_19 := (staKeep0 S_ROOT K17)
          obtain ⟨T20, X20, e20, st20⟩ := getS2 X18 hx hZ hown (host := "") (Or.inl (hw _ (List.mem_of_getElem? (i := 82) rfl))) Via.refl eq18 f_19 (g := (mkF m 199 #[.val (.int p1), .val (.int p2), .val (.int p3), .val (.int p4), .val (.ref b5), .val (.ref b10), .val (.ref x), .val (.int (p4 &&& (3 : Int32))), .val (.int (0 : Int32)), .val (.ref x), .val (.ref b13), .val (.ref b16), .val (.ref w_ATTRIBUTE)] [])) rfl (hb hby at_199)
          refine Go.st st20 ?_
          show Go p e below _ (T20.setTop (mkF m 202 #[.val (.int p1), .val (.int p2), .val (.int p3), .val (.int p4), .val (.ref b5), .val (.ref b10), .val (.ref x), .val (.int (p4 &&& (3 : Int32))), .val (.int (0 : Int32)), .val (.ref x), .val (.ref b13), .val (.ref b16), .val (.ref w_ATTRIBUTE)] [(.ref w_ROOT)]))
          have f_21 := (E_w_ROOT.keep K17)
          have f_22 := (F_owner_w_ROOT.keep K17 nin0)
          obtain ⟨cq23, kq23, q23a, q23b, q23c⟩ := isOf hZ e20 f_21
          obtain ⟨_, _, ⟨T23, L23, k23, n23⟩, -, X23, ⟨Lc23, hQ23, l23, y23, z23⟩, st23⟩ := X20.virtualBack hx (y := (⟨"com/example/mergewell/mergewell/core/Slot", "isRoot", "()Z"⟩ : MethodName)) (z := (⟨"com/example/mergewell/mergewell/core/Slot", "isRoot", "()Z"⟩ : MethodName)) hown (mvT hZ (hw _ (List.mem_of_getElem? (i := 77) rfl))) (mvT hZ (hw _ (List.mem_of_getElem? (i := 78) rfl))) (notFace_of_selects (args := #[]) (mvT hZ (hw _ (List.mem_of_getElem? (i := 80) rfl)))) (mvT hZ (hw _ (List.mem_of_getElem? (i := 80) rfl))) (mvT hZ (hw _ (List.mem_of_getElem? (i := 79) rfl))) (by decide) (backOf (W := 0) (rm12n_o l Z a0 hw [] w_ROOT T17.heap n0 (Nat.le_trans Z0 K17.1) f_22) hZ (hw _ (List.mem_of_getElem? (i := 81) rfl)) (hw _ (List.mem_of_getElem? (i := 68) rfl)) (by decide) (by decide)) q23a q23c (g := (mkF m 202 #[.val (.int p1), .val (.int p2), .val (.int p3), .val (.int p4), .val (.ref b5), .val (.ref b10), .val (.ref x), .val (.int (p4 &&& (3 : Int32))), .val (.int (0 : Int32)), .val (.ref x), .val (.ref b13), .val (.ref b16), .val (.ref w_ATTRIBUTE)] [(.ref w_ROOT)])) rfl (by rw [hml]; rfl) (Steps.refl _) (argsL := []) (rest := []) (lenOf pd_13 rfl) rfl (by show 2 * 0 + _ ≤ _; exact Nat.le_of_eq rfl) (hb hby at_202) (fun _ _ => ⟨rfl, e20, (by decide : 18 + 0 ≤ _), (by decide : 107 + 0 ≤ _)⟩)
          dsimp only [Pt.U, Pt.locs, Pt.cells, Pt.slots] at X23 l23 y23 z23 st23 hQ23
          subst l23 y23 z23
          obtain ⟨rfl, N23q, eq23⟩ := hQ23
          have N23 := Fr.app N18 N23q
          refine Go.tr st23 ?_
          show Go p e below _ (T23.setTop (mkF m 205 #[.val (.int p1), .val (.int p2), .val (.int p3), .val (.int p4), .val (.ref b5), .val (.ref b10), .val (.ref x), .val (.int (p4 &&& (3 : Int32))), .val (.int (0 : Int32)), .val (.ref x), .val (.ref b13), .val (.ref b16), .val (.ref w_ATTRIBUTE)] [(.int (1 : Int32))]))
          refine Go.st (fun _ kk => XS.ifNo X23.here hx rfl (hb hby at_205) rfl ((if0 _ _).trans (feq (by decide : ¬ ((1 : Int32) = (0 : Int32)))).1) kk) ?_
          show Go p e below _ (T23.setTop (mkF m 208 #[.val (.int p1), .val (.int p2), .val (.int p3), .val (.int p4), .val (.ref b5), .val (.ref b10), .val (.ref x), .val (.int (p4 &&& (3 : Int32))), .val (.int (0 : Int32)), .val (.ref x), .val (.ref b13), .val (.ref b16), .val (.ref w_ATTRIBUTE)] []))
          refine Go.st (fun _ kk => XS.iconst X23.here hx rfl (hb hby at_208) kk) ?_
          show Go p e below _ (T23.setTop (mkF m 209 #[.val (.int p1), .val (.int p2), .val (.int p3), .val (.int p4), .val (.ref b5), .val (.ref b10), .val (.ref x), .val (.int (p4 &&& (3 : Int32))), .val (.int (0 : Int32)), .val (.ref x), .val (.ref b13), .val (.ref b16), .val (.ref w_ATTRIBUTE)] [(.int (1 : Int32))]))
          refine Go.st (fun _ kk => XS.goto X23.here hx rfl (pc0 := 209) (pc' := 213) rfl (hb hby at_209) (by decide) (by decide) kk) ?_
          show Go p e below _ (T23.setTop (mkF m 213 #[.val (.int p1), .val (.int p2), .val (.int p3), .val (.int p4), .val (.ref b5), .val (.ref b10), .val (.ref x), .val (.int (p4 &&& (3 : Int32))), .val (.int (0 : Int32)), .val (.ref x), .val (.ref b13), .val (.ref b16), .val (.ref w_ATTRIBUTE)] [(.int (1 : Int32))]))
          have hk := (Nat.le_trans (Nat.le_trans hk E16.1) Kc17.1)
          exact Go.retW (Q := Q0 n0) hS (hk) X23 (v := some (.int (1 : Int32))) (fun h => by rw [Bd.returns] at h; cases h) Bd.notSynchronized (fun fs hr => retN X23 hx (t := .boolean) Bd.returns (by simp) (hb hby at_213) hr) eq23 ⟨rfl, N23⟩ (by decide) (by decide)
        · skip
          refine Go.st (fun _ kk => XS.ifYes X.here hx rfl (pc0 := 125) (pc' := 134) rfl (hb hby at_125) rfl ((if0 _ _).trans (feq hc_3).2) (by decide) (by decide) kk) ?_
          show Go p e below _ (T.setTop (mkF m 134 #[.val (.int p1), .val (.int p2), .val (.int p3), .val (.int p4), .val (.ref b5), .val (.ref b10), .val (.ref x), .val (.int (p4 &&& (3 : Int32))), .val (.int (0 : Int32)), .val (.ref x), .val .null, .val (.int (((p1.toUInt32 >>> ((2 : Int32) &&& 31).toUInt32).toInt32) &&& (3 : Int32))), .unset] []))
          refine Go.st (fun _ kk => XS.iload X.here hx rfl (hb hby at_134) rfl  kk) ?_
          show Go p e below _ (T.setTop (mkF m 136 #[.val (.int p1), .val (.int p2), .val (.int p3), .val (.int p4), .val (.ref b5), .val (.ref b10), .val (.ref x), .val (.int (p4 &&& (3 : Int32))), .val (.int (0 : Int32)), .val (.ref x), .val .null, .val (.int (((p1.toUInt32 >>> ((2 : Int32) &&& 31).toUInt32).toInt32) &&& (3 : Int32))), .unset] [(.int (((p1.toUInt32 >>> ((2 : Int32) &&& 31).toUInt32).toInt32) &&& (3 : Int32)))]))
          refine Go.st (fun _ kk => XS.iconst X.here hx rfl (hb hby at_136) kk) ?_
          show Go p e below _ (T.setTop (mkF m 137 #[.val (.int p1), .val (.int p2), .val (.int p3), .val (.int p4), .val (.ref b5), .val (.ref b10), .val (.ref x), .val (.int (p4 &&& (3 : Int32))), .val (.int (0 : Int32)), .val (.ref x), .val .null, .val (.int (((p1.toUInt32 >>> ((2 : Int32) &&& 31).toUInt32).toInt32) &&& (3 : Int32))), .unset] [(.int (1 : Int32)), (.int (((p1.toUInt32 >>> ((2 : Int32) &&& 31).toUInt32).toInt32) &&& (3 : Int32)))]))
          by_cases hc_4 : (((p1.toUInt32 >>> ((2 : Int32) &&& 31).toUInt32).toInt32) &&& (3 : Int32)) = (1 : Int32)
          · skip
            refine Go.st (fun _ kk => XS.icmpNo X.here hx rfl (hb hby at_137) rfl (teq hc_4).2 kk) ?_
            show Go p e below _ (T.setTop (mkF m 140 #[.val (.int p1), .val (.int p2), .val (.int p3), .val (.int p4), .val (.ref b5), .val (.ref b10), .val (.ref x), .val (.int (p4 &&& (3 : Int32))), .val (.int (0 : Int32)), .val (.ref x), .val .null, .val (.int (((p1.toUInt32 >>> ((2 : Int32) &&& 31).toUInt32).toInt32) &&& (3 : Int32))), .unset] []))
            have f_11 := (staKeep0 S_REFERENCE K)
            obtain ⟨T12, X12, e12, st12⟩ := getS2 X hx hZ hown (host := "") (Or.inl (hw _ (List.mem_of_getElem? (i := 104) rfl))) Via.refl eT f_11 (g := (mkF m 140 #[.val (.int p1), .val (.int p2), .val (.int p3), .val (.int p4), .val (.ref b5), .val (.ref b10), .val (.ref x), .val (.int (p4 &&& (3 : Int32))), .val (.int (0 : Int32)), .val (.ref x), .val .null, .val (.int (((p1.toUInt32 >>> ((2 : Int32) &&& 31).toUInt32).toInt32) &&& (3 : Int32))), .unset] [])) rfl (hb hby at_140)
            refine Go.st st12 ?_
            show Go p e below _ (T12.setTop (mkF m 143 #[.val (.int p1), .val (.int p2), .val (.int p3), .val (.int p4), .val (.ref b5), .val (.ref b10), .val (.ref x), .val (.int (p4 &&& (3 : Int32))), .val (.int (0 : Int32)), .val (.ref x), .val .null, .val (.int (((p1.toUInt32 >>> ((2 : Int32) &&& 31).toUInt32).toInt32) &&& (3 : Int32))), .unset] [(.ref w_REFERENCE)]))
            refine Go.st (fun _ kk => XS.goto X12.here hx rfl (pc0 := 143) (pc' := 149) rfl (hb hby at_143) (by decide) (by decide) kk) ?_
            show Go p e below _ (T12.setTop (mkF m 149 #[.val (.int p1), .val (.int p2), .val (.int p3), .val (.int p4), .val (.ref b5), .val (.ref b10), .val (.ref x), .val (.int (p4 &&& (3 : Int32))), .val (.int (0 : Int32)), .val (.ref x), .val .null, .val (.int (((p1.toUInt32 >>> ((2 : Int32) &&& 31).toUInt32).toInt32) &&& (3 : Int32))), .unset] [(.ref w_REFERENCE)]))
            refine Go.st (fun _ kk => XS.astore X12.here hx rfl (hb hby at_149) rfl rfl (l' := #[.val (.int p1), .val (.int p2), .val (.int p3), .val (.int p4), .val (.ref b5), .val (.ref b10), .val (.ref x), .val (.int (p4 &&& (3 : Int32))), .val (.int (0 : Int32)), .val (.ref x), .val .null, .val (.int (((p1.toUInt32 >>> ((2 : Int32) &&& 31).toUInt32).toInt32) &&& (3 : Int32))), .val (.ref w_REFERENCE)]) rfl kk) ?_
            show Go p e below _ (T12.setTop (mkF m 151 #[.val (.int p1), .val (.int p2), .val (.int p3), .val (.int p4), .val (.ref b5), .val (.ref b10), .val (.ref x), .val (.int (p4 &&& (3 : Int32))), .val (.int (0 : Int32)), .val (.ref x), .val .null, .val (.int (((p1.toUInt32 >>> ((2 : Int32) &&& 31).toUInt32).toInt32) &&& (3 : Int32))), .val (.ref w_REFERENCE)] []))
            obtain ⟨T13, h13, X13, e13, E13, A13, D13, -, st13⟩ := newO X12 hx hZ hown (hw _ (List.mem_of_getElem? (i := 30) rfl)) (hw _ (List.mem_of_getElem? (i := 31) rfl)) (hw _ (List.mem_of_getElem? (i := 32) rfl)) e12 (g := (mkF m 151 #[.val (.int p1), .val (.int p2), .val (.int p3), .val (.int p4), .val (.ref b5), .val (.ref b10), .val (.ref x), .val (.int (p4 &&& (3 : Int32))), .val (.int (0 : Int32)), .val (.ref x), .val .null, .val (.int (((p1.toUInt32 >>> ((2 : Int32) &&& 31).toUInt32).toInt32) &&& (3 : Int32))), .val (.ref w_REFERENCE)] [])) rfl (hb hby at_151) (by decide) (by decide)
            obtain ⟨b13, g13⟩ : ∃ z, z = h.size := ⟨_, rfl⟩
            rw [← g13] at A13 D13 st13
            refine Go.st st13 ?_
            have g_b13 : n0 ≤ b13 := Nat.le_trans (Nat.le_trans Z0 K.1) (Nat.le_of_eq g13.symm)
            have sz_b13 : h0.size ≤ b13 := Nat.le_trans K.1 (Nat.le_of_eq g13.symm)
            have K13 : Keep h0 h13 [] := K.ext E13
            have E_b13 : Exa Z h13 b13 "com/example/mergewell/mergewell/core/Feature" := A13
            have F_name_b13 : Fld Z h13 b13 "com/example/mergewell/mergewell/core/Feature" "name" "Ljava/lang/String;" .null := D13 (Or.inr (hw _ (List.mem_of_getElem? (i := 57) rfl))) (ty := (.object "java/lang/String")) (by decide)
            have F_kind_b13 : Fld Z h13 b13 "com/example/mergewell/mergewell/core/Feature" "kind" "Lcom/example/mergewell/mergewell/core/Feature$Kind;" .null := D13 (Or.inr (hw _ (List.mem_of_getElem? (i := 59) rfl))) (ty := (.object "com/example/mergewell/mergewell/core/Feature$Kind")) (by decide)
            have F_many_b13 : Fld Z h13 b13 "com/example/mergewell/mergewell/core/Feature" "many" "Z" (.int (0 : Int32)) := D13 (Or.inr (hw _ (List.mem_of_getElem? (i := 61) rfl))) (ty := .boolean) (by decide)
            have F_ordered_b13 : Fld Z h13 b13 "com/example/mergewell/mergewell/core/Feature" "ordered" "Z" (.int (0 : Int32)) := D13 (Or.inr (hw _ (List.mem_of_getElem? (i := 63) rfl))) (ty := .boolean) (by decide)
            have F_singleOpposite_b13 : Fld Z h13 b13 "com/example/mergewell/mergewell/core/Feature" "singleOpposite" "Ljava/lang/String;" .null := D13 (Or.inr (hw _ (List.mem_of_getElem? (i := 65) rfl))) (ty := (.object "java/lang/String")) (by decide)
            show Go p e below _ (T13.setTop (mkF m 154 #[.val (.int p1), .val (.int p2), .val (.int p3), .val (.int p4), .val (.ref b5), .val (.ref b10), .val (.ref x), .val (.int (p4 &&& (3 : Int32))), .val (.int (0 : Int32)), .val (.ref x), .val .null, .val (.int (((p1.toUInt32 >>> ((2 : Int32) &&& 31).toUInt32).toInt32) &&& (3 : Int32))), .val (.ref w_REFERENCE)] [(.ref b13)]))
            refine Go.st (fun _ kk => XS.dup X13.here hx rfl (hb hby at_154) rfl rfl kk) ?_
            show Go p e below _ (T13.setTop (mkF m 155 #[.val (.int p1), .val (.int p2), .val (.int p3), .val (.int p4), .val (.ref b5), .val (.ref b10), .val (.ref x), .val (.int (p4 &&& (3 : Int32))), .val (.int (0 : Int32)), .val (.ref x), .val .null, .val (.int (((p1.toUInt32 >>> ((2 : Int32) &&& 31).toUInt32).toInt32) &&& (3 : Int32))), .val (.ref w_REFERENCE)] [(.ref b13), (.ref b13)]))
            refine Go.st (fun _ kk => XS.aload X13.here hx rfl (hb hby at_155) rfl rfl  kk) ?_
            show Go p e below _ (T13.setTop (mkF m 157 #[.val (.int p1), .val (.int p2), .val (.int p3), .val (.int p4), .val (.ref b5), .val (.ref b10), .val (.ref x), .val (.int (p4 &&& (3 : Int32))), .val (.int (0 : Int32)), .val (.ref x), .val .null, .val (.int (((p1.toUInt32 >>> ((2 : Int32) &&& 31).toUInt32).toInt32) &&& (3 : Int32))), .val (.ref w_REFERENCE)] [(.ref x), (.ref b13), (.ref b13)]))
            refine Go.st (fun _ kk => XS.aload X13.here hx rfl (hb hby at_157) rfl rfl  kk) ?_
            show Go p e below _ (T13.setTop (mkF m 159 #[.val (.int p1), .val (.int p2), .val (.int p3), .val (.int p4), .val (.ref b5), .val (.ref b10), .val (.ref x), .val (.int (p4 &&& (3 : Int32))), .val (.int (0 : Int32)), .val (.ref x), .val .null, .val (.int (((p1.toUInt32 >>> ((2 : Int32) &&& 31).toUInt32).toInt32) &&& (3 : Int32))), .val (.ref w_REFERENCE)] [(.ref w_REFERENCE), (.ref x), (.ref b13), (.ref b13)]))
            refine Go.st (fun _ kk => XS.iloadN X13.here hx rfl (hb hby at_159) rfl  kk) ?_
            show Go p e below _ (T13.setTop (mkF m 160 #[.val (.int p1), .val (.int p2), .val (.int p3), .val (.int p4), .val (.ref b5), .val (.ref b10), .val (.ref x), .val (.int (p4 &&& (3 : Int32))), .val (.int (0 : Int32)), .val (.ref x), .val .null, .val (.int (((p1.toUInt32 >>> ((2 : Int32) &&& 31).toUInt32).toInt32) &&& (3 : Int32))), .val (.ref w_REFERENCE)] [(.int p1), (.ref w_REFERENCE), (.ref x), (.ref b13), (.ref b13)]))
            refine Go.st (fun _ kk => XS.bipush X13.here hx rfl (hb hby at_160) kk) ?_
            show Go p e below _ (T13.setTop (mkF m 162 #[.val (.int p1), .val (.int p2), .val (.int p3), .val (.int p4), .val (.ref b5), .val (.ref b10), .val (.ref x), .val (.int (p4 &&& (3 : Int32))), .val (.int (0 : Int32)), .val (.ref x), .val .null, .val (.int (((p1.toUInt32 >>> ((2 : Int32) &&& 31).toUInt32).toInt32) &&& (3 : Int32))), .val (.ref w_REFERENCE)] [(.int (16 : Int32)), (.int p1), (.ref w_REFERENCE), (.ref x), (.ref b13), (.ref b13)]))
            refine Go.st (fun _ kk => XS.iand X13.here hx rfl (hb hby at_162) rfl kk) ?_
            show Go p e below _ (T13.setTop (mkF m 163 #[.val (.int p1), .val (.int p2), .val (.int p3), .val (.int p4), .val (.ref b5), .val (.ref b10), .val (.ref x), .val (.int (p4 &&& (3 : Int32))), .val (.int (0 : Int32)), .val (.ref x), .val .null, .val (.int (((p1.toUInt32 >>> ((2 : Int32) &&& 31).toUInt32).toInt32) &&& (3 : Int32))), .val (.ref w_REFERENCE)] [(.int (p1 &&& (16 : Int32))), (.ref w_REFERENCE), (.ref x), (.ref b13), (.ref b13)]))
            have dia14 : ∀ t, Steps p.tables e below (T13.setTop (mkF m 171 #[.val (.int p1), .val (.int p2), .val (.int p3), .val (.int p4), .val (.ref b5), .val (.ref b10), .val (.ref x), .val (.int (p4 &&& (3 : Int32))), .val (.int (0 : Int32)), .val (.ref x), .val .null, .val (.int (((p1.toUInt32 >>> ((2 : Int32) &&& 31).toUInt32).toInt32) &&& (3 : Int32))), .val (.ref w_REFERENCE)] [(.int (if (p1 &&& (16 : Int32)) = (0 : Int32) then (0 : Int32) else (1 : Int32))), (.ref w_REFERENCE), (.ref x), (.ref b13), (.ref b13)])) t → Steps p.tables e below (T13.setTop (mkF m 163 #[.val (.int p1), .val (.int p2), .val (.int p3), .val (.int p4), .val (.ref b5), .val (.ref b10), .val (.ref x), .val (.int (p4 &&& (3 : Int32))), .val (.int (0 : Int32)), .val (.ref x), .val .null, .val (.int (((p1.toUInt32 >>> ((2 : Int32) &&& 31).toUInt32).toInt32) &&& (3 : Int32))), .val (.ref w_REFERENCE)] [(.int (p1 &&& (16 : Int32))), (.ref w_REFERENCE), (.ref x), (.ref b13), (.ref b13)])) t := by
              intro t kk
              by_cases hd14 : (p1 &&& (16 : Int32)) = (0 : Int32)
              · rw [if_pos hd14] at kk
                refine XS.ifYes X13.here hx rfl (pc0 := 163) (pc' := 170) rfl (hb hby at_163) rfl ((if0 _ _).trans (teq hd14).1) (by decide) (by decide) ?_
                show Steps p.tables e below (T13.setTop (mkF m 170 #[.val (.int p1), .val (.int p2), .val (.int p3), .val (.int p4), .val (.ref b5), .val (.ref b10), .val (.ref x), .val (.int (p4 &&& (3 : Int32))), .val (.int (0 : Int32)), .val (.ref x), .val .null, .val (.int (((p1.toUInt32 >>> ((2 : Int32) &&& 31).toUInt32).toInt32) &&& (3 : Int32))), .val (.ref w_REFERENCE)] [(.ref w_REFERENCE), (.ref x), (.ref b13), (.ref b13)])) t
                refine XS.iconst X13.here hx rfl (hb hby at_170) ?_
                show Steps p.tables e below (T13.setTop (mkF m 171 #[.val (.int p1), .val (.int p2), .val (.int p3), .val (.int p4), .val (.ref b5), .val (.ref b10), .val (.ref x), .val (.int (p4 &&& (3 : Int32))), .val (.int (0 : Int32)), .val (.ref x), .val .null, .val (.int (((p1.toUInt32 >>> ((2 : Int32) &&& 31).toUInt32).toInt32) &&& (3 : Int32))), .val (.ref w_REFERENCE)] [(.int (0 : Int32)), (.ref w_REFERENCE), (.ref x), (.ref b13), (.ref b13)])) t
                exact kk
              · rw [if_neg hd14] at kk
                refine XS.ifNo X13.here hx rfl (hb hby at_163) rfl ((if0 _ _).trans (feq hd14).1) ?_
                show Steps p.tables e below (T13.setTop (mkF m 166 #[.val (.int p1), .val (.int p2), .val (.int p3), .val (.int p4), .val (.ref b5), .val (.ref b10), .val (.ref x), .val (.int (p4 &&& (3 : Int32))), .val (.int (0 : Int32)), .val (.ref x), .val .null, .val (.int (((p1.toUInt32 >>> ((2 : Int32) &&& 31).toUInt32).toInt32) &&& (3 : Int32))), .val (.ref w_REFERENCE)] [(.ref w_REFERENCE), (.ref x), (.ref b13), (.ref b13)])) t
                refine XS.iconst X13.here hx rfl (hb hby at_166) ?_
                show Steps p.tables e below (T13.setTop (mkF m 167 #[.val (.int p1), .val (.int p2), .val (.int p3), .val (.int p4), .val (.ref b5), .val (.ref b10), .val (.ref x), .val (.int (p4 &&& (3 : Int32))), .val (.int (0 : Int32)), .val (.ref x), .val .null, .val (.int (((p1.toUInt32 >>> ((2 : Int32) &&& 31).toUInt32).toInt32) &&& (3 : Int32))), .val (.ref w_REFERENCE)] [(.int (1 : Int32)), (.ref w_REFERENCE), (.ref x), (.ref b13), (.ref b13)])) t
                refine XS.goto X13.here hx rfl (pc0 := 167) (pc' := 171) rfl (hb hby at_167) (by decide) (by decide) ?_
                show Steps p.tables e below (T13.setTop (mkF m 171 #[.val (.int p1), .val (.int p2), .val (.int p3), .val (.int p4), .val (.ref b5), .val (.ref b10), .val (.ref x), .val (.int (p4 &&& (3 : Int32))), .val (.int (0 : Int32)), .val (.ref x), .val .null, .val (.int (((p1.toUInt32 >>> ((2 : Int32) &&& 31).toUInt32).toInt32) &&& (3 : Int32))), .val (.ref w_REFERENCE)] [(.int (1 : Int32)), (.ref w_REFERENCE), (.ref x), (.ref b13), (.ref b13)])) t
                exact kk
            refine Go.st dia14 ?_
            show Go p e below _ (T13.setTop (mkF m 171 #[.val (.int p1), .val (.int p2), .val (.int p3), .val (.int p4), .val (.ref b5), .val (.ref b10), .val (.ref x), .val (.int (p4 &&& (3 : Int32))), .val (.int (0 : Int32)), .val (.ref x), .val .null, .val (.int (((p1.toUInt32 >>> ((2 : Int32) &&& 31).toUInt32).toInt32) &&& (3 : Int32))), .val (.ref w_REFERENCE)] [(.int (if (p1 &&& (16 : Int32)) = (0 : Int32) then (0 : Int32) else (1 : Int32))), (.ref w_REFERENCE), (.ref x), (.ref b13), (.ref b13)]))
            have hk := (Nat.le_trans hk E13.1)
            obtain ⟨_, _, ⟨T15, L15, k15, n15⟩, -, X15, hS15, hG15, ⟨Lc15, hQ15, l15, y15, z15⟩, st15⟩ := X13.specialBackS hx (y := (⟨"com/example/mergewell/mergewell/core/Feature", "<init>", "(Ljava/lang/String;Lcom/example/mergewell/mergewell/core/Feature$Kind;Z)V"⟩ : MethodName)) rfl hown (mvT hZ (hw _ (List.mem_of_getElem? (i := 33) rfl))) (mvT hZ (hw _ (List.mem_of_getElem? (i := 34) rfl))) (mvT hZ (hw _ (List.mem_of_getElem? (i := 35) rfl))) (by decide) (backOfS (W := 1) (rm6_o l Z a0 hw [] b13 x w_REFERENCE (if (p1 &&& (16 : Int32)) = (0 : Int32) then (0 : Int32) else (1 : Int32)) .null .null (.int (0 : Int32)) (.int (0 : Int32)) .null h13 n0 (Nat.le_trans Z0 K13.1) E_b13 F_name_b13 g_b13 F_kind_b13 F_many_b13 F_ordered_b13 F_singleOpposite_b13) hZ (hw _ (List.mem_of_getElem? (i := 35) rfl)) (hw _ (List.mem_of_getElem? (i := 32) rfl)) (by decide) (by decide)) (g := (mkF m 171 #[.val (.int p1), .val (.int p2), .val (.int p3), .val (.int p4), .val (.ref b5), .val (.ref b10), .val (.ref x), .val (.int (p4 &&& (3 : Int32))), .val (.int (0 : Int32)), .val (.ref x), .val .null, .val (.int (((p1.toUInt32 >>> ((2 : Int32) &&& 31).toUInt32).toInt32) &&& (3 : Int32))), .val (.ref w_REFERENCE)] [(.int (if (p1 &&& (16 : Int32)) = (0 : Int32) then (0 : Int32) else (1 : Int32))), (.ref w_REFERENCE), (.ref x), (.ref b13), (.ref b13)])) rfl (by rw [hml]; rfl) (Steps.refl _) (a := b13) (argsL := [(.ref x), (.ref w_REFERENCE), (.int (if (p1 &&& (16 : Int32)) = (0 : Int32) then (0 : Int32) else (1 : Int32)))]) (rest := [(.ref b13)]) (lenOf pd_11 rfl) rfl (by show 2 * 0 + _ ≤ _; exact Nat.le_of_eq rfl) (hb hby at_171) (fun _ _ => ⟨rfl, e13, (by decide : 13 + 4 ≤ _), (by decide : 65 + 40 ≤ _)⟩)
            dsimp only [Pt.U, Pt.locs, Pt.cells, Pt.slots] at X15 l15 y15 z15 st15 hQ15 hS15 hG15
            subst l15 y15 z15
            obtain ⟨X15, hS, hZ, hown⟩ := rebS hS (by rw [e13]; exact hk) X15 hS15 hG15 hZ hown
            have hk := Nat.le_refl T15.heap.size
            obtain ⟨rfl, N15q, Kc15, P15_0⟩ := hQ15
            have K15 : Keep h0 T15.heap [] := K13.trans Kc15 (allS (Or.inr sz_b13) all0)
            have N15 := Fr.app N N15q
            refine Go.tr st15 ?_
            show Go p e below _ (T15.setTop (mkF m 174 #[.val (.int p1), .val (.int p2), .val (.int p3), .val (.int p4), .val (.ref b5), .val (.ref b10), .val (.ref x), .val (.int (p4 &&& (3 : Int32))), .val (.int (0 : Int32)), .val (.ref x), .val .null, .val (.int (((p1.toUInt32 >>> ((2 : Int32) &&& 31).toUInt32).toInt32) &&& (3 : Int32))), .val (.ref w_REFERENCE)] [(.ref b13)]))
            refine Go.st (fun _ kk => XS.astore X15.here hx rfl (hb hby at_174) rfl rfl (l' := #[.val (.int p1), .val (.int p2), .val (.int p3), .val (.int p4), .val (.ref b5), .val (.ref b10), .val (.ref x), .val (.int (p4 &&& (3 : Int32))), .val (.int (0 : Int32)), .val (.ref x), .val (.ref b13), .val (.int (((p1.toUInt32 >>> ((2 : Int32) &&& 31).toUInt32).toInt32) &&& (3 : Int32))), .val (.ref w_REFERENCE)]) rfl kk) ?_
            show Go p e below _ (T15.setTop (mkF m 176 #[.val (.int p1), .val (.int p2), .val (.int p3), .val (.int p4), .val (.ref b5), .val (.ref b10), .val (.ref x), .val (.int (p4 &&& (3 : Int32))), .val (.int (0 : Int32)), .val (.ref x), .val (.ref b13), .val (.int (((p1.toUInt32 >>> ((2 : Int32) &&& 31).toUInt32).toInt32) &&& (3 : Int32))), .val (.ref w_REFERENCE)] []))
            obtain ⟨T16, h16, X16, e16, E16, A16, D16, -, st16⟩ := newO X15 hx hZ hown (hw _ (List.mem_of_getElem? (i := 66) rfl)) (hw _ (List.mem_of_getElem? (i := 67) rfl)) (hw _ (List.mem_of_getElem? (i := 68) rfl)) rfl (g := (mkF m 176 #[.val (.int p1), .val (.int p2), .val (.int p3), .val (.int p4), .val (.ref b5), .val (.ref b10), .val (.ref x), .val (.int (p4 &&& (3 : Int32))), .val (.int (0 : Int32)), .val (.ref x), .val (.ref b13), .val (.int (((p1.toUInt32 >>> ((2 : Int32) &&& 31).toUInt32).toInt32) &&& (3 : Int32))), .val (.ref w_REFERENCE)] [])) rfl (hb hby at_176) (by decide) (by decide)
            obtain ⟨b16, g16⟩ : ∃ z, z = T15.heap.size := ⟨_, rfl⟩
            rw [← g16] at A16 D16 st16
            refine Go.st st16 ?_
            have g_b16 : n0 ≤ b16 := Nat.le_trans (Nat.le_trans Z0 K15.1) (Nat.le_of_eq g16.symm)
            have sz_b16 : h0.size ≤ b16 := Nat.le_trans K15.1 (Nat.le_of_eq g16.symm)
            have lt_b13_b16 : b13 < b16 := Nat.lt_of_lt_of_le P15_0.lt (Nat.le_of_eq g16.symm)
            have K16 : Keep h0 h16 [] := K15.ext E16
            have E_b16 : Exa Z h16 b16 "com/example/mergewell/mergewell/core/Slot" := A16
            have F_owner_b16 : Fld Z h16 b16 "com/example/mergewell/mergewell/core/Slot" "owner" "Ljava/lang/String;" .null := D16 (Or.inr (hw _ (List.mem_of_getElem? (i := 74) rfl))) (ty := (.object "java/lang/String")) (by decide)
            have F_feature_b16 : Fld Z h16 b16 "com/example/mergewell/mergewell/core/Slot" "feature" "Lcom/example/mergewell/mergewell/core/Feature;" .null := D16 (Or.inr (hw _ (List.mem_of_getElem? (i := 76) rfl))) (ty := (.object "com/example/mergewell/mergewell/core/Feature")) (by decide)
            show Go p e below _ (T16.setTop (mkF m 179 #[.val (.int p1), .val (.int p2), .val (.int p3), .val (.int p4), .val (.ref b5), .val (.ref b10), .val (.ref x), .val (.int (p4 &&& (3 : Int32))), .val (.int (0 : Int32)), .val (.ref x), .val (.ref b13), .val (.int (((p1.toUInt32 >>> ((2 : Int32) &&& 31).toUInt32).toInt32) &&& (3 : Int32))), .val (.ref w_REFERENCE)] [(.ref b16)]))
            refine Go.st (fun _ kk => XS.dup X16.here hx rfl (hb hby at_179) rfl rfl kk) ?_
            show Go p e below _ (T16.setTop (mkF m 180 #[.val (.int p1), .val (.int p2), .val (.int p3), .val (.int p4), .val (.ref b5), .val (.ref b10), .val (.ref x), .val (.int (p4 &&& (3 : Int32))), .val (.int (0 : Int32)), .val (.ref x), .val (.ref b13), .val (.int (((p1.toUInt32 >>> ((2 : Int32) &&& 31).toUInt32).toInt32) &&& (3 : Int32))), .val (.ref w_REFERENCE)] [(.ref b16), (.ref b16)]))
            refine Go.st (fun _ kk => XS.aload X16.here hx rfl (hb hby at_180) rfl rfl  kk) ?_
            show Go p e below _ (T16.setTop (mkF m 182 #[.val (.int p1), .val (.int p2), .val (.int p3), .val (.int p4), .val (.ref b5), .val (.ref b10), .val (.ref x), .val (.int (p4 &&& (3 : Int32))), .val (.int (0 : Int32)), .val (.ref x), .val (.ref b13), .val (.int (((p1.toUInt32 >>> ((2 : Int32) &&& 31).toUInt32).toInt32) &&& (3 : Int32))), .val (.ref w_REFERENCE)] [(.ref x), (.ref b16), (.ref b16)]))
            refine Go.st (fun _ kk => XS.aload X16.here hx rfl (hb hby at_182) rfl rfl  kk) ?_
            show Go p e below _ (T16.setTop (mkF m 184 #[.val (.int p1), .val (.int p2), .val (.int p3), .val (.int p4), .val (.ref b5), .val (.ref b10), .val (.ref x), .val (.int (p4 &&& (3 : Int32))), .val (.int (0 : Int32)), .val (.ref x), .val (.ref b13), .val (.int (((p1.toUInt32 >>> ((2 : Int32) &&& 31).toUInt32).toInt32) &&& (3 : Int32))), .val (.ref w_REFERENCE)] [(.ref b13), (.ref x), (.ref b16), (.ref b16)]))
            obtain ⟨_, _, ⟨T17, L17, k17, n17⟩, -, X17, ⟨Lc17, hQ17, l17, y17, z17⟩, st17⟩ := X16.specialBack hx (y := (⟨"com/example/mergewell/mergewell/core/Slot", "<init>", "(Ljava/lang/String;Lcom/example/mergewell/mergewell/core/Feature;)V"⟩ : MethodName)) rfl hown (mvT hZ (hw _ (List.mem_of_getElem? (i := 69) rfl))) (mvT hZ (hw _ (List.mem_of_getElem? (i := 70) rfl))) (mvT hZ (hw _ (List.mem_of_getElem? (i := 71) rfl))) (by decide) (backOf (W := 1) (rm11bb_o l Z a0 hw [] b16 x b13 .null .null h16 n0 (Nat.le_trans Z0 K16.1) E_b16 F_owner_b16 g_b16 F_feature_b16) hZ (hw _ (List.mem_of_getElem? (i := 71) rfl)) (hw _ (List.mem_of_getElem? (i := 68) rfl)) (by decide) (by decide)) (g := (mkF m 184 #[.val (.int p1), .val (.int p2), .val (.int p3), .val (.int p4), .val (.ref b5), .val (.ref b10), .val (.ref x), .val (.int (p4 &&& (3 : Int32))), .val (.int (0 : Int32)), .val (.ref x), .val (.ref b13), .val (.int (((p1.toUInt32 >>> ((2 : Int32) &&& 31).toUInt32).toInt32) &&& (3 : Int32))), .val (.ref w_REFERENCE)] [(.ref b13), (.ref x), (.ref b16), (.ref b16)])) rfl (by rw [hml]; rfl) (Steps.refl _) (a := b16) (argsL := [(.ref x), (.ref b13)]) (rest := [(.ref b16)]) (lenOf pd_12 rfl) rfl (by show 2 * 0 + _ ≤ _; exact Nat.le_of_eq rfl) (hb hby at_184) (fun _ _ => ⟨rfl, e16, (by decide : 18 + 0 ≤ _), (by decide : 107 + 0 ≤ _)⟩)
            dsimp only [Pt.U, Pt.locs, Pt.cells, Pt.slots] at X17 l17 y17 z17 st17 hQ17
            subst l17 y17 z17
            obtain ⟨rfl, N17q, Kc17, P17_0, P17_1⟩ := hQ17
            have K17 : Keep h0 T17.heap [] := K16.trans Kc17 (allS (Or.inr sz_b16) all0)
            have N17 := Fr.app N15 N17q
            refine Go.tr st17 ?_
            show Go p e below _ (T17.setTop (mkF m 187 #[.val (.int p1), .val (.int p2), .val (.int p3), .val (.int p4), .val (.ref b5), .val (.ref b10), .val (.ref x), .val (.int (p4 &&& (3 : Int32))), .val (.int (0 : Int32)), .val (.ref x), .val (.ref b13), .val (.int (((p1.toUInt32 >>> ((2 : Int32) &&& 31).toUInt32).toInt32) &&& (3 : Int32))), .val (.ref w_REFERENCE)] [(.ref b16)]))
            refine Go.st (fun _ kk => XS.astore X17.here hx rfl (hb hby at_187) rfl rfl (l' := #[.val (.int p1), .val (.int p2), .val (.int p3), .val (.int p4), .val (.ref b5), .val (.ref b10), .val (.ref x), .val (.int (p4 &&& (3 : Int32))), .val (.int (0 : Int32)), .val (.ref x), .val (.ref b13), .val (.ref b16), .val (.ref w_REFERENCE)]) rfl kk) ?_
            show Go p e below _ (T17.setTop (mkF m 189 #[.val (.int p1), .val (.int p2), .val (.int p3), .val (.int p4), .val (.ref b5), .val (.ref b10), .val (.ref x), .val (.int (p4 &&& (3 : Int32))), .val (.int (0 : Int32)), .val (.ref x), .val (.ref b13), .val (.ref b16), .val (.ref w_REFERENCE)] []))
            refine Go.st (fun _ kk => XS.aload X17.here hx rfl (hb hby at_189) rfl rfl  kk) ?_
            show Go p e below _ (T17.setTop (mkF m 191 #[.val (.int p1), .val (.int p2), .val (.int p3), .val (.int p4), .val (.ref b5), .val (.ref b10), .val (.ref x), .val (.int (p4 &&& (3 : Int32))), .val (.int (0 : Int32)), .val (.ref x), .val (.ref b13), .val (.ref b16), .val (.ref w_REFERENCE)] [(.ref b16)]))
            obtain ⟨cq18, kq18, q18a, q18b, q18c⟩ := isOf hZ rfl P17_0
            obtain ⟨_, _, ⟨T18, L18, k18, n18⟩, -, X18, ⟨Lc18, hQ18, l18, y18, z18⟩, st18⟩ := X17.virtualBack hx (y := (⟨"com/example/mergewell/mergewell/core/Slot", "isRoot", "()Z"⟩ : MethodName)) (z := (⟨"com/example/mergewell/mergewell/core/Slot", "isRoot", "()Z"⟩ : MethodName)) hown (mvT hZ (hw _ (List.mem_of_getElem? (i := 77) rfl))) (mvT hZ (hw _ (List.mem_of_getElem? (i := 78) rfl))) (notFace_of_selects (args := #[]) (mvT hZ (hw _ (List.mem_of_getElem? (i := 80) rfl)))) (mvT hZ (hw _ (List.mem_of_getElem? (i := 80) rfl))) (mvT hZ (hw _ (List.mem_of_getElem? (i := 79) rfl))) (by decide) (backOf (W := 0) (rm12_o l Z a0 hw [] b16 x T17.heap n0 (Nat.le_trans Z0 K17.1) P17_1) hZ (hw _ (List.mem_of_getElem? (i := 81) rfl)) (hw _ (List.mem_of_getElem? (i := 68) rfl)) (by decide) (by decide)) q18a q18c (g := (mkF m 191 #[.val (.int p1), .val (.int p2), .val (.int p3), .val (.int p4), .val (.ref b5), .val (.ref b10), .val (.ref x), .val (.int (p4 &&& (3 : Int32))), .val (.int (0 : Int32)), .val (.ref x), .val (.ref b13), .val (.ref b16), .val (.ref w_REFERENCE)] [(.ref b16)])) rfl (by rw [hml]; rfl) (Steps.refl _) (argsL := []) (rest := []) (lenOf pd_13 rfl) rfl (by show 2 * 0 + _ ≤ _; exact Nat.le_of_eq rfl) (hb hby at_191) (fun _ _ => ⟨rfl, rfl, (by decide : 18 + 0 ≤ _), (by decide : 107 + 0 ≤ _)⟩)
            dsimp only [Pt.U, Pt.locs, Pt.cells, Pt.slots] at X18 l18 y18 z18 st18 hQ18
            subst l18 y18 z18
            obtain ⟨rfl, N18q, eq18⟩ := hQ18
            have N18 := Fr.app N17 N18q
            refine Go.tr st18 ?_
            show Go p e below _ (T18.setTop (mkF m 194 #[.val (.int p1), .val (.int p2), .val (.int p3), .val (.int p4), .val (.ref b5), .val (.ref b10), .val (.ref x), .val (.int (p4 &&& (3 : Int32))), .val (.int (0 : Int32)), .val (.ref x), .val (.ref b13), .val (.ref b16), .val (.ref w_REFERENCE)] [(.int (0 : Int32))]))
            refine Go.st (fun _ kk => XS.iload X18.here hx rfl (hb hby at_194) rfl  kk) ?_
            show Go p e below _ (T18.setTop (mkF m 196 #[.val (.int p1), .val (.int p2), .val (.int p3), .val (.int p4), .val (.ref b5), .val (.ref b10), .val (.ref x), .val (.int (p4 &&& (3 : Int32))), .val (.int (0 : Int32)), .val (.ref x), .val (.ref b13), .val (.ref b16), .val (.ref w_REFERENCE)] [(.int (0 : Int32)), (.int (0 : Int32))]))
            refine Go.st (fun _ kk => XS.icmpNo X18.here hx rfl (hb hby at_196) rfl (teq (by decide : ((0 : Int32) = (0 : Int32)))).2 kk) ?_
            show Go p e below _ (T18.setTop (mkF m 199 #[.val (.int p1), .val (.int p2), .val (.int p3), .val (.int p4), .val (.ref b5), .val (.ref b10), .val (.ref x), .val (.int (p4 &&& (3 : Int32))), .val (.int (0 : Int32)), .val (.ref x), .val (.ref b13), .val (.ref b16), .val (.ref w_REFERENCE)] []))
            have f_19 := (staKeep0 S_ROOT K17)
            obtain ⟨T20, X20, e20, st20⟩ := getS2 X18 hx hZ hown (host := "") (Or.inl (hw _ (List.mem_of_getElem? (i := 82) rfl))) Via.refl eq18 f_19 (g := (mkF m 199 #[.val (.int p1), .val (.int p2), .val (.int p3), .val (.int p4), .val (.ref b5), .val (.ref b10), .val (.ref x), .val (.int (p4 &&& (3 : Int32))), .val (.int (0 : Int32)), .val (.ref x), .val (.ref b13), .val (.ref b16), .val (.ref w_REFERENCE)] [])) rfl (hb hby at_199)
            refine Go.st st20 ?_
            show Go p e below _ (T20.setTop (mkF m 202 #[.val (.int p1), .val (.int p2), .val (.int p3), .val (.int p4), .val (.ref b5), .val (.ref b10), .val (.ref x), .val (.int (p4 &&& (3 : Int32))), .val (.int (0 : Int32)), .val (.ref x), .val (.ref b13), .val (.ref b16), .val (.ref w_REFERENCE)] [(.ref w_ROOT)]))
            have f_21 := (E_w_ROOT.keep K17)
            have f_22 := (F_owner_w_ROOT.keep K17 nin0)
            obtain ⟨cq23, kq23, q23a, q23b, q23c⟩ := isOf hZ e20 f_21
            obtain ⟨_, _, ⟨T23, L23, k23, n23⟩, -, X23, ⟨Lc23, hQ23, l23, y23, z23⟩, st23⟩ := X20.virtualBack hx (y := (⟨"com/example/mergewell/mergewell/core/Slot", "isRoot", "()Z"⟩ : MethodName)) (z := (⟨"com/example/mergewell/mergewell/core/Slot", "isRoot", "()Z"⟩ : MethodName)) hown (mvT hZ (hw _ (List.mem_of_getElem? (i := 77) rfl))) (mvT hZ (hw _ (List.mem_of_getElem? (i := 78) rfl))) (notFace_of_selects (args := #[]) (mvT hZ (hw _ (List.mem_of_getElem? (i := 80) rfl)))) (mvT hZ (hw _ (List.mem_of_getElem? (i := 80) rfl))) (mvT hZ (hw _ (List.mem_of_getElem? (i := 79) rfl))) (by decide) (backOf (W := 0) (rm12n_o l Z a0 hw [] w_ROOT T17.heap n0 (Nat.le_trans Z0 K17.1) f_22) hZ (hw _ (List.mem_of_getElem? (i := 81) rfl)) (hw _ (List.mem_of_getElem? (i := 68) rfl)) (by decide) (by decide)) q23a q23c (g := (mkF m 202 #[.val (.int p1), .val (.int p2), .val (.int p3), .val (.int p4), .val (.ref b5), .val (.ref b10), .val (.ref x), .val (.int (p4 &&& (3 : Int32))), .val (.int (0 : Int32)), .val (.ref x), .val (.ref b13), .val (.ref b16), .val (.ref w_REFERENCE)] [(.ref w_ROOT)])) rfl (by rw [hml]; rfl) (Steps.refl _) (argsL := []) (rest := []) (lenOf pd_13 rfl) rfl (by show 2 * 0 + _ ≤ _; exact Nat.le_of_eq rfl) (hb hby at_202) (fun _ _ => ⟨rfl, e20, (by decide : 18 + 0 ≤ _), (by decide : 107 + 0 ≤ _)⟩)
            dsimp only [Pt.U, Pt.locs, Pt.cells, Pt.slots] at X23 l23 y23 z23 st23 hQ23
            subst l23 y23 z23
            obtain ⟨rfl, N23q, eq23⟩ := hQ23
            have N23 := Fr.app N18 N23q
            refine Go.tr st23 ?_
            show Go p e below _ (T23.setTop (mkF m 205 #[.val (.int p1), .val (.int p2), .val (.int p3), .val (.int p4), .val (.ref b5), .val (.ref b10), .val (.ref x), .val (.int (p4 &&& (3 : Int32))), .val (.int (0 : Int32)), .val (.ref x), .val (.ref b13), .val (.ref b16), .val (.ref w_REFERENCE)] [(.int (1 : Int32))]))
            refine Go.st (fun _ kk => XS.ifNo X23.here hx rfl (hb hby at_205) rfl ((if0 _ _).trans (feq (by decide : ¬ ((1 : Int32) = (0 : Int32)))).1) kk) ?_
            show Go p e below _ (T23.setTop (mkF m 208 #[.val (.int p1), .val (.int p2), .val (.int p3), .val (.int p4), .val (.ref b5), .val (.ref b10), .val (.ref x), .val (.int (p4 &&& (3 : Int32))), .val (.int (0 : Int32)), .val (.ref x), .val (.ref b13), .val (.ref b16), .val (.ref w_REFERENCE)] []))
            refine Go.st (fun _ kk => XS.iconst X23.here hx rfl (hb hby at_208) kk) ?_
            show Go p e below _ (T23.setTop (mkF m 209 #[.val (.int p1), .val (.int p2), .val (.int p3), .val (.int p4), .val (.ref b5), .val (.ref b10), .val (.ref x), .val (.int (p4 &&& (3 : Int32))), .val (.int (0 : Int32)), .val (.ref x), .val (.ref b13), .val (.ref b16), .val (.ref w_REFERENCE)] [(.int (1 : Int32))]))
            refine Go.st (fun _ kk => XS.goto X23.here hx rfl (pc0 := 209) (pc' := 213) rfl (hb hby at_209) (by decide) (by decide) kk) ?_
            show Go p e below _ (T23.setTop (mkF m 213 #[.val (.int p1), .val (.int p2), .val (.int p3), .val (.int p4), .val (.ref b5), .val (.ref b10), .val (.ref x), .val (.int (p4 &&& (3 : Int32))), .val (.int (0 : Int32)), .val (.ref x), .val (.ref b13), .val (.ref b16), .val (.ref w_REFERENCE)] [(.int (1 : Int32))]))
            have hk := (Nat.le_trans (Nat.le_trans hk E16.1) Kc17.1)
            exact Go.retW (Q := Q0 n0) hS (hk) X23 (v := some (.int (1 : Int32))) (fun h => by rw [Bd.returns] at h; cases h) Bd.notSynchronized (fun fs hr => retN X23 hx (t := .boolean) Bd.returns (by simp) (hb hby at_213) hr) eq23 ⟨rfl, N23⟩ (by decide) (by decide)
          · skip
            refine Go.st (fun _ kk => XS.icmpYes X.here hx rfl (pc0 := 137) (pc' := 146) rfl (hb hby at_137) rfl (feq hc_4).2 (by decide) (by decide) kk) ?_
            show Go p e below _ (T.setTop (mkF m 146 #[.val (.int p1), .val (.int p2), .val (.int p3), .val (.int p4), .val (.ref b5), .val (.ref b10), .val (.ref x), .val (.int (p4 &&& (3 : Int32))), .val (.int (0 : Int32)), .val (.ref x), .val .null, .val (.int (((p1.toUInt32 >>> ((2 : Int32) &&& 31).toUInt32).toInt32) &&& (3 : Int32))), .unset] []))
            have f_11 := (staKeep0 S_CONTAINMENT K)
            obtain ⟨T12, X12, e12, st12⟩ := getS2 X hx hZ hown (host := "") (Or.inl (hw _ (List.mem_of_getElem? (i := 101) rfl))) Via.refl eT f_11 (g := (mkF m 146 #[.val (.int p1), .val (.int p2), .val (.int p3), .val (.int p4), .val (.ref b5), .val (.ref b10), .val (.ref x), .val (.int (p4 &&& (3 : Int32))), .val (.int (0 : Int32)), .val (.ref x), .val .null, .val (.int (((p1.toUInt32 >>> ((2 : Int32) &&& 31).toUInt32).toInt32) &&& (3 : Int32))), .unset] [])) rfl (hb hby at_146)
            refine Go.st st12 ?_
            show Go p e below _ (T12.setTop (mkF m 149 #[.val (.int p1), .val (.int p2), .val (.int p3), .val (.int p4), .val (.ref b5), .val (.ref b10), .val (.ref x), .val (.int (p4 &&& (3 : Int32))), .val (.int (0 : Int32)), .val (.ref x), .val .null, .val (.int (((p1.toUInt32 >>> ((2 : Int32) &&& 31).toUInt32).toInt32) &&& (3 : Int32))), .unset] [(.ref w_CONTAINMENT)]))
            refine Go.st (fun _ kk => XS.astore X12.here hx rfl (hb hby at_149) rfl rfl (l' := #[.val (.int p1), .val (.int p2), .val (.int p3), .val (.int p4), .val (.ref b5), .val (.ref b10), .val (.ref x), .val (.int (p4 &&& (3 : Int32))), .val (.int (0 : Int32)), .val (.ref x), .val .null, .val (.int (((p1.toUInt32 >>> ((2 : Int32) &&& 31).toUInt32).toInt32) &&& (3 : Int32))), .val (.ref w_CONTAINMENT)]) rfl kk) ?_
            show Go p e below _ (T12.setTop (mkF m 151 #[.val (.int p1), .val (.int p2), .val (.int p3), .val (.int p4), .val (.ref b5), .val (.ref b10), .val (.ref x), .val (.int (p4 &&& (3 : Int32))), .val (.int (0 : Int32)), .val (.ref x), .val .null, .val (.int (((p1.toUInt32 >>> ((2 : Int32) &&& 31).toUInt32).toInt32) &&& (3 : Int32))), .val (.ref w_CONTAINMENT)] []))
            obtain ⟨T13, h13, X13, e13, E13, A13, D13, -, st13⟩ := newO X12 hx hZ hown (hw _ (List.mem_of_getElem? (i := 30) rfl)) (hw _ (List.mem_of_getElem? (i := 31) rfl)) (hw _ (List.mem_of_getElem? (i := 32) rfl)) e12 (g := (mkF m 151 #[.val (.int p1), .val (.int p2), .val (.int p3), .val (.int p4), .val (.ref b5), .val (.ref b10), .val (.ref x), .val (.int (p4 &&& (3 : Int32))), .val (.int (0 : Int32)), .val (.ref x), .val .null, .val (.int (((p1.toUInt32 >>> ((2 : Int32) &&& 31).toUInt32).toInt32) &&& (3 : Int32))), .val (.ref w_CONTAINMENT)] [])) rfl (hb hby at_151) (by decide) (by decide)
            obtain ⟨b13, g13⟩ : ∃ z, z = h.size := ⟨_, rfl⟩
            rw [← g13] at A13 D13 st13
            refine Go.st st13 ?_
            have g_b13 : n0 ≤ b13 := Nat.le_trans (Nat.le_trans Z0 K.1) (Nat.le_of_eq g13.symm)
            have sz_b13 : h0.size ≤ b13 := Nat.le_trans K.1 (Nat.le_of_eq g13.symm)
            have K13 : Keep h0 h13 [] := K.ext E13
            have E_b13 : Exa Z h13 b13 "com/example/mergewell/mergewell/core/Feature" := A13
            have F_name_b13 : Fld Z h13 b13 "com/example/mergewell/mergewell/core/Feature" "name" "Ljava/lang/String;" .null := D13 (Or.inr (hw _ (List.mem_of_getElem? (i := 57) rfl))) (ty := (.object "java/lang/String")) (by decide)
            have F_kind_b13 : Fld Z h13 b13 "com/example/mergewell/mergewell/core/Feature" "kind" "Lcom/example/mergewell/mergewell/core/Feature$Kind;" .null := D13 (Or.inr (hw _ (List.mem_of_getElem? (i := 59) rfl))) (ty := (.object "com/example/mergewell/mergewell/core/Feature$Kind")) (by decide)
            have F_many_b13 : Fld Z h13 b13 "com/example/mergewell/mergewell/core/Feature" "many" "Z" (.int (0 : Int32)) := D13 (Or.inr (hw _ (List.mem_of_getElem? (i := 61) rfl))) (ty := .boolean) (by decide)
            have F_ordered_b13 : Fld Z h13 b13 "com/example/mergewell/mergewell/core/Feature" "ordered" "Z" (.int (0 : Int32)) := D13 (Or.inr (hw _ (List.mem_of_getElem? (i := 63) rfl))) (ty := .boolean) (by decide)
            have F_singleOpposite_b13 : Fld Z h13 b13 "com/example/mergewell/mergewell/core/Feature" "singleOpposite" "Ljava/lang/String;" .null := D13 (Or.inr (hw _ (List.mem_of_getElem? (i := 65) rfl))) (ty := (.object "java/lang/String")) (by decide)
            show Go p e below _ (T13.setTop (mkF m 154 #[.val (.int p1), .val (.int p2), .val (.int p3), .val (.int p4), .val (.ref b5), .val (.ref b10), .val (.ref x), .val (.int (p4 &&& (3 : Int32))), .val (.int (0 : Int32)), .val (.ref x), .val .null, .val (.int (((p1.toUInt32 >>> ((2 : Int32) &&& 31).toUInt32).toInt32) &&& (3 : Int32))), .val (.ref w_CONTAINMENT)] [(.ref b13)]))
            refine Go.st (fun _ kk => XS.dup X13.here hx rfl (hb hby at_154) rfl rfl kk) ?_
            show Go p e below _ (T13.setTop (mkF m 155 #[.val (.int p1), .val (.int p2), .val (.int p3), .val (.int p4), .val (.ref b5), .val (.ref b10), .val (.ref x), .val (.int (p4 &&& (3 : Int32))), .val (.int (0 : Int32)), .val (.ref x), .val .null, .val (.int (((p1.toUInt32 >>> ((2 : Int32) &&& 31).toUInt32).toInt32) &&& (3 : Int32))), .val (.ref w_CONTAINMENT)] [(.ref b13), (.ref b13)]))
            refine Go.st (fun _ kk => XS.aload X13.here hx rfl (hb hby at_155) rfl rfl  kk) ?_
            show Go p e below _ (T13.setTop (mkF m 157 #[.val (.int p1), .val (.int p2), .val (.int p3), .val (.int p4), .val (.ref b5), .val (.ref b10), .val (.ref x), .val (.int (p4 &&& (3 : Int32))), .val (.int (0 : Int32)), .val (.ref x), .val .null, .val (.int (((p1.toUInt32 >>> ((2 : Int32) &&& 31).toUInt32).toInt32) &&& (3 : Int32))), .val (.ref w_CONTAINMENT)] [(.ref x), (.ref b13), (.ref b13)]))
            refine Go.st (fun _ kk => XS.aload X13.here hx rfl (hb hby at_157) rfl rfl  kk) ?_
            show Go p e below _ (T13.setTop (mkF m 159 #[.val (.int p1), .val (.int p2), .val (.int p3), .val (.int p4), .val (.ref b5), .val (.ref b10), .val (.ref x), .val (.int (p4 &&& (3 : Int32))), .val (.int (0 : Int32)), .val (.ref x), .val .null, .val (.int (((p1.toUInt32 >>> ((2 : Int32) &&& 31).toUInt32).toInt32) &&& (3 : Int32))), .val (.ref w_CONTAINMENT)] [(.ref w_CONTAINMENT), (.ref x), (.ref b13), (.ref b13)]))
            refine Go.st (fun _ kk => XS.iloadN X13.here hx rfl (hb hby at_159) rfl  kk) ?_
            show Go p e below _ (T13.setTop (mkF m 160 #[.val (.int p1), .val (.int p2), .val (.int p3), .val (.int p4), .val (.ref b5), .val (.ref b10), .val (.ref x), .val (.int (p4 &&& (3 : Int32))), .val (.int (0 : Int32)), .val (.ref x), .val .null, .val (.int (((p1.toUInt32 >>> ((2 : Int32) &&& 31).toUInt32).toInt32) &&& (3 : Int32))), .val (.ref w_CONTAINMENT)] [(.int p1), (.ref w_CONTAINMENT), (.ref x), (.ref b13), (.ref b13)]))
            refine Go.st (fun _ kk => XS.bipush X13.here hx rfl (hb hby at_160) kk) ?_
            show Go p e below _ (T13.setTop (mkF m 162 #[.val (.int p1), .val (.int p2), .val (.int p3), .val (.int p4), .val (.ref b5), .val (.ref b10), .val (.ref x), .val (.int (p4 &&& (3 : Int32))), .val (.int (0 : Int32)), .val (.ref x), .val .null, .val (.int (((p1.toUInt32 >>> ((2 : Int32) &&& 31).toUInt32).toInt32) &&& (3 : Int32))), .val (.ref w_CONTAINMENT)] [(.int (16 : Int32)), (.int p1), (.ref w_CONTAINMENT), (.ref x), (.ref b13), (.ref b13)]))
            refine Go.st (fun _ kk => XS.iand X13.here hx rfl (hb hby at_162) rfl kk) ?_
            show Go p e below _ (T13.setTop (mkF m 163 #[.val (.int p1), .val (.int p2), .val (.int p3), .val (.int p4), .val (.ref b5), .val (.ref b10), .val (.ref x), .val (.int (p4 &&& (3 : Int32))), .val (.int (0 : Int32)), .val (.ref x), .val .null, .val (.int (((p1.toUInt32 >>> ((2 : Int32) &&& 31).toUInt32).toInt32) &&& (3 : Int32))), .val (.ref w_CONTAINMENT)] [(.int (p1 &&& (16 : Int32))), (.ref w_CONTAINMENT), (.ref x), (.ref b13), (.ref b13)]))
            have dia14 : ∀ t, Steps p.tables e below (T13.setTop (mkF m 171 #[.val (.int p1), .val (.int p2), .val (.int p3), .val (.int p4), .val (.ref b5), .val (.ref b10), .val (.ref x), .val (.int (p4 &&& (3 : Int32))), .val (.int (0 : Int32)), .val (.ref x), .val .null, .val (.int (((p1.toUInt32 >>> ((2 : Int32) &&& 31).toUInt32).toInt32) &&& (3 : Int32))), .val (.ref w_CONTAINMENT)] [(.int (if (p1 &&& (16 : Int32)) = (0 : Int32) then (0 : Int32) else (1 : Int32))), (.ref w_CONTAINMENT), (.ref x), (.ref b13), (.ref b13)])) t → Steps p.tables e below (T13.setTop (mkF m 163 #[.val (.int p1), .val (.int p2), .val (.int p3), .val (.int p4), .val (.ref b5), .val (.ref b10), .val (.ref x), .val (.int (p4 &&& (3 : Int32))), .val (.int (0 : Int32)), .val (.ref x), .val .null, .val (.int (((p1.toUInt32 >>> ((2 : Int32) &&& 31).toUInt32).toInt32) &&& (3 : Int32))), .val (.ref w_CONTAINMENT)] [(.int (p1 &&& (16 : Int32))), (.ref w_CONTAINMENT), (.ref x), (.ref b13), (.ref b13)])) t := by
              intro t kk
              by_cases hd14 : (p1 &&& (16 : Int32)) = (0 : Int32)
              · rw [if_pos hd14] at kk
                refine XS.ifYes X13.here hx rfl (pc0 := 163) (pc' := 170) rfl (hb hby at_163) rfl ((if0 _ _).trans (teq hd14).1) (by decide) (by decide) ?_
                show Steps p.tables e below (T13.setTop (mkF m 170 #[.val (.int p1), .val (.int p2), .val (.int p3), .val (.int p4), .val (.ref b5), .val (.ref b10), .val (.ref x), .val (.int (p4 &&& (3 : Int32))), .val (.int (0 : Int32)), .val (.ref x), .val .null, .val (.int (((p1.toUInt32 >>> ((2 : Int32) &&& 31).toUInt32).toInt32) &&& (3 : Int32))), .val (.ref w_CONTAINMENT)] [(.ref w_CONTAINMENT), (.ref x), (.ref b13), (.ref b13)])) t
                refine XS.iconst X13.here hx rfl (hb hby at_170) ?_
                show Steps p.tables e below (T13.setTop (mkF m 171 #[.val (.int p1), .val (.int p2), .val (.int p3), .val (.int p4), .val (.ref b5), .val (.ref b10), .val (.ref x), .val (.int (p4 &&& (3 : Int32))), .val (.int (0 : Int32)), .val (.ref x), .val .null, .val (.int (((p1.toUInt32 >>> ((2 : Int32) &&& 31).toUInt32).toInt32) &&& (3 : Int32))), .val (.ref w_CONTAINMENT)] [(.int (0 : Int32)), (.ref w_CONTAINMENT), (.ref x), (.ref b13), (.ref b13)])) t
                exact kk
              · rw [if_neg hd14] at kk
                refine XS.ifNo X13.here hx rfl (hb hby at_163) rfl ((if0 _ _).trans (feq hd14).1) ?_
                show Steps p.tables e below (T13.setTop (mkF m 166 #[.val (.int p1), .val (.int p2), .val (.int p3), .val (.int p4), .val (.ref b5), .val (.ref b10), .val (.ref x), .val (.int (p4 &&& (3 : Int32))), .val (.int (0 : Int32)), .val (.ref x), .val .null, .val (.int (((p1.toUInt32 >>> ((2 : Int32) &&& 31).toUInt32).toInt32) &&& (3 : Int32))), .val (.ref w_CONTAINMENT)] [(.ref w_CONTAINMENT), (.ref x), (.ref b13), (.ref b13)])) t
                refine XS.iconst X13.here hx rfl (hb hby at_166) ?_
                show Steps p.tables e below (T13.setTop (mkF m 167 #[.val (.int p1), .val (.int p2), .val (.int p3), .val (.int p4), .val (.ref b5), .val (.ref b10), .val (.ref x), .val (.int (p4 &&& (3 : Int32))), .val (.int (0 : Int32)), .val (.ref x), .val .null, .val (.int (((p1.toUInt32 >>> ((2 : Int32) &&& 31).toUInt32).toInt32) &&& (3 : Int32))), .val (.ref w_CONTAINMENT)] [(.int (1 : Int32)), (.ref w_CONTAINMENT), (.ref x), (.ref b13), (.ref b13)])) t
                refine XS.goto X13.here hx rfl (pc0 := 167) (pc' := 171) rfl (hb hby at_167) (by decide) (by decide) ?_
                show Steps p.tables e below (T13.setTop (mkF m 171 #[.val (.int p1), .val (.int p2), .val (.int p3), .val (.int p4), .val (.ref b5), .val (.ref b10), .val (.ref x), .val (.int (p4 &&& (3 : Int32))), .val (.int (0 : Int32)), .val (.ref x), .val .null, .val (.int (((p1.toUInt32 >>> ((2 : Int32) &&& 31).toUInt32).toInt32) &&& (3 : Int32))), .val (.ref w_CONTAINMENT)] [(.int (1 : Int32)), (.ref w_CONTAINMENT), (.ref x), (.ref b13), (.ref b13)])) t
                exact kk
            refine Go.st dia14 ?_
            show Go p e below _ (T13.setTop (mkF m 171 #[.val (.int p1), .val (.int p2), .val (.int p3), .val (.int p4), .val (.ref b5), .val (.ref b10), .val (.ref x), .val (.int (p4 &&& (3 : Int32))), .val (.int (0 : Int32)), .val (.ref x), .val .null, .val (.int (((p1.toUInt32 >>> ((2 : Int32) &&& 31).toUInt32).toInt32) &&& (3 : Int32))), .val (.ref w_CONTAINMENT)] [(.int (if (p1 &&& (16 : Int32)) = (0 : Int32) then (0 : Int32) else (1 : Int32))), (.ref w_CONTAINMENT), (.ref x), (.ref b13), (.ref b13)]))
            have hk := (Nat.le_trans hk E13.1)
            obtain ⟨_, _, ⟨T15, L15, k15, n15⟩, -, X15, hS15, hG15, ⟨Lc15, hQ15, l15, y15, z15⟩, st15⟩ := X13.specialBackS hx (y := (⟨"com/example/mergewell/mergewell/core/Feature", "<init>", "(Ljava/lang/String;Lcom/example/mergewell/mergewell/core/Feature$Kind;Z)V"⟩ : MethodName)) rfl hown (mvT hZ (hw _ (List.mem_of_getElem? (i := 33) rfl))) (mvT hZ (hw _ (List.mem_of_getElem? (i := 34) rfl))) (mvT hZ (hw _ (List.mem_of_getElem? (i := 35) rfl))) (by decide) (backOfS (W := 1) (rm6_o l Z a0 hw [] b13 x w_CONTAINMENT (if (p1 &&& (16 : Int32)) = (0 : Int32) then (0 : Int32) else (1 : Int32)) .null .null (.int (0 : Int32)) (.int (0 : Int32)) .null h13 n0 (Nat.le_trans Z0 K13.1) E_b13 F_name_b13 g_b13 F_kind_b13 F_many_b13 F_ordered_b13 F_singleOpposite_b13) hZ (hw _ (List.mem_of_getElem? (i := 35) rfl)) (hw _ (List.mem_of_getElem? (i := 32) rfl)) (by decide) (by decide)) (g := (mkF m 171 #[.val (.int p1), .val (.int p2), .val (.int p3), .val (.int p4), .val (.ref b5), .val (.ref b10), .val (.ref x), .val (.int (p4 &&& (3 : Int32))), .val (.int (0 : Int32)), .val (.ref x), .val .null, .val (.int (((p1.toUInt32 >>> ((2 : Int32) &&& 31).toUInt32).toInt32) &&& (3 : Int32))), .val (.ref w_CONTAINMENT)] [(.int (if (p1 &&& (16 : Int32)) = (0 : Int32) then (0 : Int32) else (1 : Int32))), (.ref w_CONTAINMENT), (.ref x), (.ref b13), (.ref b13)])) rfl (by rw [hml]; rfl) (Steps.refl _) (a := b13) (argsL := [(.ref x), (.ref w_CONTAINMENT), (.int (if (p1 &&& (16 : Int32)) = (0 : Int32) then (0 : Int32) else (1 : Int32)))]) (rest := [(.ref b13)]) (lenOf pd_11 rfl) rfl (by show 2 * 0 + _ ≤ _; exact Nat.le_of_eq rfl) (hb hby at_171) (fun _ _ => ⟨rfl, e13, (by decide : 13 + 4 ≤ _), (by decide : 65 + 40 ≤ _)⟩)
            dsimp only [Pt.U, Pt.locs, Pt.cells, Pt.slots] at X15 l15 y15 z15 st15 hQ15 hS15 hG15
            subst l15 y15 z15
            obtain ⟨X15, hS, hZ, hown⟩ := rebS hS (by rw [e13]; exact hk) X15 hS15 hG15 hZ hown
            have hk := Nat.le_refl T15.heap.size
            obtain ⟨rfl, N15q, Kc15, P15_0⟩ := hQ15
            have K15 : Keep h0 T15.heap [] := K13.trans Kc15 (allS (Or.inr sz_b13) all0)
            have N15 := Fr.app N N15q
            refine Go.tr st15 ?_
            show Go p e below _ (T15.setTop (mkF m 174 #[.val (.int p1), .val (.int p2), .val (.int p3), .val (.int p4), .val (.ref b5), .val (.ref b10), .val (.ref x), .val (.int (p4 &&& (3 : Int32))), .val (.int (0 : Int32)), .val (.ref x), .val .null, .val (.int (((p1.toUInt32 >>> ((2 : Int32) &&& 31).toUInt32).toInt32) &&& (3 : Int32))), .val (.ref w_CONTAINMENT)] [(.ref b13)]))
            refine Go.st (fun _ kk => XS.astore X15.here hx rfl (hb hby at_174) rfl rfl (l' := #[.val (.int p1), .val (.int p2), .val (.int p3), .val (.int p4), .val (.ref b5), .val (.ref b10), .val (.ref x), .val (.int (p4 &&& (3 : Int32))), .val (.int (0 : Int32)), .val (.ref x), .val (.ref b13), .val (.int (((p1.toUInt32 >>> ((2 : Int32) &&& 31).toUInt32).toInt32) &&& (3 : Int32))), .val (.ref w_CONTAINMENT)]) rfl kk) ?_
            show Go p e below _ (T15.setTop (mkF m 176 #[.val (.int p1), .val (.int p2), .val (.int p3), .val (.int p4), .val (.ref b5), .val (.ref b10), .val (.ref x), .val (.int (p4 &&& (3 : Int32))), .val (.int (0 : Int32)), .val (.ref x), .val (.ref b13), .val (.int (((p1.toUInt32 >>> ((2 : Int32) &&& 31).toUInt32).toInt32) &&& (3 : Int32))), .val (.ref w_CONTAINMENT)] []))
            obtain ⟨T16, h16, X16, e16, E16, A16, D16, -, st16⟩ := newO X15 hx hZ hown (hw _ (List.mem_of_getElem? (i := 66) rfl)) (hw _ (List.mem_of_getElem? (i := 67) rfl)) (hw _ (List.mem_of_getElem? (i := 68) rfl)) rfl (g := (mkF m 176 #[.val (.int p1), .val (.int p2), .val (.int p3), .val (.int p4), .val (.ref b5), .val (.ref b10), .val (.ref x), .val (.int (p4 &&& (3 : Int32))), .val (.int (0 : Int32)), .val (.ref x), .val (.ref b13), .val (.int (((p1.toUInt32 >>> ((2 : Int32) &&& 31).toUInt32).toInt32) &&& (3 : Int32))), .val (.ref w_CONTAINMENT)] [])) rfl (hb hby at_176) (by decide) (by decide)
            obtain ⟨b16, g16⟩ : ∃ z, z = T15.heap.size := ⟨_, rfl⟩
            rw [← g16] at A16 D16 st16
            refine Go.st st16 ?_
            have g_b16 : n0 ≤ b16 := Nat.le_trans (Nat.le_trans Z0 K15.1) (Nat.le_of_eq g16.symm)
            have sz_b16 : h0.size ≤ b16 := Nat.le_trans K15.1 (Nat.le_of_eq g16.symm)
            have lt_b13_b16 : b13 < b16 := Nat.lt_of_lt_of_le P15_0.lt (Nat.le_of_eq g16.symm)
            have K16 : Keep h0 h16 [] := K15.ext E16
            have E_b16 : Exa Z h16 b16 "com/example/mergewell/mergewell/core/Slot" := A16
            have F_owner_b16 : Fld Z h16 b16 "com/example/mergewell/mergewell/core/Slot" "owner" "Ljava/lang/String;" .null := D16 (Or.inr (hw _ (List.mem_of_getElem? (i := 74) rfl))) (ty := (.object "java/lang/String")) (by decide)
            have F_feature_b16 : Fld Z h16 b16 "com/example/mergewell/mergewell/core/Slot" "feature" "Lcom/example/mergewell/mergewell/core/Feature;" .null := D16 (Or.inr (hw _ (List.mem_of_getElem? (i := 76) rfl))) (ty := (.object "com/example/mergewell/mergewell/core/Feature")) (by decide)
            show Go p e below _ (T16.setTop (mkF m 179 #[.val (.int p1), .val (.int p2), .val (.int p3), .val (.int p4), .val (.ref b5), .val (.ref b10), .val (.ref x), .val (.int (p4 &&& (3 : Int32))), .val (.int (0 : Int32)), .val (.ref x), .val (.ref b13), .val (.int (((p1.toUInt32 >>> ((2 : Int32) &&& 31).toUInt32).toInt32) &&& (3 : Int32))), .val (.ref w_CONTAINMENT)] [(.ref b16)]))
            refine Go.st (fun _ kk => XS.dup X16.here hx rfl (hb hby at_179) rfl rfl kk) ?_
            show Go p e below _ (T16.setTop (mkF m 180 #[.val (.int p1), .val (.int p2), .val (.int p3), .val (.int p4), .val (.ref b5), .val (.ref b10), .val (.ref x), .val (.int (p4 &&& (3 : Int32))), .val (.int (0 : Int32)), .val (.ref x), .val (.ref b13), .val (.int (((p1.toUInt32 >>> ((2 : Int32) &&& 31).toUInt32).toInt32) &&& (3 : Int32))), .val (.ref w_CONTAINMENT)] [(.ref b16), (.ref b16)]))
            refine Go.st (fun _ kk => XS.aload X16.here hx rfl (hb hby at_180) rfl rfl  kk) ?_
            show Go p e below _ (T16.setTop (mkF m 182 #[.val (.int p1), .val (.int p2), .val (.int p3), .val (.int p4), .val (.ref b5), .val (.ref b10), .val (.ref x), .val (.int (p4 &&& (3 : Int32))), .val (.int (0 : Int32)), .val (.ref x), .val (.ref b13), .val (.int (((p1.toUInt32 >>> ((2 : Int32) &&& 31).toUInt32).toInt32) &&& (3 : Int32))), .val (.ref w_CONTAINMENT)] [(.ref x), (.ref b16), (.ref b16)]))
            refine Go.st (fun _ kk => XS.aload X16.here hx rfl (hb hby at_182) rfl rfl  kk) ?_
            show Go p e below _ (T16.setTop (mkF m 184 #[.val (.int p1), .val (.int p2), .val (.int p3), .val (.int p4), .val (.ref b5), .val (.ref b10), .val (.ref x), .val (.int (p4 &&& (3 : Int32))), .val (.int (0 : Int32)), .val (.ref x), .val (.ref b13), .val (.int (((p1.toUInt32 >>> ((2 : Int32) &&& 31).toUInt32).toInt32) &&& (3 : Int32))), .val (.ref w_CONTAINMENT)] [(.ref b13), (.ref x), (.ref b16), (.ref b16)]))
            obtain ⟨_, _, ⟨T17, L17, k17, n17⟩, -, X17, ⟨Lc17, hQ17, l17, y17, z17⟩, st17⟩ := X16.specialBack hx (y := (⟨"com/example/mergewell/mergewell/core/Slot", "<init>", "(Ljava/lang/String;Lcom/example/mergewell/mergewell/core/Feature;)V"⟩ : MethodName)) rfl hown (mvT hZ (hw _ (List.mem_of_getElem? (i := 69) rfl))) (mvT hZ (hw _ (List.mem_of_getElem? (i := 70) rfl))) (mvT hZ (hw _ (List.mem_of_getElem? (i := 71) rfl))) (by decide) (backOf (W := 1) (rm11bb_o l Z a0 hw [] b16 x b13 .null .null h16 n0 (Nat.le_trans Z0 K16.1) E_b16 F_owner_b16 g_b16 F_feature_b16) hZ (hw _ (List.mem_of_getElem? (i := 71) rfl)) (hw _ (List.mem_of_getElem? (i := 68) rfl)) (by decide) (by decide)) (g := (mkF m 184 #[.val (.int p1), .val (.int p2), .val (.int p3), .val (.int p4), .val (.ref b5), .val (.ref b10), .val (.ref x), .val (.int (p4 &&& (3 : Int32))), .val (.int (0 : Int32)), .val (.ref x), .val (.ref b13), .val (.int (((p1.toUInt32 >>> ((2 : Int32) &&& 31).toUInt32).toInt32) &&& (3 : Int32))), .val (.ref w_CONTAINMENT)] [(.ref b13), (.ref x), (.ref b16), (.ref b16)])) rfl (by rw [hml]; rfl) (Steps.refl _) (a := b16) (argsL := [(.ref x), (.ref b13)]) (rest := [(.ref b16)]) (lenOf pd_12 rfl) rfl (by show 2 * 0 + _ ≤ _; exact Nat.le_of_eq rfl) (hb hby at_184) (fun _ _ => ⟨rfl, e16, (by decide : 18 + 0 ≤ _), (by decide : 107 + 0 ≤ _)⟩)
            dsimp only [Pt.U, Pt.locs, Pt.cells, Pt.slots] at X17 l17 y17 z17 st17 hQ17
            subst l17 y17 z17
            obtain ⟨rfl, N17q, Kc17, P17_0, P17_1⟩ := hQ17
            have K17 : Keep h0 T17.heap [] := K16.trans Kc17 (allS (Or.inr sz_b16) all0)
            have N17 := Fr.app N15 N17q
            refine Go.tr st17 ?_
            show Go p e below _ (T17.setTop (mkF m 187 #[.val (.int p1), .val (.int p2), .val (.int p3), .val (.int p4), .val (.ref b5), .val (.ref b10), .val (.ref x), .val (.int (p4 &&& (3 : Int32))), .val (.int (0 : Int32)), .val (.ref x), .val (.ref b13), .val (.int (((p1.toUInt32 >>> ((2 : Int32) &&& 31).toUInt32).toInt32) &&& (3 : Int32))), .val (.ref w_CONTAINMENT)] [(.ref b16)]))
            refine Go.st (fun _ kk => XS.astore X17.here hx rfl (hb hby at_187) rfl rfl (l' := #[.val (.int p1), .val (.int p2), .val (.int p3), .val (.int p4), .val (.ref b5), .val (.ref b10), .val (.ref x), .val (.int (p4 &&& (3 : Int32))), .val (.int (0 : Int32)), .val (.ref x), .val (.ref b13), .val (.ref b16), .val (.ref w_CONTAINMENT)]) rfl kk) ?_
            show Go p e below _ (T17.setTop (mkF m 189 #[.val (.int p1), .val (.int p2), .val (.int p3), .val (.int p4), .val (.ref b5), .val (.ref b10), .val (.ref x), .val (.int (p4 &&& (3 : Int32))), .val (.int (0 : Int32)), .val (.ref x), .val (.ref b13), .val (.ref b16), .val (.ref w_CONTAINMENT)] []))
            refine Go.st (fun _ kk => XS.aload X17.here hx rfl (hb hby at_189) rfl rfl  kk) ?_
            show Go p e below _ (T17.setTop (mkF m 191 #[.val (.int p1), .val (.int p2), .val (.int p3), .val (.int p4), .val (.ref b5), .val (.ref b10), .val (.ref x), .val (.int (p4 &&& (3 : Int32))), .val (.int (0 : Int32)), .val (.ref x), .val (.ref b13), .val (.ref b16), .val (.ref w_CONTAINMENT)] [(.ref b16)]))
            obtain ⟨cq18, kq18, q18a, q18b, q18c⟩ := isOf hZ rfl P17_0
            obtain ⟨_, _, ⟨T18, L18, k18, n18⟩, -, X18, ⟨Lc18, hQ18, l18, y18, z18⟩, st18⟩ := X17.virtualBack hx (y := (⟨"com/example/mergewell/mergewell/core/Slot", "isRoot", "()Z"⟩ : MethodName)) (z := (⟨"com/example/mergewell/mergewell/core/Slot", "isRoot", "()Z"⟩ : MethodName)) hown (mvT hZ (hw _ (List.mem_of_getElem? (i := 77) rfl))) (mvT hZ (hw _ (List.mem_of_getElem? (i := 78) rfl))) (notFace_of_selects (args := #[]) (mvT hZ (hw _ (List.mem_of_getElem? (i := 80) rfl)))) (mvT hZ (hw _ (List.mem_of_getElem? (i := 80) rfl))) (mvT hZ (hw _ (List.mem_of_getElem? (i := 79) rfl))) (by decide) (backOf (W := 0) (rm12_o l Z a0 hw [] b16 x T17.heap n0 (Nat.le_trans Z0 K17.1) P17_1) hZ (hw _ (List.mem_of_getElem? (i := 81) rfl)) (hw _ (List.mem_of_getElem? (i := 68) rfl)) (by decide) (by decide)) q18a q18c (g := (mkF m 191 #[.val (.int p1), .val (.int p2), .val (.int p3), .val (.int p4), .val (.ref b5), .val (.ref b10), .val (.ref x), .val (.int (p4 &&& (3 : Int32))), .val (.int (0 : Int32)), .val (.ref x), .val (.ref b13), .val (.ref b16), .val (.ref w_CONTAINMENT)] [(.ref b16)])) rfl (by rw [hml]; rfl) (Steps.refl _) (argsL := []) (rest := []) (lenOf pd_13 rfl) rfl (by show 2 * 0 + _ ≤ _; exact Nat.le_of_eq rfl) (hb hby at_191) (fun _ _ => ⟨rfl, rfl, (by decide : 18 + 0 ≤ _), (by decide : 107 + 0 ≤ _)⟩)
            dsimp only [Pt.U, Pt.locs, Pt.cells, Pt.slots] at X18 l18 y18 z18 st18 hQ18
            subst l18 y18 z18
            obtain ⟨rfl, N18q, eq18⟩ := hQ18
            have N18 := Fr.app N17 N18q
            refine Go.tr st18 ?_
            show Go p e below _ (T18.setTop (mkF m 194 #[.val (.int p1), .val (.int p2), .val (.int p3), .val (.int p4), .val (.ref b5), .val (.ref b10), .val (.ref x), .val (.int (p4 &&& (3 : Int32))), .val (.int (0 : Int32)), .val (.ref x), .val (.ref b13), .val (.ref b16), .val (.ref w_CONTAINMENT)] [(.int (0 : Int32))]))
            refine Go.st (fun _ kk => XS.iload X18.here hx rfl (hb hby at_194) rfl  kk) ?_
            show Go p e below _ (T18.setTop (mkF m 196 #[.val (.int p1), .val (.int p2), .val (.int p3), .val (.int p4), .val (.ref b5), .val (.ref b10), .val (.ref x), .val (.int (p4 &&& (3 : Int32))), .val (.int (0 : Int32)), .val (.ref x), .val (.ref b13), .val (.ref b16), .val (.ref w_CONTAINMENT)] [(.int (0 : Int32)), (.int (0 : Int32))]))
            refine Go.st (fun _ kk => XS.icmpNo X18.here hx rfl (hb hby at_196) rfl (teq (by decide : ((0 : Int32) = (0 : Int32)))).2 kk) ?_
            show Go p e below _ (T18.setTop (mkF m 199 #[.val (.int p1), .val (.int p2), .val (.int p3), .val (.int p4), .val (.ref b5), .val (.ref b10), .val (.ref x), .val (.int (p4 &&& (3 : Int32))), .val (.int (0 : Int32)), .val (.ref x), .val (.ref b13), .val (.ref b16), .val (.ref w_CONTAINMENT)] []))
            have f_19 := (staKeep0 S_ROOT K17)
            obtain ⟨T20, X20, e20, st20⟩ := getS2 X18 hx hZ hown (host := "") (Or.inl (hw _ (List.mem_of_getElem? (i := 82) rfl))) Via.refl eq18 f_19 (g := (mkF m 199 #[.val (.int p1), .val (.int p2), .val (.int p3), .val (.int p4), .val (.ref b5), .val (.ref b10), .val (.ref x), .val (.int (p4 &&& (3 : Int32))), .val (.int (0 : Int32)), .val (.ref x), .val (.ref b13), .val (.ref b16), .val (.ref w_CONTAINMENT)] [])) rfl (hb hby at_199)
            refine Go.st st20 ?_
            show Go p e below _ (T20.setTop (mkF m 202 #[.val (.int p1), .val (.int p2), .val (.int p3), .val (.int p4), .val (.ref b5), .val (.ref b10), .val (.ref x), .val (.int (p4 &&& (3 : Int32))), .val (.int (0 : Int32)), .val (.ref x), .val (.ref b13), .val (.ref b16), .val (.ref w_CONTAINMENT)] [(.ref w_ROOT)]))
            have f_21 := (E_w_ROOT.keep K17)
            have f_22 := (F_owner_w_ROOT.keep K17 nin0)
            obtain ⟨cq23, kq23, q23a, q23b, q23c⟩ := isOf hZ e20 f_21
            obtain ⟨_, _, ⟨T23, L23, k23, n23⟩, -, X23, ⟨Lc23, hQ23, l23, y23, z23⟩, st23⟩ := X20.virtualBack hx (y := (⟨"com/example/mergewell/mergewell/core/Slot", "isRoot", "()Z"⟩ : MethodName)) (z := (⟨"com/example/mergewell/mergewell/core/Slot", "isRoot", "()Z"⟩ : MethodName)) hown (mvT hZ (hw _ (List.mem_of_getElem? (i := 77) rfl))) (mvT hZ (hw _ (List.mem_of_getElem? (i := 78) rfl))) (notFace_of_selects (args := #[]) (mvT hZ (hw _ (List.mem_of_getElem? (i := 80) rfl)))) (mvT hZ (hw _ (List.mem_of_getElem? (i := 80) rfl))) (mvT hZ (hw _ (List.mem_of_getElem? (i := 79) rfl))) (by decide) (backOf (W := 0) (rm12n_o l Z a0 hw [] w_ROOT T17.heap n0 (Nat.le_trans Z0 K17.1) f_22) hZ (hw _ (List.mem_of_getElem? (i := 81) rfl)) (hw _ (List.mem_of_getElem? (i := 68) rfl)) (by decide) (by decide)) q23a q23c (g := (mkF m 202 #[.val (.int p1), .val (.int p2), .val (.int p3), .val (.int p4), .val (.ref b5), .val (.ref b10), .val (.ref x), .val (.int (p4 &&& (3 : Int32))), .val (.int (0 : Int32)), .val (.ref x), .val (.ref b13), .val (.ref b16), .val (.ref w_CONTAINMENT)] [(.ref w_ROOT)])) rfl (by rw [hml]; rfl) (Steps.refl _) (argsL := []) (rest := []) (lenOf pd_13 rfl) rfl (by show 2 * 0 + _ ≤ _; exact Nat.le_of_eq rfl) (hb hby at_202) (fun _ _ => ⟨rfl, e20, (by decide : 18 + 0 ≤ _), (by decide : 107 + 0 ≤ _)⟩)
            dsimp only [Pt.U, Pt.locs, Pt.cells, Pt.slots] at X23 l23 y23 z23 st23 hQ23
            subst l23 y23 z23
            obtain ⟨rfl, N23q, eq23⟩ := hQ23
            have N23 := Fr.app N18 N23q
            refine Go.tr st23 ?_
            show Go p e below _ (T23.setTop (mkF m 205 #[.val (.int p1), .val (.int p2), .val (.int p3), .val (.int p4), .val (.ref b5), .val (.ref b10), .val (.ref x), .val (.int (p4 &&& (3 : Int32))), .val (.int (0 : Int32)), .val (.ref x), .val (.ref b13), .val (.ref b16), .val (.ref w_CONTAINMENT)] [(.int (1 : Int32))]))
            refine Go.st (fun _ kk => XS.ifNo X23.here hx rfl (hb hby at_205) rfl ((if0 _ _).trans (feq (by decide : ¬ ((1 : Int32) = (0 : Int32)))).1) kk) ?_
            show Go p e below _ (T23.setTop (mkF m 208 #[.val (.int p1), .val (.int p2), .val (.int p3), .val (.int p4), .val (.ref b5), .val (.ref b10), .val (.ref x), .val (.int (p4 &&& (3 : Int32))), .val (.int (0 : Int32)), .val (.ref x), .val (.ref b13), .val (.ref b16), .val (.ref w_CONTAINMENT)] []))
            refine Go.st (fun _ kk => XS.iconst X23.here hx rfl (hb hby at_208) kk) ?_
            show Go p e below _ (T23.setTop (mkF m 209 #[.val (.int p1), .val (.int p2), .val (.int p3), .val (.int p4), .val (.ref b5), .val (.ref b10), .val (.ref x), .val (.int (p4 &&& (3 : Int32))), .val (.int (0 : Int32)), .val (.ref x), .val (.ref b13), .val (.ref b16), .val (.ref w_CONTAINMENT)] [(.int (1 : Int32))]))
            refine Go.st (fun _ kk => XS.goto X23.here hx rfl (pc0 := 209) (pc' := 213) rfl (hb hby at_209) (by decide) (by decide) kk) ?_
            show Go p e below _ (T23.setTop (mkF m 213 #[.val (.int p1), .val (.int p2), .val (.int p3), .val (.int p4), .val (.ref b5), .val (.ref b10), .val (.ref x), .val (.int (p4 &&& (3 : Int32))), .val (.int (0 : Int32)), .val (.ref x), .val (.ref b13), .val (.ref b16), .val (.ref w_CONTAINMENT)] [(.int (1 : Int32))]))
            have hk := (Nat.le_trans (Nat.le_trans hk E16.1) Kc17.1)
            exact Go.retW (Q := Q0 n0) hS (hk) X23 (v := some (.int (1 : Int32))) (fun h => by rw [Bd.returns] at h; cases h) Bd.notSynchronized (fun fs hr => retN X23 hx (t := .boolean) Bd.returns (by simp) (hb hby at_213) hr) eq23 ⟨rfl, N23⟩ (by decide) (by decide)
      · skip
        refine Go.st (fun _ kk => XS.ifYes X.here hx rfl (pc0 := 113) (pc' := 176) rfl (hb hby at_113) rfl ((if0 _ _).trans (feq hc_2).2) (by decide) (by decide) kk) ?_
        show Go p e below _ (T.setTop (mkF m 176 #[.val (.int p1), .val (.int p2), .val (.int p3), .val (.int p4), .val (.ref b5), .val (.ref b10), .val (.ref x), .val (.int (p4 &&& (3 : Int32))), .val (.int (0 : Int32)), .val (.ref x), .val .null, .unset, .unset] []))
        obtain ⟨T11, h11, X11, e11, E11, A11, D11, -, st11⟩ := newO X hx hZ hown (hw _ (List.mem_of_getElem? (i := 66) rfl)) (hw _ (List.mem_of_getElem? (i := 67) rfl)) (hw _ (List.mem_of_getElem? (i := 68) rfl)) eT (g := (mkF m 176 #[.val (.int p1), .val (.int p2), .val (.int p3), .val (.int p4), .val (.ref b5), .val (.ref b10), .val (.ref x), .val (.int (p4 &&& (3 : Int32))), .val (.int (0 : Int32)), .val (.ref x), .val .null, .unset, .unset] [])) rfl (hb hby at_176) (by decide) (by decide)
        obtain ⟨b11, g11⟩ : ∃ z, z = h.size := ⟨_, rfl⟩
        rw [← g11] at A11 D11 st11
        refine Go.st st11 ?_
        have g_b11 : n0 ≤ b11 := Nat.le_trans (Nat.le_trans Z0 K.1) (Nat.le_of_eq g11.symm)
        have sz_b11 : h0.size ≤ b11 := Nat.le_trans K.1 (Nat.le_of_eq g11.symm)
        have K11 : Keep h0 h11 [] := K.ext E11
        have E_b11 : Exa Z h11 b11 "com/example/mergewell/mergewell/core/Slot" := A11
        have F_owner_b11 : Fld Z h11 b11 "com/example/mergewell/mergewell/core/Slot" "owner" "Ljava/lang/String;" .null := D11 (Or.inr (hw _ (List.mem_of_getElem? (i := 74) rfl))) (ty := (.object "java/lang/String")) (by decide)
        have F_feature_b11 : Fld Z h11 b11 "com/example/mergewell/mergewell/core/Slot" "feature" "Lcom/example/mergewell/mergewell/core/Feature;" .null := D11 (Or.inr (hw _ (List.mem_of_getElem? (i := 76) rfl))) (ty := (.object "com/example/mergewell/mergewell/core/Feature")) (by decide)
        show Go p e below _ (T11.setTop (mkF m 179 #[.val (.int p1), .val (.int p2), .val (.int p3), .val (.int p4), .val (.ref b5), .val (.ref b10), .val (.ref x), .val (.int (p4 &&& (3 : Int32))), .val (.int (0 : Int32)), .val (.ref x), .val .null, .unset, .unset] [(.ref b11)]))
        refine Go.st (fun _ kk => XS.dup X11.here hx rfl (hb hby at_179) rfl rfl kk) ?_
        show Go p e below _ (T11.setTop (mkF m 180 #[.val (.int p1), .val (.int p2), .val (.int p3), .val (.int p4), .val (.ref b5), .val (.ref b10), .val (.ref x), .val (.int (p4 &&& (3 : Int32))), .val (.int (0 : Int32)), .val (.ref x), .val .null, .unset, .unset] [(.ref b11), (.ref b11)]))
        refine Go.st (fun _ kk => XS.aload X11.here hx rfl (hb hby at_180) rfl rfl  kk) ?_
        show Go p e below _ (T11.setTop (mkF m 182 #[.val (.int p1), .val (.int p2), .val (.int p3), .val (.int p4), .val (.ref b5), .val (.ref b10), .val (.ref x), .val (.int (p4 &&& (3 : Int32))), .val (.int (0 : Int32)), .val (.ref x), .val .null, .unset, .unset] [(.ref x), (.ref b11), (.ref b11)]))
        refine Go.st (fun _ kk => XS.aload X11.here hx rfl (hb hby at_182) rfl rfl  kk) ?_
        show Go p e below _ (T11.setTop (mkF m 184 #[.val (.int p1), .val (.int p2), .val (.int p3), .val (.int p4), .val (.ref b5), .val (.ref b10), .val (.ref x), .val (.int (p4 &&& (3 : Int32))), .val (.int (0 : Int32)), .val (.ref x), .val .null, .unset, .unset] [.null, (.ref x), (.ref b11), (.ref b11)]))
        obtain ⟨_, _, ⟨T12, L12, k12, n12⟩, -, X12, ⟨Lc12, hQ12, l12, y12, z12⟩, st12⟩ := X11.specialBack hx (y := (⟨"com/example/mergewell/mergewell/core/Slot", "<init>", "(Ljava/lang/String;Lcom/example/mergewell/mergewell/core/Feature;)V"⟩ : MethodName)) rfl hown (mvT hZ (hw _ (List.mem_of_getElem? (i := 69) rfl))) (mvT hZ (hw _ (List.mem_of_getElem? (i := 70) rfl))) (mvT hZ (hw _ (List.mem_of_getElem? (i := 71) rfl))) (by decide) (backOf (W := 1) (rm11ba_o l Z a0 hw [] b11 x .null .null h11 n0 (Nat.le_trans Z0 K11.1) E_b11 F_owner_b11 g_b11 F_feature_b11) hZ (hw _ (List.mem_of_getElem? (i := 71) rfl)) (hw _ (List.mem_of_getElem? (i := 68) rfl)) (by decide) (by decide)) (g := (mkF m 184 #[.val (.int p1), .val (.int p2), .val (.int p3), .val (.int p4), .val (.ref b5), .val (.ref b10), .val (.ref x), .val (.int (p4 &&& (3 : Int32))), .val (.int (0 : Int32)), .val (.ref x), .val .null, .unset, .unset] [.null, (.ref x), (.ref b11), (.ref b11)])) rfl (by rw [hml]; rfl) (Steps.refl _) (a := b11) (argsL := [(.ref x), .null]) (rest := [(.ref b11)]) (lenOf pd_12 rfl) rfl (by show 2 * 0 + _ ≤ _; exact Nat.le_of_eq rfl) (hb hby at_184) (fun _ _ => ⟨rfl, e11, (by decide : 13 + 0 ≤ _), (by decide : 62 + 0 ≤ _)⟩)
        dsimp only [Pt.U, Pt.locs, Pt.cells, Pt.slots] at X12 l12 y12 z12 st12 hQ12
        subst l12 y12 z12
        obtain ⟨rfl, N12q, Kc12, P12_0, P12_1⟩ := hQ12
        have K12 : Keep h0 T12.heap [] := K11.trans Kc12 (allS (Or.inr sz_b11) all0)
        have N12 := Fr.app N N12q
        refine Go.tr st12 ?_
        show Go p e below _ (T12.setTop (mkF m 187 #[.val (.int p1), .val (.int p2), .val (.int p3), .val (.int p4), .val (.ref b5), .val (.ref b10), .val (.ref x), .val (.int (p4 &&& (3 : Int32))), .val (.int (0 : Int32)), .val (.ref x), .val .null, .unset, .unset] [(.ref b11)]))
        refine Go.st (fun _ kk => XS.astore X12.here hx rfl (hb hby at_187) rfl rfl (l' := #[.val (.int p1), .val (.int p2), .val (.int p3), .val (.int p4), .val (.ref b5), .val (.ref b10), .val (.ref x), .val (.int (p4 &&& (3 : Int32))), .val (.int (0 : Int32)), .val (.ref x), .val .null, .val (.ref b11), .unset]) rfl kk) ?_
        show Go p e below _ (T12.setTop (mkF m 189 #[.val (.int p1), .val (.int p2), .val (.int p3), .val (.int p4), .val (.ref b5), .val (.ref b10), .val (.ref x), .val (.int (p4 &&& (3 : Int32))), .val (.int (0 : Int32)), .val (.ref x), .val .null, .val (.ref b11), .unset] []))
        refine Go.st (fun _ kk => XS.aload X12.here hx rfl (hb hby at_189) rfl rfl  kk) ?_
        show Go p e below _ (T12.setTop (mkF m 191 #[.val (.int p1), .val (.int p2), .val (.int p3), .val (.int p4), .val (.ref b5), .val (.ref b10), .val (.ref x), .val (.int (p4 &&& (3 : Int32))), .val (.int (0 : Int32)), .val (.ref x), .val .null, .val (.ref b11), .unset] [(.ref b11)]))
        obtain ⟨cq13, kq13, q13a, q13b, q13c⟩ := isOf hZ rfl P12_0
        obtain ⟨_, _, ⟨T13, L13, k13, n13⟩, -, X13, ⟨Lc13, hQ13, l13, y13, z13⟩, st13⟩ := X12.virtualBack hx (y := (⟨"com/example/mergewell/mergewell/core/Slot", "isRoot", "()Z"⟩ : MethodName)) (z := (⟨"com/example/mergewell/mergewell/core/Slot", "isRoot", "()Z"⟩ : MethodName)) hown (mvT hZ (hw _ (List.mem_of_getElem? (i := 77) rfl))) (mvT hZ (hw _ (List.mem_of_getElem? (i := 78) rfl))) (notFace_of_selects (args := #[]) (mvT hZ (hw _ (List.mem_of_getElem? (i := 80) rfl)))) (mvT hZ (hw _ (List.mem_of_getElem? (i := 80) rfl))) (mvT hZ (hw _ (List.mem_of_getElem? (i := 79) rfl))) (by decide) (backOf (W := 0) (rm12_o l Z a0 hw [] b11 x T12.heap n0 (Nat.le_trans Z0 K12.1) P12_1) hZ (hw _ (List.mem_of_getElem? (i := 81) rfl)) (hw _ (List.mem_of_getElem? (i := 68) rfl)) (by decide) (by decide)) q13a q13c (g := (mkF m 191 #[.val (.int p1), .val (.int p2), .val (.int p3), .val (.int p4), .val (.ref b5), .val (.ref b10), .val (.ref x), .val (.int (p4 &&& (3 : Int32))), .val (.int (0 : Int32)), .val (.ref x), .val .null, .val (.ref b11), .unset] [(.ref b11)])) rfl (by rw [hml]; rfl) (Steps.refl _) (argsL := []) (rest := []) (lenOf pd_13 rfl) rfl (by show 2 * 0 + _ ≤ _; exact Nat.le_of_eq rfl) (hb hby at_191) (fun _ _ => ⟨rfl, rfl, (by decide : 13 + 0 ≤ _), (by decide : 62 + 0 ≤ _)⟩)
        dsimp only [Pt.U, Pt.locs, Pt.cells, Pt.slots] at X13 l13 y13 z13 st13 hQ13
        subst l13 y13 z13
        obtain ⟨rfl, N13q, eq13⟩ := hQ13
        have N13 := Fr.app N12 N13q
        refine Go.tr st13 ?_
        show Go p e below _ (T13.setTop (mkF m 194 #[.val (.int p1), .val (.int p2), .val (.int p3), .val (.int p4), .val (.ref b5), .val (.ref b10), .val (.ref x), .val (.int (p4 &&& (3 : Int32))), .val (.int (0 : Int32)), .val (.ref x), .val .null, .val (.ref b11), .unset] [(.int (0 : Int32))]))
        refine Go.st (fun _ kk => XS.iload X13.here hx rfl (hb hby at_194) rfl  kk) ?_
        show Go p e below _ (T13.setTop (mkF m 196 #[.val (.int p1), .val (.int p2), .val (.int p3), .val (.int p4), .val (.ref b5), .val (.ref b10), .val (.ref x), .val (.int (p4 &&& (3 : Int32))), .val (.int (0 : Int32)), .val (.ref x), .val .null, .val (.ref b11), .unset] [(.int (0 : Int32)), (.int (0 : Int32))]))
        refine Go.st (fun _ kk => XS.icmpNo X13.here hx rfl (hb hby at_196) rfl (teq (by decide : ((0 : Int32) = (0 : Int32)))).2 kk) ?_
        show Go p e below _ (T13.setTop (mkF m 199 #[.val (.int p1), .val (.int p2), .val (.int p3), .val (.int p4), .val (.ref b5), .val (.ref b10), .val (.ref x), .val (.int (p4 &&& (3 : Int32))), .val (.int (0 : Int32)), .val (.ref x), .val .null, .val (.ref b11), .unset] []))
        have f_14 := (staKeep0 S_ROOT K12)
        obtain ⟨T15, X15, e15, st15⟩ := getS2 X13 hx hZ hown (host := "") (Or.inl (hw _ (List.mem_of_getElem? (i := 82) rfl))) Via.refl eq13 f_14 (g := (mkF m 199 #[.val (.int p1), .val (.int p2), .val (.int p3), .val (.int p4), .val (.ref b5), .val (.ref b10), .val (.ref x), .val (.int (p4 &&& (3 : Int32))), .val (.int (0 : Int32)), .val (.ref x), .val .null, .val (.ref b11), .unset] [])) rfl (hb hby at_199)
        refine Go.st st15 ?_
        show Go p e below _ (T15.setTop (mkF m 202 #[.val (.int p1), .val (.int p2), .val (.int p3), .val (.int p4), .val (.ref b5), .val (.ref b10), .val (.ref x), .val (.int (p4 &&& (3 : Int32))), .val (.int (0 : Int32)), .val (.ref x), .val .null, .val (.ref b11), .unset] [(.ref w_ROOT)]))
        have f_16 := (E_w_ROOT.keep K12)
        have f_17 := (F_owner_w_ROOT.keep K12 nin0)
        obtain ⟨cq18, kq18, q18a, q18b, q18c⟩ := isOf hZ e15 f_16
        obtain ⟨_, _, ⟨T18, L18, k18, n18⟩, -, X18, ⟨Lc18, hQ18, l18, y18, z18⟩, st18⟩ := X15.virtualBack hx (y := (⟨"com/example/mergewell/mergewell/core/Slot", "isRoot", "()Z"⟩ : MethodName)) (z := (⟨"com/example/mergewell/mergewell/core/Slot", "isRoot", "()Z"⟩ : MethodName)) hown (mvT hZ (hw _ (List.mem_of_getElem? (i := 77) rfl))) (mvT hZ (hw _ (List.mem_of_getElem? (i := 78) rfl))) (notFace_of_selects (args := #[]) (mvT hZ (hw _ (List.mem_of_getElem? (i := 80) rfl)))) (mvT hZ (hw _ (List.mem_of_getElem? (i := 80) rfl))) (mvT hZ (hw _ (List.mem_of_getElem? (i := 79) rfl))) (by decide) (backOf (W := 0) (rm12n_o l Z a0 hw [] w_ROOT T12.heap n0 (Nat.le_trans Z0 K12.1) f_17) hZ (hw _ (List.mem_of_getElem? (i := 81) rfl)) (hw _ (List.mem_of_getElem? (i := 68) rfl)) (by decide) (by decide)) q18a q18c (g := (mkF m 202 #[.val (.int p1), .val (.int p2), .val (.int p3), .val (.int p4), .val (.ref b5), .val (.ref b10), .val (.ref x), .val (.int (p4 &&& (3 : Int32))), .val (.int (0 : Int32)), .val (.ref x), .val .null, .val (.ref b11), .unset] [(.ref w_ROOT)])) rfl (by rw [hml]; rfl) (Steps.refl _) (argsL := []) (rest := []) (lenOf pd_13 rfl) rfl (by show 2 * 0 + _ ≤ _; exact Nat.le_of_eq rfl) (hb hby at_202) (fun _ _ => ⟨rfl, e15, (by decide : 13 + 0 ≤ _), (by decide : 62 + 0 ≤ _)⟩)
        dsimp only [Pt.U, Pt.locs, Pt.cells, Pt.slots] at X18 l18 y18 z18 st18 hQ18
        subst l18 y18 z18
        obtain ⟨rfl, N18q, eq18⟩ := hQ18
        have N18 := Fr.app N13 N18q
        refine Go.tr st18 ?_
        show Go p e below _ (T18.setTop (mkF m 205 #[.val (.int p1), .val (.int p2), .val (.int p3), .val (.int p4), .val (.ref b5), .val (.ref b10), .val (.ref x), .val (.int (p4 &&& (3 : Int32))), .val (.int (0 : Int32)), .val (.ref x), .val .null, .val (.ref b11), .unset] [(.int (1 : Int32))]))
        refine Go.st (fun _ kk => XS.ifNo X18.here hx rfl (hb hby at_205) rfl ((if0 _ _).trans (feq (by decide : ¬ ((1 : Int32) = (0 : Int32)))).1) kk) ?_
        show Go p e below _ (T18.setTop (mkF m 208 #[.val (.int p1), .val (.int p2), .val (.int p3), .val (.int p4), .val (.ref b5), .val (.ref b10), .val (.ref x), .val (.int (p4 &&& (3 : Int32))), .val (.int (0 : Int32)), .val (.ref x), .val .null, .val (.ref b11), .unset] []))
        refine Go.st (fun _ kk => XS.iconst X18.here hx rfl (hb hby at_208) kk) ?_
        show Go p e below _ (T18.setTop (mkF m 209 #[.val (.int p1), .val (.int p2), .val (.int p3), .val (.int p4), .val (.ref b5), .val (.ref b10), .val (.ref x), .val (.int (p4 &&& (3 : Int32))), .val (.int (0 : Int32)), .val (.ref x), .val .null, .val (.ref b11), .unset] [(.int (1 : Int32))]))
        refine Go.st (fun _ kk => XS.goto X18.here hx rfl (pc0 := 209) (pc' := 213) rfl (hb hby at_209) (by decide) (by decide) kk) ?_
        show Go p e below _ (T18.setTop (mkF m 213 #[.val (.int p1), .val (.int p2), .val (.int p3), .val (.int p4), .val (.ref b5), .val (.ref b10), .val (.ref x), .val (.int (p4 &&& (3 : Int32))), .val (.int (0 : Int32)), .val (.ref x), .val .null, .val (.ref b11), .unset] [(.int (1 : Int32))]))
        have hk := (Nat.le_trans (Nat.le_trans hk E11.1) Kc12.1)
        exact Go.retW (Q := Q0 n0) hS (hk) X18 (v := some (.int (1 : Int32))) (fun h => by rw [Bd.returns] at h; cases h) Bd.notSynchronized (fun fs hr => retN X18 hx (t := .boolean) Bd.returns (by simp) (hb hby at_213) hr) eq18 ⟨rfl, N18⟩ (by decide) (by decide)
    · skip
      refine Go.st (fun _ kk => XS.ifNo X.here hx rfl (hb hby at_84) rfl ((if0 _ _).trans (feq hc_1).1) kk) ?_
      show Go p e below _ (T.setTop (mkF m 87 #[.val (.int p1), .val (.int p2), .val (.int p3), .val (.int p4), .val (.ref b5), .val (.ref b10), .val (.ref x), .val (.int (p4 &&& (3 : Int32))), .unset, .unset, .unset, .unset, .unset] []))
      refine Go.st (fun _ kk => XS.iconst X.here hx rfl (hb hby at_87) kk) ?_
      show Go p e below _ (T.setTop (mkF m 88 #[.val (.int p1), .val (.int p2), .val (.int p3), .val (.int p4), .val (.ref b5), .val (.ref b10), .val (.ref x), .val (.int (p4 &&& (3 : Int32))), .unset, .unset, .unset, .unset, .unset] [(.int (1 : Int32))]))
      refine Go.st (fun _ kk => XS.goto X.here hx rfl (pc0 := 88) (pc' := 92) rfl (hb hby at_88) (by decide) (by decide) kk) ?_
      show Go p e below _ (T.setTop (mkF m 92 #[.val (.int p1), .val (.int p2), .val (.int p3), .val (.int p4), .val (.ref b5), .val (.ref b10), .val (.ref x), .val (.int (p4 &&& (3 : Int32))), .unset, .unset, .unset, .unset, .unset] [(.int (1 : Int32))]))
      refine Go.st (fun _ kk => XS.istore X.here hx rfl (hb hby at_92) rfl (l' := #[.val (.int p1), .val (.int p2), .val (.int p3), .val (.int p4), .val (.ref b5), .val (.ref b10), .val (.ref x), .val (.int (p4 &&& (3 : Int32))), .val (.int (1 : Int32)), .unset, .unset, .unset, .unset]) rfl kk) ?_
      show Go p e below _ (T.setTop (mkF m 94 #[.val (.int p1), .val (.int p2), .val (.int p3), .val (.int p4), .val (.ref b5), .val (.ref b10), .val (.ref x), .val (.int (p4 &&& (3 : Int32))), .val (.int (1 : Int32)), .unset, .unset, .unset, .unset] []))
      refine Go.st (fun _ kk => XS.iload X.here hx rfl (hb hby at_94) rfl  kk) ?_
      show Go p e below _ (T.setTop (mkF m 96 #[.val (.int p1), .val (.int p2), .val (.int p3), .val (.int p4), .val (.ref b5), .val (.ref b10), .val (.ref x), .val (.int (p4 &&& (3 : Int32))), .val (.int (1 : Int32)), .unset, .unset, .unset, .unset] [(.int (1 : Int32))]))
      refine Go.st (fun _ kk => XS.ifNo X.here hx rfl (hb hby at_96) rfl ((if0 _ _).trans (feq (by decide : ¬ ((1 : Int32) = (0 : Int32)))).1) kk) ?_
      show Go p e below _ (T.setTop (mkF m 99 #[.val (.int p1), .val (.int p2), .val (.int p3), .val (.int p4), .val (.ref b5), .val (.ref b10), .val (.ref x), .val (.int (p4 &&& (3 : Int32))), .val (.int (1 : Int32)), .unset, .unset, .unset, .unset] []))
      refine Go.st (fun _ kk => XS.aconstNull X.here hx rfl (hb hby at_99) kk) ?_
      show Go p e below _ (T.setTop (mkF m 100 #[.val (.int p1), .val (.int p2), .val (.int p3), .val (.int p4), .val (.ref b5), .val (.ref b10), .val (.ref x), .val (.int (p4 &&& (3 : Int32))), .val (.int (1 : Int32)), .unset, .unset, .unset, .unset] [.null]))
      refine Go.st (fun _ kk => XS.goto X.here hx rfl (pc0 := 100) (pc' := 105) rfl (hb hby at_100) (by decide) (by decide) kk) ?_
      show Go p e below _ (T.setTop (mkF m 105 #[.val (.int p1), .val (.int p2), .val (.int p3), .val (.int p4), .val (.ref b5), .val (.ref b10), .val (.ref x), .val (.int (p4 &&& (3 : Int32))), .val (.int (1 : Int32)), .unset, .unset, .unset, .unset] [.null]))
      refine Go.st (fun _ kk => XS.astore X.here hx rfl (hb hby at_105) rfl rfl (l' := #[.val (.int p1), .val (.int p2), .val (.int p3), .val (.int p4), .val (.ref b5), .val (.ref b10), .val (.ref x), .val (.int (p4 &&& (3 : Int32))), .val (.int (1 : Int32)), .val .null, .unset, .unset, .unset]) rfl kk) ?_
      show Go p e below _ (T.setTop (mkF m 107 #[.val (.int p1), .val (.int p2), .val (.int p3), .val (.int p4), .val (.ref b5), .val (.ref b10), .val (.ref x), .val (.int (p4 &&& (3 : Int32))), .val (.int (1 : Int32)), .val .null, .unset, .unset, .unset] []))
      refine Go.st (fun _ kk => XS.aconstNull X.here hx rfl (hb hby at_107) kk) ?_
      show Go p e below _ (T.setTop (mkF m 108 #[.val (.int p1), .val (.int p2), .val (.int p3), .val (.int p4), .val (.ref b5), .val (.ref b10), .val (.ref x), .val (.int (p4 &&& (3 : Int32))), .val (.int (1 : Int32)), .val .null, .unset, .unset, .unset] [.null]))
      refine Go.st (fun _ kk => XS.astore X.here hx rfl (hb hby at_108) rfl rfl (l' := #[.val (.int p1), .val (.int p2), .val (.int p3), .val (.int p4), .val (.ref b5), .val (.ref b10), .val (.ref x), .val (.int (p4 &&& (3 : Int32))), .val (.int (1 : Int32)), .val .null, .val .null, .unset, .unset]) rfl kk) ?_
      show Go p e below _ (T.setTop (mkF m 110 #[.val (.int p1), .val (.int p2), .val (.int p3), .val (.int p4), .val (.ref b5), .val (.ref b10), .val (.ref x), .val (.int (p4 &&& (3 : Int32))), .val (.int (1 : Int32)), .val .null, .val .null, .unset, .unset] []))
      refine Go.st (fun _ kk => XS.iloadN X.here hx rfl (hb hby at_110) rfl  kk) ?_
      show Go p e below _ (T.setTop (mkF m 111 #[.val (.int p1), .val (.int p2), .val (.int p3), .val (.int p4), .val (.ref b5), .val (.ref b10), .val (.ref x), .val (.int (p4 &&& (3 : Int32))), .val (.int (1 : Int32)), .val .null, .val .null, .unset, .unset] [(.int p1)]))
      refine Go.st (fun _ kk => XS.iconst X.here hx rfl (hb hby at_111) kk) ?_
      show Go p e below _ (T.setTop (mkF m 112 #[.val (.int p1), .val (.int p2), .val (.int p3), .val (.int p4), .val (.ref b5), .val (.ref b10), .val (.ref x), .val (.int (p4 &&& (3 : Int32))), .val (.int (1 : Int32)), .val .null, .val .null, .unset, .unset] [(.int (2 : Int32)), (.int p1)]))
      refine Go.st (fun _ kk => XS.iand X.here hx rfl (hb hby at_112) rfl kk) ?_
      show Go p e below _ (T.setTop (mkF m 113 #[.val (.int p1), .val (.int p2), .val (.int p3), .val (.int p4), .val (.ref b5), .val (.ref b10), .val (.ref x), .val (.int (p4 &&& (3 : Int32))), .val (.int (1 : Int32)), .val .null, .val .null, .unset, .unset] [(.int (p1 &&& (2 : Int32)))]))
      by_cases hc_5 : (p1 &&& (2 : Int32)) = (0 : Int32)
      · skip
        refine Go.st (fun _ kk => XS.ifNo X.here hx rfl (hb hby at_113) rfl ((if0 _ _).trans (teq hc_5).2) kk) ?_
        show Go p e below _ (T.setTop (mkF m 116 #[.val (.int p1), .val (.int p2), .val (.int p3), .val (.int p4), .val (.ref b5), .val (.ref b10), .val (.ref x), .val (.int (p4 &&& (3 : Int32))), .val (.int (1 : Int32)), .val .null, .val .null, .unset, .unset] []))
        refine Go.st (fun _ kk => XS.iloadN X.here hx rfl (hb hby at_116) rfl  kk) ?_
        show Go p e below _ (T.setTop (mkF m 117 #[.val (.int p1), .val (.int p2), .val (.int p3), .val (.int p4), .val (.ref b5), .val (.ref b10), .val (.ref x), .val (.int (p4 &&& (3 : Int32))), .val (.int (1 : Int32)), .val .null, .val .null, .unset, .unset] [(.int p1)]))
        refine Go.st (fun _ kk => XS.iconst X.here hx rfl (hb hby at_117) kk) ?_
        show Go p e below _ (T.setTop (mkF m 118 #[.val (.int p1), .val (.int p2), .val (.int p3), .val (.int p4), .val (.ref b5), .val (.ref b10), .val (.ref x), .val (.int (p4 &&& (3 : Int32))), .val (.int (1 : Int32)), .val .null, .val .null, .unset, .unset] [(.int (2 : Int32)), (.int p1)]))
        refine Go.st (fun _ kk => XS.iushr X.here hx rfl (hb hby at_118) rfl kk) ?_
        show Go p e below _ (T.setTop (mkF m 119 #[.val (.int p1), .val (.int p2), .val (.int p3), .val (.int p4), .val (.ref b5), .val (.ref b10), .val (.ref x), .val (.int (p4 &&& (3 : Int32))), .val (.int (1 : Int32)), .val .null, .val .null, .unset, .unset] [(.int ((p1.toUInt32 >>> ((2 : Int32) &&& 31).toUInt32).toInt32))]))
        refine Go.st (fun _ kk => XS.iconst X.here hx rfl (hb hby at_119) kk) ?_
        show Go p e below _ (T.setTop (mkF m 120 #[.val (.int p1), .val (.int p2), .val (.int p3), .val (.int p4), .val (.ref b5), .val (.ref b10), .val (.ref x), .val (.int (p4 &&& (3 : Int32))), .val (.int (1 : Int32)), .val .null, .val .null, .unset, .unset] [(.int (3 : Int32)), (.int ((p1.toUInt32 >>> ((2 : Int32) &&& 31).toUInt32).toInt32))]))
        refine Go.st (fun _ kk => XS.iand X.here hx rfl (hb hby at_120) rfl kk) ?_
        show Go p e below _ (T.setTop (mkF m 121 #[.val (.int p1), .val (.int p2), .val (.int p3), .val (.int p4), .val (.ref b5), .val (.ref b10), .val (.ref x), .val (.int (p4 &&& (3 : Int32))), .val (.int (1 : Int32)), .val .null, .val .null, .unset, .unset] [(.int (((p1.toUInt32 >>> ((2 : Int32) &&& 31).toUInt32).toInt32) &&& (3 : Int32)))]))
        refine Go.st (fun _ kk => XS.istore X.here hx rfl (hb hby at_121) rfl (l' := #[.val (.int p1), .val (.int p2), .val (.int p3), .val (.int p4), .val (.ref b5), .val (.ref b10), .val (.ref x), .val (.int (p4 &&& (3 : Int32))), .val (.int (1 : Int32)), .val .null, .val .null, .val (.int (((p1.toUInt32 >>> ((2 : Int32) &&& 31).toUInt32).toInt32) &&& (3 : Int32))), .unset]) rfl kk) ?_
        show Go p e below _ (T.setTop (mkF m 123 #[.val (.int p1), .val (.int p2), .val (.int p3), .val (.int p4), .val (.ref b5), .val (.ref b10), .val (.ref x), .val (.int (p4 &&& (3 : Int32))), .val (.int (1 : Int32)), .val .null, .val .null, .val (.int (((p1.toUInt32 >>> ((2 : Int32) &&& 31).toUInt32).toInt32) &&& (3 : Int32))), .unset] []))
        refine Go.st (fun _ kk => XS.iload X.here hx rfl (hb hby at_123) rfl  kk) ?_
        show Go p e below _ (T.setTop (mkF m 125 #[.val (.int p1), .val (.int p2), .val (.int p3), .val (.int p4), .val (.ref b5), .val (.ref b10), .val (.ref x), .val (.int (p4 &&& (3 : Int32))), .val (.int (1 : Int32)), .val .null, .val .null, .val (.int (((p1.toUInt32 >>> ((2 : Int32) &&& 31).toUInt32).toInt32) &&& (3 : Int32))), .unset] [(.int (((p1.toUInt32 >>> ((2 : Int32) &&& 31).toUInt32).toInt32) &&& (3 : Int32)))]))
        by_cases hc_6 : (((p1.toUInt32 >>> ((2 : Int32) &&& 31).toUInt32).toInt32) &&& (3 : Int32)) = (0 : Int32)
        · skip
          refine Go.st (fun _ kk => XS.ifNo X.here hx rfl (hb hby at_125) rfl ((if0 _ _).trans (teq hc_6).2) kk) ?_
          show Go p e below _ (T.setTop (mkF m 128 #[.val (.int p1), .val (.int p2), .val (.int p3), .val (.int p4), .val (.ref b5), .val (.ref b10), .val (.ref x), .val (.int (p4 &&& (3 : Int32))), .val (.int (1 : Int32)), .val .null, .val .null, .val (.int (((p1.toUInt32 >>> ((2 : Int32) &&& 31).toUInt32).toInt32) &&& (3 : Int32))), .unset] []))
          have f_11 := (staKeep0 S_ATTRIBUTE K)
          obtain ⟨T12, X12, e12, st12⟩ := getS2 X hx hZ hown (host := "") (Or.inl (hw _ (List.mem_of_getElem? (i := 27) rfl))) Via.refl eT f_11 (g := (mkF m 128 #[.val (.int p1), .val (.int p2), .val (.int p3), .val (.int p4), .val (.ref b5), .val (.ref b10), .val (.ref x), .val (.int (p4 &&& (3 : Int32))), .val (.int (1 : Int32)), .val .null, .val .null, .val (.int (((p1.toUInt32 >>> ((2 : Int32) &&& 31).toUInt32).toInt32) &&& (3 : Int32))), .unset] [])) rfl (hb hby at_128)
          refine Go.st st12 ?_
          show Go p e below _ (T12.setTop (mkF m 131 #[.val (.int p1), .val (.int p2), .val (.int p3), .val (.int p4), .val (.ref b5), .val (.ref b10), .val (.ref x), .val (.int (p4 &&& (3 : Int32))), .val (.int (1 : Int32)), .val .null, .val .null, .val (.int (((p1.toUInt32 >>> ((2 : Int32) &&& 31).toUInt32).toInt32) &&& (3 : Int32))), .unset] [(.ref w_ATTRIBUTE)]))
          refine Go.st (fun _ kk => XS.goto X12.here hx rfl (pc0 := 131) (pc' := 149) rfl (hb hby at_131) (by decide) (by decide) kk) ?_
          show Go p e below _ (T12.setTop (mkF m 149 #[.val (.int p1), .val (.int p2), .val (.int p3), .val (.int p4), .val (.ref b5), .val (.ref b10), .val (.ref x), .val (.int (p4 &&& (3 : Int32))), .val (.int (1 : Int32)), .val .null, .val .null, .val (.int (((p1.toUInt32 >>> ((2 : Int32) &&& 31).toUInt32).toInt32) &&& (3 : Int32))), .unset] [(.ref w_ATTRIBUTE)]))
          refine Go.st (fun _ kk => XS.astore X12.here hx rfl (hb hby at_149) rfl rfl (l' := #[.val (.int p1), .val (.int p2), .val (.int p3), .val (.int p4), .val (.ref b5), .val (.ref b10), .val (.ref x), .val (.int (p4 &&& (3 : Int32))), .val (.int (1 : Int32)), .val .null, .val .null, .val (.int (((p1.toUInt32 >>> ((2 : Int32) &&& 31).toUInt32).toInt32) &&& (3 : Int32))), .val (.ref w_ATTRIBUTE)]) rfl kk) ?_
          show Go p e below _ (T12.setTop (mkF m 151 #[.val (.int p1), .val (.int p2), .val (.int p3), .val (.int p4), .val (.ref b5), .val (.ref b10), .val (.ref x), .val (.int (p4 &&& (3 : Int32))), .val (.int (1 : Int32)), .val .null, .val .null, .val (.int (((p1.toUInt32 >>> ((2 : Int32) &&& 31).toUInt32).toInt32) &&& (3 : Int32))), .val (.ref w_ATTRIBUTE)] []))
          obtain ⟨T13, h13, X13, e13, E13, A13, D13, -, st13⟩ := newO X12 hx hZ hown (hw _ (List.mem_of_getElem? (i := 30) rfl)) (hw _ (List.mem_of_getElem? (i := 31) rfl)) (hw _ (List.mem_of_getElem? (i := 32) rfl)) e12 (g := (mkF m 151 #[.val (.int p1), .val (.int p2), .val (.int p3), .val (.int p4), .val (.ref b5), .val (.ref b10), .val (.ref x), .val (.int (p4 &&& (3 : Int32))), .val (.int (1 : Int32)), .val .null, .val .null, .val (.int (((p1.toUInt32 >>> ((2 : Int32) &&& 31).toUInt32).toInt32) &&& (3 : Int32))), .val (.ref w_ATTRIBUTE)] [])) rfl (hb hby at_151) (by decide) (by decide)
          obtain ⟨b13, g13⟩ : ∃ z, z = h.size := ⟨_, rfl⟩
          rw [← g13] at A13 D13 st13
          refine Go.st st13 ?_
          have g_b13 : n0 ≤ b13 := Nat.le_trans (Nat.le_trans Z0 K.1) (Nat.le_of_eq g13.symm)
          have sz_b13 : h0.size ≤ b13 := Nat.le_trans K.1 (Nat.le_of_eq g13.symm)
          have K13 : Keep h0 h13 [] := K.ext E13
          have E_b13 : Exa Z h13 b13 "com/example/mergewell/mergewell/core/Feature" := A13
          have F_name_b13 : Fld Z h13 b13 "com/example/mergewell/mergewell/core/Feature" "name" "Ljava/lang/String;" .null := D13 (Or.inr (hw _ (List.mem_of_getElem? (i := 57) rfl))) (ty := (.object "java/lang/String")) (by decide)
          have F_kind_b13 : Fld Z h13 b13 "com/example/mergewell/mergewell/core/Feature" "kind" "Lcom/example/mergewell/mergewell/core/Feature$Kind;" .null := D13 (Or.inr (hw _ (List.mem_of_getElem? (i := 59) rfl))) (ty := (.object "com/example/mergewell/mergewell/core/Feature$Kind")) (by decide)
          have F_many_b13 : Fld Z h13 b13 "com/example/mergewell/mergewell/core/Feature" "many" "Z" (.int (0 : Int32)) := D13 (Or.inr (hw _ (List.mem_of_getElem? (i := 61) rfl))) (ty := .boolean) (by decide)
          have F_ordered_b13 : Fld Z h13 b13 "com/example/mergewell/mergewell/core/Feature" "ordered" "Z" (.int (0 : Int32)) := D13 (Or.inr (hw _ (List.mem_of_getElem? (i := 63) rfl))) (ty := .boolean) (by decide)
          have F_singleOpposite_b13 : Fld Z h13 b13 "com/example/mergewell/mergewell/core/Feature" "singleOpposite" "Ljava/lang/String;" .null := D13 (Or.inr (hw _ (List.mem_of_getElem? (i := 65) rfl))) (ty := (.object "java/lang/String")) (by decide)
          show Go p e below _ (T13.setTop (mkF m 154 #[.val (.int p1), .val (.int p2), .val (.int p3), .val (.int p4), .val (.ref b5), .val (.ref b10), .val (.ref x), .val (.int (p4 &&& (3 : Int32))), .val (.int (1 : Int32)), .val .null, .val .null, .val (.int (((p1.toUInt32 >>> ((2 : Int32) &&& 31).toUInt32).toInt32) &&& (3 : Int32))), .val (.ref w_ATTRIBUTE)] [(.ref b13)]))
          refine Go.st (fun _ kk => XS.dup X13.here hx rfl (hb hby at_154) rfl rfl kk) ?_
          show Go p e below _ (T13.setTop (mkF m 155 #[.val (.int p1), .val (.int p2), .val (.int p3), .val (.int p4), .val (.ref b5), .val (.ref b10), .val (.ref x), .val (.int (p4 &&& (3 : Int32))), .val (.int (1 : Int32)), .val .null, .val .null, .val (.int (((p1.toUInt32 >>> ((2 : Int32) &&& 31).toUInt32).toInt32) &&& (3 : Int32))), .val (.ref w_ATTRIBUTE)] [(.ref b13), (.ref b13)]))
          refine Go.st (fun _ kk => XS.aload X13.here hx rfl (hb hby at_155) rfl rfl  kk) ?_
          show Go p e below _ (T13.setTop (mkF m 157 #[.val (.int p1), .val (.int p2), .val (.int p3), .val (.int p4), .val (.ref b5), .val (.ref b10), .val (.ref x), .val (.int (p4 &&& (3 : Int32))), .val (.int (1 : Int32)), .val .null, .val .null, .val (.int (((p1.toUInt32 >>> ((2 : Int32) &&& 31).toUInt32).toInt32) &&& (3 : Int32))), .val (.ref w_ATTRIBUTE)] [(.ref x), (.ref b13), (.ref b13)]))
          refine Go.st (fun _ kk => XS.aload X13.here hx rfl (hb hby at_157) rfl rfl  kk) ?_
          show Go p e below _ (T13.setTop (mkF m 159 #[.val (.int p1), .val (.int p2), .val (.int p3), .val (.int p4), .val (.ref b5), .val (.ref b10), .val (.ref x), .val (.int (p4 &&& (3 : Int32))), .val (.int (1 : Int32)), .val .null, .val .null, .val (.int (((p1.toUInt32 >>> ((2 : Int32) &&& 31).toUInt32).toInt32) &&& (3 : Int32))), .val (.ref w_ATTRIBUTE)] [(.ref w_ATTRIBUTE), (.ref x), (.ref b13), (.ref b13)]))
          refine Go.st (fun _ kk => XS.iloadN X13.here hx rfl (hb hby at_159) rfl  kk) ?_
          show Go p e below _ (T13.setTop (mkF m 160 #[.val (.int p1), .val (.int p2), .val (.int p3), .val (.int p4), .val (.ref b5), .val (.ref b10), .val (.ref x), .val (.int (p4 &&& (3 : Int32))), .val (.int (1 : Int32)), .val .null, .val .null, .val (.int (((p1.toUInt32 >>> ((2 : Int32) &&& 31).toUInt32).toInt32) &&& (3 : Int32))), .val (.ref w_ATTRIBUTE)] [(.int p1), (.ref w_ATTRIBUTE), (.ref x), (.ref b13), (.ref b13)]))
          refine Go.st (fun _ kk => XS.bipush X13.here hx rfl (hb hby at_160) kk) ?_
          show Go p e below _ (T13.setTop (mkF m 162 #[.val (.int p1), .val (.int p2), .val (.int p3), .val (.int p4), .val (.ref b5), .val (.ref b10), .val (.ref x), .val (.int (p4 &&& (3 : Int32))), .val (.int (1 : Int32)), .val .null, .val .null, .val (.int (((p1.toUInt32 >>> ((2 : Int32) &&& 31).toUInt32).toInt32) &&& (3 : Int32))), .val (.ref w_ATTRIBUTE)] [(.int (16 : Int32)), (.int p1), (.ref w_ATTRIBUTE), (.ref x), (.ref b13), (.ref b13)]))
          refine Go.st (fun _ kk => XS.iand X13.here hx rfl (hb hby at_162) rfl kk) ?_
          show Go p e below _ (T13.setTop (mkF m 163 #[.val (.int p1), .val (.int p2), .val (.int p3), .val (.int p4), .val (.ref b5), .val (.ref b10), .val (.ref x), .val (.int (p4 &&& (3 : Int32))), .val (.int (1 : Int32)), .val .null, .val .null, .val (.int (((p1.toUInt32 >>> ((2 : Int32) &&& 31).toUInt32).toInt32) &&& (3 : Int32))), .val (.ref w_ATTRIBUTE)] [(.int (p1 &&& (16 : Int32))), (.ref w_ATTRIBUTE), (.ref x), (.ref b13), (.ref b13)]))
          have dia14 : ∀ t, Steps p.tables e below (T13.setTop (mkF m 171 #[.val (.int p1), .val (.int p2), .val (.int p3), .val (.int p4), .val (.ref b5), .val (.ref b10), .val (.ref x), .val (.int (p4 &&& (3 : Int32))), .val (.int (1 : Int32)), .val .null, .val .null, .val (.int (((p1.toUInt32 >>> ((2 : Int32) &&& 31).toUInt32).toInt32) &&& (3 : Int32))), .val (.ref w_ATTRIBUTE)] [(.int (if (p1 &&& (16 : Int32)) = (0 : Int32) then (0 : Int32) else (1 : Int32))), (.ref w_ATTRIBUTE), (.ref x), (.ref b13), (.ref b13)])) t → Steps p.tables e below (T13.setTop (mkF m 163 #[.val (.int p1), .val (.int p2), .val (.int p3), .val (.int p4), .val (.ref b5), .val (.ref b10), .val (.ref x), .val (.int (p4 &&& (3 : Int32))), .val (.int (1 : Int32)), .val .null, .val .null, .val (.int (((p1.toUInt32 >>> ((2 : Int32) &&& 31).toUInt32).toInt32) &&& (3 : Int32))), .val (.ref w_ATTRIBUTE)] [(.int (p1 &&& (16 : Int32))), (.ref w_ATTRIBUTE), (.ref x), (.ref b13), (.ref b13)])) t := by
            intro t kk
            by_cases hd14 : (p1 &&& (16 : Int32)) = (0 : Int32)
            · rw [if_pos hd14] at kk
              refine XS.ifYes X13.here hx rfl (pc0 := 163) (pc' := 170) rfl (hb hby at_163) rfl ((if0 _ _).trans (teq hd14).1) (by decide) (by decide) ?_
              show Steps p.tables e below (T13.setTop (mkF m 170 #[.val (.int p1), .val (.int p2), .val (.int p3), .val (.int p4), .val (.ref b5), .val (.ref b10), .val (.ref x), .val (.int (p4 &&& (3 : Int32))), .val (.int (1 : Int32)), .val .null, .val .null, .val (.int (((p1.toUInt32 >>> ((2 : Int32) &&& 31).toUInt32).toInt32) &&& (3 : Int32))), .val (.ref w_ATTRIBUTE)] [(.ref w_ATTRIBUTE), (.ref x), (.ref b13), (.ref b13)])) t
              refine XS.iconst X13.here hx rfl (hb hby at_170) ?_
              show Steps p.tables e below (T13.setTop (mkF m 171 #[.val (.int p1), .val (.int p2), .val (.int p3), .val (.int p4), .val (.ref b5), .val (.ref b10), .val (.ref x), .val (.int (p4 &&& (3 : Int32))), .val (.int (1 : Int32)), .val .null, .val .null, .val (.int (((p1.toUInt32 >>> ((2 : Int32) &&& 31).toUInt32).toInt32) &&& (3 : Int32))), .val (.ref w_ATTRIBUTE)] [(.int (0 : Int32)), (.ref w_ATTRIBUTE), (.ref x), (.ref b13), (.ref b13)])) t
              exact kk
            · rw [if_neg hd14] at kk
              refine XS.ifNo X13.here hx rfl (hb hby at_163) rfl ((if0 _ _).trans (feq hd14).1) ?_
              show Steps p.tables e below (T13.setTop (mkF m 166 #[.val (.int p1), .val (.int p2), .val (.int p3), .val (.int p4), .val (.ref b5), .val (.ref b10), .val (.ref x), .val (.int (p4 &&& (3 : Int32))), .val (.int (1 : Int32)), .val .null, .val .null, .val (.int (((p1.toUInt32 >>> ((2 : Int32) &&& 31).toUInt32).toInt32) &&& (3 : Int32))), .val (.ref w_ATTRIBUTE)] [(.ref w_ATTRIBUTE), (.ref x), (.ref b13), (.ref b13)])) t
              refine XS.iconst X13.here hx rfl (hb hby at_166) ?_
              show Steps p.tables e below (T13.setTop (mkF m 167 #[.val (.int p1), .val (.int p2), .val (.int p3), .val (.int p4), .val (.ref b5), .val (.ref b10), .val (.ref x), .val (.int (p4 &&& (3 : Int32))), .val (.int (1 : Int32)), .val .null, .val .null, .val (.int (((p1.toUInt32 >>> ((2 : Int32) &&& 31).toUInt32).toInt32) &&& (3 : Int32))), .val (.ref w_ATTRIBUTE)] [(.int (1 : Int32)), (.ref w_ATTRIBUTE), (.ref x), (.ref b13), (.ref b13)])) t
              refine XS.goto X13.here hx rfl (pc0 := 167) (pc' := 171) rfl (hb hby at_167) (by decide) (by decide) ?_
              show Steps p.tables e below (T13.setTop (mkF m 171 #[.val (.int p1), .val (.int p2), .val (.int p3), .val (.int p4), .val (.ref b5), .val (.ref b10), .val (.ref x), .val (.int (p4 &&& (3 : Int32))), .val (.int (1 : Int32)), .val .null, .val .null, .val (.int (((p1.toUInt32 >>> ((2 : Int32) &&& 31).toUInt32).toInt32) &&& (3 : Int32))), .val (.ref w_ATTRIBUTE)] [(.int (1 : Int32)), (.ref w_ATTRIBUTE), (.ref x), (.ref b13), (.ref b13)])) t
              exact kk
          refine Go.st dia14 ?_
          show Go p e below _ (T13.setTop (mkF m 171 #[.val (.int p1), .val (.int p2), .val (.int p3), .val (.int p4), .val (.ref b5), .val (.ref b10), .val (.ref x), .val (.int (p4 &&& (3 : Int32))), .val (.int (1 : Int32)), .val .null, .val .null, .val (.int (((p1.toUInt32 >>> ((2 : Int32) &&& 31).toUInt32).toInt32) &&& (3 : Int32))), .val (.ref w_ATTRIBUTE)] [(.int (if (p1 &&& (16 : Int32)) = (0 : Int32) then (0 : Int32) else (1 : Int32))), (.ref w_ATTRIBUTE), (.ref x), (.ref b13), (.ref b13)]))
          have hk := (Nat.le_trans hk E13.1)
          obtain ⟨_, _, ⟨T15, L15, k15, n15⟩, -, X15, hS15, hG15, ⟨Lc15, hQ15, l15, y15, z15⟩, st15⟩ := X13.specialBackS hx (y := (⟨"com/example/mergewell/mergewell/core/Feature", "<init>", "(Ljava/lang/String;Lcom/example/mergewell/mergewell/core/Feature$Kind;Z)V"⟩ : MethodName)) rfl hown (mvT hZ (hw _ (List.mem_of_getElem? (i := 33) rfl))) (mvT hZ (hw _ (List.mem_of_getElem? (i := 34) rfl))) (mvT hZ (hw _ (List.mem_of_getElem? (i := 35) rfl))) (by decide) (backOfS (W := 1) (rm6_o l Z a0 hw [] b13 x w_ATTRIBUTE (if (p1 &&& (16 : Int32)) = (0 : Int32) then (0 : Int32) else (1 : Int32)) .null .null (.int (0 : Int32)) (.int (0 : Int32)) .null h13 n0 (Nat.le_trans Z0 K13.1) E_b13 F_name_b13 g_b13 F_kind_b13 F_many_b13 F_ordered_b13 F_singleOpposite_b13) hZ (hw _ (List.mem_of_getElem? (i := 35) rfl)) (hw _ (List.mem_of_getElem? (i := 32) rfl)) (by decide) (by decide)) (g := (mkF m 171 #[.val (.int p1), .val (.int p2), .val (.int p3), .val (.int p4), .val (.ref b5), .val (.ref b10), .val (.ref x), .val (.int (p4 &&& (3 : Int32))), .val (.int (1 : Int32)), .val .null, .val .null, .val (.int (((p1.toUInt32 >>> ((2 : Int32) &&& 31).toUInt32).toInt32) &&& (3 : Int32))), .val (.ref w_ATTRIBUTE)] [(.int (if (p1 &&& (16 : Int32)) = (0 : Int32) then (0 : Int32) else (1 : Int32))), (.ref w_ATTRIBUTE), (.ref x), (.ref b13), (.ref b13)])) rfl (by rw [hml]; rfl) (Steps.refl _) (a := b13) (argsL := [(.ref x), (.ref w_ATTRIBUTE), (.int (if (p1 &&& (16 : Int32)) = (0 : Int32) then (0 : Int32) else (1 : Int32)))]) (rest := [(.ref b13)]) (lenOf pd_11 rfl) rfl (by show 2 * 0 + _ ≤ _; exact Nat.le_of_eq rfl) (hb hby at_171) (fun _ _ => ⟨rfl, e13, (by decide : 13 + 4 ≤ _), (by decide : 65 + 40 ≤ _)⟩)
          dsimp only [Pt.U, Pt.locs, Pt.cells, Pt.slots] at X15 l15 y15 z15 st15 hQ15 hS15 hG15
          subst l15 y15 z15
          obtain ⟨X15, hS, hZ, hown⟩ := rebS hS (by rw [e13]; exact hk) X15 hS15 hG15 hZ hown
          have hk := Nat.le_refl T15.heap.size
          obtain ⟨rfl, N15q, Kc15, P15_0⟩ := hQ15
          have K15 : Keep h0 T15.heap [] := K13.trans Kc15 (allS (Or.inr sz_b13) all0)
          have N15 := Fr.app N N15q
          refine Go.tr st15 ?_
          show Go p e below _ (T15.setTop (mkF m 174 #[.val (.int p1), .val (.int p2), .val (.int p3), .val (.int p4), .val (.ref b5), .val (.ref b10), .val (.ref x), .val (.int (p4 &&& (3 : Int32))), .val (.int (1 : Int32)), .val .null, .val .null, .val (.int (((p1.toUInt32 >>> ((2 : Int32) &&& 31).toUInt32).toInt32) &&& (3 : Int32))), .val (.ref w_ATTRIBUTE)] [(.ref b13)]))
          refine Go.st (fun _ kk => XS.astore X15.here hx rfl (hb hby at_174) rfl rfl (l' := #[.val (.int p1), .val (.int p2), .val (.int p3), .val (.int p4), .val (.ref b5), .val (.ref b10), .val (.ref x), .val (.int (p4 &&& (3 : Int32))), .val (.int (1 : Int32)), .val .null, .val (.ref b13), .val (.int (((p1.toUInt32 >>> ((2 : Int32) &&& 31).toUInt32).toInt32) &&& (3 : Int32))), .val (.ref w_ATTRIBUTE)]) rfl kk) ?_
          show Go p e below _ (T15.setTop (mkF m 176 #[.val (.int p1), .val (.int p2), .val (.int p3), .val (.int p4), .val (.ref b5), .val (.ref b10), .val (.ref x), .val (.int (p4 &&& (3 : Int32))), .val (.int (1 : Int32)), .val .null, .val (.ref b13), .val (.int (((p1.toUInt32 >>> ((2 : Int32) &&& 31).toUInt32).toInt32) &&& (3 : Int32))), .val (.ref w_ATTRIBUTE)] []))
          obtain ⟨T16, h16, X16, e16, E16, A16, D16, -, st16⟩ := newO X15 hx hZ hown (hw _ (List.mem_of_getElem? (i := 66) rfl)) (hw _ (List.mem_of_getElem? (i := 67) rfl)) (hw _ (List.mem_of_getElem? (i := 68) rfl)) rfl (g := (mkF m 176 #[.val (.int p1), .val (.int p2), .val (.int p3), .val (.int p4), .val (.ref b5), .val (.ref b10), .val (.ref x), .val (.int (p4 &&& (3 : Int32))), .val (.int (1 : Int32)), .val .null, .val (.ref b13), .val (.int (((p1.toUInt32 >>> ((2 : Int32) &&& 31).toUInt32).toInt32) &&& (3 : Int32))), .val (.ref w_ATTRIBUTE)] [])) rfl (hb hby at_176) (by decide) (by decide)
          obtain ⟨b16, g16⟩ : ∃ z, z = T15.heap.size := ⟨_, rfl⟩
          rw [← g16] at A16 D16 st16
          refine Go.st st16 ?_
          have g_b16 : n0 ≤ b16 := Nat.le_trans (Nat.le_trans Z0 K15.1) (Nat.le_of_eq g16.symm)
          have sz_b16 : h0.size ≤ b16 := Nat.le_trans K15.1 (Nat.le_of_eq g16.symm)
          have lt_b13_b16 : b13 < b16 := Nat.lt_of_lt_of_le P15_0.lt (Nat.le_of_eq g16.symm)
          have K16 : Keep h0 h16 [] := K15.ext E16
          have E_b16 : Exa Z h16 b16 "com/example/mergewell/mergewell/core/Slot" := A16
          have F_owner_b16 : Fld Z h16 b16 "com/example/mergewell/mergewell/core/Slot" "owner" "Ljava/lang/String;" .null := D16 (Or.inr (hw _ (List.mem_of_getElem? (i := 74) rfl))) (ty := (.object "java/lang/String")) (by decide)
          have F_feature_b16 : Fld Z h16 b16 "com/example/mergewell/mergewell/core/Slot" "feature" "Lcom/example/mergewell/mergewell/core/Feature;" .null := D16 (Or.inr (hw _ (List.mem_of_getElem? (i := 76) rfl))) (ty := (.object "com/example/mergewell/mergewell/core/Feature")) (by decide)
          show Go p e below _ (T16.setTop (mkF m 179 #[.val (.int p1), .val (.int p2), .val (.int p3), .val (.int p4), .val (.ref b5), .val (.ref b10), .val (.ref x), .val (.int (p4 &&& (3 : Int32))), .val (.int (1 : Int32)), .val .null, .val (.ref b13), .val (.int (((p1.toUInt32 >>> ((2 : Int32) &&& 31).toUInt32).toInt32) &&& (3 : Int32))), .val (.ref w_ATTRIBUTE)] [(.ref b16)]))
          refine Go.st (fun _ kk => XS.dup X16.here hx rfl (hb hby at_179) rfl rfl kk) ?_
          show Go p e below _ (T16.setTop (mkF m 180 #[.val (.int p1), .val (.int p2), .val (.int p3), .val (.int p4), .val (.ref b5), .val (.ref b10), .val (.ref x), .val (.int (p4 &&& (3 : Int32))), .val (.int (1 : Int32)), .val .null, .val (.ref b13), .val (.int (((p1.toUInt32 >>> ((2 : Int32) &&& 31).toUInt32).toInt32) &&& (3 : Int32))), .val (.ref w_ATTRIBUTE)] [(.ref b16), (.ref b16)]))
          refine Go.st (fun _ kk => XS.aload X16.here hx rfl (hb hby at_180) rfl rfl  kk) ?_
          show Go p e below _ (T16.setTop (mkF m 182 #[.val (.int p1), .val (.int p2), .val (.int p3), .val (.int p4), .val (.ref b5), .val (.ref b10), .val (.ref x), .val (.int (p4 &&& (3 : Int32))), .val (.int (1 : Int32)), .val .null, .val (.ref b13), .val (.int (((p1.toUInt32 >>> ((2 : Int32) &&& 31).toUInt32).toInt32) &&& (3 : Int32))), .val (.ref w_ATTRIBUTE)] [.null, (.ref b16), (.ref b16)]))
          refine Go.st (fun _ kk => XS.aload X16.here hx rfl (hb hby at_182) rfl rfl  kk) ?_
          show Go p e below _ (T16.setTop (mkF m 184 #[.val (.int p1), .val (.int p2), .val (.int p3), .val (.int p4), .val (.ref b5), .val (.ref b10), .val (.ref x), .val (.int (p4 &&& (3 : Int32))), .val (.int (1 : Int32)), .val .null, .val (.ref b13), .val (.int (((p1.toUInt32 >>> ((2 : Int32) &&& 31).toUInt32).toInt32) &&& (3 : Int32))), .val (.ref w_ATTRIBUTE)] [(.ref b13), .null, (.ref b16), (.ref b16)]))
          obtain ⟨_, _, ⟨T17, L17, k17, n17⟩, -, X17, ⟨Lc17, hQ17, l17, y17, z17⟩, st17⟩ := X16.specialBack hx (y := (⟨"com/example/mergewell/mergewell/core/Slot", "<init>", "(Ljava/lang/String;Lcom/example/mergewell/mergewell/core/Feature;)V"⟩ : MethodName)) rfl hown (mvT hZ (hw _ (List.mem_of_getElem? (i := 69) rfl))) (mvT hZ (hw _ (List.mem_of_getElem? (i := 70) rfl))) (mvT hZ (hw _ (List.mem_of_getElem? (i := 71) rfl))) (by decide) (backOf (W := 1) (rm11ab_o l Z a0 hw [] b16 b13 .null .null h16 n0 (Nat.le_trans Z0 K16.1) E_b16 F_owner_b16 g_b16 F_feature_b16) hZ (hw _ (List.mem_of_getElem? (i := 71) rfl)) (hw _ (List.mem_of_getElem? (i := 68) rfl)) (by decide) (by decide)) (g := (mkF m 184 #[.val (.int p1), .val (.int p2), .val (.int p3), .val (.int p4), .val (.ref b5), .val (.ref b10), .val (.ref x), .val (.int (p4 &&& (3 : Int32))), .val (.int (1 : Int32)), .val .null, .val (.ref b13), .val (.int (((p1.toUInt32 >>> ((2 : Int32) &&& 31).toUInt32).toInt32) &&& (3 : Int32))), .val (.ref w_ATTRIBUTE)] [(.ref b13), .null, (.ref b16), (.ref b16)])) rfl (by rw [hml]; rfl) (Steps.refl _) (a := b16) (argsL := [.null, (.ref b13)]) (rest := [(.ref b16)]) (lenOf pd_12 rfl) rfl (by show 2 * 0 + _ ≤ _; exact Nat.le_of_eq rfl) (hb hby at_184) (fun _ _ => ⟨rfl, e16, (by decide : 18 + 0 ≤ _), (by decide : 107 + 0 ≤ _)⟩)
          dsimp only [Pt.U, Pt.locs, Pt.cells, Pt.slots] at X17 l17 y17 z17 st17 hQ17
          subst l17 y17 z17
          obtain ⟨rfl, N17q, Kc17, P17_0, P17_1⟩ := hQ17
          have K17 : Keep h0 T17.heap [] := K16.trans Kc17 (allS (Or.inr sz_b16) all0)
          have N17 := Fr.app N15 N17q
          refine Go.tr st17 ?_
          show Go p e below _ (T17.setTop (mkF m 187 #[.val (.int p1), .val (.int p2), .val (.int p3), .val (.int p4), .val (.ref b5), .val (.ref b10), .val (.ref x), .val (.int (p4 &&& (3 : Int32))), .val (.int (1 : Int32)), .val .null, .val (.ref b13), .val (.int (((p1.toUInt32 >>> ((2 : Int32) &&& 31).toUInt32).toInt32) &&& (3 : Int32))), .val (.ref w_ATTRIBUTE)] [(.ref b16)]))
          refine Go.st (fun _ kk => XS.astore X17.here hx rfl (hb hby at_187) rfl rfl (l' := #[.val (.int p1), .val (.int p2), .val (.int p3), .val (.int p4), .val (.ref b5), .val (.ref b10), .val (.ref x), .val (.int (p4 &&& (3 : Int32))), .val (.int (1 : Int32)), .val .null, .val (.ref b13), .val (.ref b16), .val (.ref w_ATTRIBUTE)]) rfl kk) ?_
          show Go p e below _ (T17.setTop (mkF m 189 #[.val (.int p1), .val (.int p2), .val (.int p3), .val (.int p4), .val (.ref b5), .val (.ref b10), .val (.ref x), .val (.int (p4 &&& (3 : Int32))), .val (.int (1 : Int32)), .val .null, .val (.ref b13), .val (.ref b16), .val (.ref w_ATTRIBUTE)] []))
          refine Go.st (fun _ kk => XS.aload X17.here hx rfl (hb hby at_189) rfl rfl  kk) ?_
          show Go p e below _ (T17.setTop (mkF m 191 #[.val (.int p1), .val (.int p2), .val (.int p3), .val (.int p4), .val (.ref b5), .val (.ref b10), .val (.ref x), .val (.int (p4 &&& (3 : Int32))), .val (.int (1 : Int32)), .val .null, .val (.ref b13), .val (.ref b16), .val (.ref w_ATTRIBUTE)] [(.ref b16)]))
          obtain ⟨cq18, kq18, q18a, q18b, q18c⟩ := isOf hZ rfl P17_0
          obtain ⟨_, _, ⟨T18, L18, k18, n18⟩, -, X18, ⟨Lc18, hQ18, l18, y18, z18⟩, st18⟩ := X17.virtualBack hx (y := (⟨"com/example/mergewell/mergewell/core/Slot", "isRoot", "()Z"⟩ : MethodName)) (z := (⟨"com/example/mergewell/mergewell/core/Slot", "isRoot", "()Z"⟩ : MethodName)) hown (mvT hZ (hw _ (List.mem_of_getElem? (i := 77) rfl))) (mvT hZ (hw _ (List.mem_of_getElem? (i := 78) rfl))) (notFace_of_selects (args := #[]) (mvT hZ (hw _ (List.mem_of_getElem? (i := 80) rfl)))) (mvT hZ (hw _ (List.mem_of_getElem? (i := 80) rfl))) (mvT hZ (hw _ (List.mem_of_getElem? (i := 79) rfl))) (by decide) (backOf (W := 0) (rm12n_o l Z a0 hw [] b16 T17.heap n0 (Nat.le_trans Z0 K17.1) P17_1) hZ (hw _ (List.mem_of_getElem? (i := 81) rfl)) (hw _ (List.mem_of_getElem? (i := 68) rfl)) (by decide) (by decide)) q18a q18c (g := (mkF m 191 #[.val (.int p1), .val (.int p2), .val (.int p3), .val (.int p4), .val (.ref b5), .val (.ref b10), .val (.ref x), .val (.int (p4 &&& (3 : Int32))), .val (.int (1 : Int32)), .val .null, .val (.ref b13), .val (.ref b16), .val (.ref w_ATTRIBUTE)] [(.ref b16)])) rfl (by rw [hml]; rfl) (Steps.refl _) (argsL := []) (rest := []) (lenOf pd_13 rfl) rfl (by show 2 * 0 + _ ≤ _; exact Nat.le_of_eq rfl) (hb hby at_191) (fun _ _ => ⟨rfl, rfl, (by decide : 18 + 0 ≤ _), (by decide : 107 + 0 ≤ _)⟩)
          dsimp only [Pt.U, Pt.locs, Pt.cells, Pt.slots] at X18 l18 y18 z18 st18 hQ18
          subst l18 y18 z18
          obtain ⟨rfl, N18q, eq18⟩ := hQ18
          have N18 := Fr.app N17 N18q
          refine Go.tr st18 ?_
          show Go p e below _ (T18.setTop (mkF m 194 #[.val (.int p1), .val (.int p2), .val (.int p3), .val (.int p4), .val (.ref b5), .val (.ref b10), .val (.ref x), .val (.int (p4 &&& (3 : Int32))), .val (.int (1 : Int32)), .val .null, .val (.ref b13), .val (.ref b16), .val (.ref w_ATTRIBUTE)] [(.int (1 : Int32))]))
          refine Go.st (fun _ kk => XS.iload X18.here hx rfl (hb hby at_194) rfl  kk) ?_
          show Go p e below _ (T18.setTop (mkF m 196 #[.val (.int p1), .val (.int p2), .val (.int p3), .val (.int p4), .val (.ref b5), .val (.ref b10), .val (.ref x), .val (.int (p4 &&& (3 : Int32))), .val (.int (1 : Int32)), .val .null, .val (.ref b13), .val (.ref b16), .val (.ref w_ATTRIBUTE)] [(.int (1 : Int32)), (.int (1 : Int32))]))
          refine Go.st (fun _ kk => XS.icmpNo X18.here hx rfl (hb hby at_196) rfl (teq (by decide : ((1 : Int32) = (1 : Int32)))).2 kk) ?_
          show Go p e below _ (T18.setTop (mkF m 199 #[.val (.int p1), .val (.int p2), .val (.int p3), .val (.int p4), .val (.ref b5), .val (.ref b10), .val (.ref x), .val (.int (p4 &&& (3 : Int32))), .val (.int (1 : Int32)), .val .null, .val (.ref b13), .val (.ref b16), .val (.ref w_ATTRIBUTE)] []))
          have f_19 := (staKeep0 S_ROOT K17)
          obtain ⟨T20, X20, e20, st20⟩ := getS2 X18 hx hZ hown (host := "") (Or.inl (hw _ (List.mem_of_getElem? (i := 82) rfl))) Via.refl eq18 f_19 (g := (mkF m 199 #[.val (.int p1), .val (.int p2), .val (.int p3), .val (.int p4), .val (.ref b5), .val (.ref b10), .val (.ref x), .val (.int (p4 &&& (3 : Int32))), .val (.int (1 : Int32)), .val .null, .val (.ref b13), .val (.ref b16), .val (.ref w_ATTRIBUTE)] [])) rfl (hb hby at_199)
          refine Go.st st20 ?_
          show Go p e below _ (T20.setTop (mkF m 202 #[.val (.int p1), .val (.int p2), .val (.int p3), .val (.int p4), .val (.ref b5), .val (.ref b10), .val (.ref x), .val (.int (p4 &&& (3 : Int32))), .val (.int (1 : Int32)), .val .null, .val (.ref b13), .val (.ref b16), .val (.ref w_ATTRIBUTE)] [(.ref w_ROOT)]))
          have f_21 := (E_w_ROOT.keep K17)
          have f_22 := (F_owner_w_ROOT.keep K17 nin0)
          obtain ⟨cq23, kq23, q23a, q23b, q23c⟩ := isOf hZ e20 f_21
          obtain ⟨_, _, ⟨T23, L23, k23, n23⟩, -, X23, ⟨Lc23, hQ23, l23, y23, z23⟩, st23⟩ := X20.virtualBack hx (y := (⟨"com/example/mergewell/mergewell/core/Slot", "isRoot", "()Z"⟩ : MethodName)) (z := (⟨"com/example/mergewell/mergewell/core/Slot", "isRoot", "()Z"⟩ : MethodName)) hown (mvT hZ (hw _ (List.mem_of_getElem? (i := 77) rfl))) (mvT hZ (hw _ (List.mem_of_getElem? (i := 78) rfl))) (notFace_of_selects (args := #[]) (mvT hZ (hw _ (List.mem_of_getElem? (i := 80) rfl)))) (mvT hZ (hw _ (List.mem_of_getElem? (i := 80) rfl))) (mvT hZ (hw _ (List.mem_of_getElem? (i := 79) rfl))) (by decide) (backOf (W := 0) (rm12n_o l Z a0 hw [] w_ROOT T17.heap n0 (Nat.le_trans Z0 K17.1) f_22) hZ (hw _ (List.mem_of_getElem? (i := 81) rfl)) (hw _ (List.mem_of_getElem? (i := 68) rfl)) (by decide) (by decide)) q23a q23c (g := (mkF m 202 #[.val (.int p1), .val (.int p2), .val (.int p3), .val (.int p4), .val (.ref b5), .val (.ref b10), .val (.ref x), .val (.int (p4 &&& (3 : Int32))), .val (.int (1 : Int32)), .val .null, .val (.ref b13), .val (.ref b16), .val (.ref w_ATTRIBUTE)] [(.ref w_ROOT)])) rfl (by rw [hml]; rfl) (Steps.refl _) (argsL := []) (rest := []) (lenOf pd_13 rfl) rfl (by show 2 * 0 + _ ≤ _; exact Nat.le_of_eq rfl) (hb hby at_202) (fun _ _ => ⟨rfl, e20, (by decide : 18 + 0 ≤ _), (by decide : 107 + 0 ≤ _)⟩)
          dsimp only [Pt.U, Pt.locs, Pt.cells, Pt.slots] at X23 l23 y23 z23 st23 hQ23
          subst l23 y23 z23
          obtain ⟨rfl, N23q, eq23⟩ := hQ23
          have N23 := Fr.app N18 N23q
          refine Go.tr st23 ?_
          show Go p e below _ (T23.setTop (mkF m 205 #[.val (.int p1), .val (.int p2), .val (.int p3), .val (.int p4), .val (.ref b5), .val (.ref b10), .val (.ref x), .val (.int (p4 &&& (3 : Int32))), .val (.int (1 : Int32)), .val .null, .val (.ref b13), .val (.ref b16), .val (.ref w_ATTRIBUTE)] [(.int (1 : Int32))]))
          refine Go.st (fun _ kk => XS.ifNo X23.here hx rfl (hb hby at_205) rfl ((if0 _ _).trans (feq (by decide : ¬ ((1 : Int32) = (0 : Int32)))).1) kk) ?_
          show Go p e below _ (T23.setTop (mkF m 208 #[.val (.int p1), .val (.int p2), .val (.int p3), .val (.int p4), .val (.ref b5), .val (.ref b10), .val (.ref x), .val (.int (p4 &&& (3 : Int32))), .val (.int (1 : Int32)), .val .null, .val (.ref b13), .val (.ref b16), .val (.ref w_ATTRIBUTE)] []))
          refine Go.st (fun _ kk => XS.iconst X23.here hx rfl (hb hby at_208) kk) ?_
          show Go p e below _ (T23.setTop (mkF m 209 #[.val (.int p1), .val (.int p2), .val (.int p3), .val (.int p4), .val (.ref b5), .val (.ref b10), .val (.ref x), .val (.int (p4 &&& (3 : Int32))), .val (.int (1 : Int32)), .val .null, .val (.ref b13), .val (.ref b16), .val (.ref w_ATTRIBUTE)] [(.int (1 : Int32))]))
          refine Go.st (fun _ kk => XS.goto X23.here hx rfl (pc0 := 209) (pc' := 213) rfl (hb hby at_209) (by decide) (by decide) kk) ?_
          show Go p e below _ (T23.setTop (mkF m 213 #[.val (.int p1), .val (.int p2), .val (.int p3), .val (.int p4), .val (.ref b5), .val (.ref b10), .val (.ref x), .val (.int (p4 &&& (3 : Int32))), .val (.int (1 : Int32)), .val .null, .val (.ref b13), .val (.ref b16), .val (.ref w_ATTRIBUTE)] [(.int (1 : Int32))]))
          have hk := (Nat.le_trans (Nat.le_trans hk E16.1) Kc17.1)
          exact Go.retW (Q := Q0 n0) hS (hk) X23 (v := some (.int (1 : Int32))) (fun h => by rw [Bd.returns] at h; cases h) Bd.notSynchronized (fun fs hr => retN X23 hx (t := .boolean) Bd.returns (by simp) (hb hby at_213) hr) eq23 ⟨rfl, N23⟩ (by decide) (by decide)
        · skip
          refine Go.st (fun _ kk => XS.ifYes X.here hx rfl (pc0 := 125) (pc' := 134) rfl (hb hby at_125) rfl ((if0 _ _).trans (feq hc_6).2) (by decide) (by decide) kk) ?_
          show Go p e below _ (T.setTop (mkF m 134 #[.val (.int p1), .val (.int p2), .val (.int p3), .val (.int p4), .val (.ref b5), .val (.ref b10), .val (.ref x), .val (.int (p4 &&& (3 : Int32))), .val (.int (1 : Int32)), .val .null, .val .null, .val (.int (((p1.toUInt32 >>> ((2 : Int32) &&& 31).toUInt32).toInt32) &&& (3 : Int32))), .unset] []))
          refine Go.st (fun _ kk => XS.iload X.here hx rfl (hb hby at_134) rfl  kk) ?_
          show Go p e below _ (T.setTop (mkF m 136 #[.val (.int p1), .val (.int p2), .val (.int p3), .val (.int p4), .val (.ref b5), .val (.ref b10), .val (.ref x), .val (.int (p4 &&& (3 : Int32))), .val (.int (1 : Int32)), .val .null, .val .null, .val (.int (((p1.toUInt32 >>> ((2 : Int32) &&& 31).toUInt32).toInt32) &&& (3 : Int32))), .unset] [(.int (((p1.toUInt32 >>> ((2 : Int32) &&& 31).toUInt32).toInt32) &&& (3 : Int32)))]))
          refine Go.st (fun _ kk => XS.iconst X.here hx rfl (hb hby at_136) kk) ?_
          show Go p e below _ (T.setTop (mkF m 137 #[.val (.int p1), .val (.int p2), .val (.int p3), .val (.int p4), .val (.ref b5), .val (.ref b10), .val (.ref x), .val (.int (p4 &&& (3 : Int32))), .val (.int (1 : Int32)), .val .null, .val .null, .val (.int (((p1.toUInt32 >>> ((2 : Int32) &&& 31).toUInt32).toInt32) &&& (3 : Int32))), .unset] [(.int (1 : Int32)), (.int (((p1.toUInt32 >>> ((2 : Int32) &&& 31).toUInt32).toInt32) &&& (3 : Int32)))]))
          by_cases hc_7 : (((p1.toUInt32 >>> ((2 : Int32) &&& 31).toUInt32).toInt32) &&& (3 : Int32)) = (1 : Int32)
          · skip
            refine Go.st (fun _ kk => XS.icmpNo X.here hx rfl (hb hby at_137) rfl (teq hc_7).2 kk) ?_
            show Go p e below _ (T.setTop (mkF m 140 #[.val (.int p1), .val (.int p2), .val (.int p3), .val (.int p4), .val (.ref b5), .val (.ref b10), .val (.ref x), .val (.int (p4 &&& (3 : Int32))), .val (.int (1 : Int32)), .val .null, .val .null, .val (.int (((p1.toUInt32 >>> ((2 : Int32) &&& 31).toUInt32).toInt32) &&& (3 : Int32))), .unset] []))
            have f_11 := (staKeep0 S_REFERENCE K)
            obtain ⟨T12, X12, e12, st12⟩ := getS2 X hx hZ hown (host := "") (Or.inl (hw _ (List.mem_of_getElem? (i := 104) rfl))) Via.refl eT f_11 (g := (mkF m 140 #[.val (.int p1), .val (.int p2), .val (.int p3), .val (.int p4), .val (.ref b5), .val (.ref b10), .val (.ref x), .val (.int (p4 &&& (3 : Int32))), .val (.int (1 : Int32)), .val .null, .val .null, .val (.int (((p1.toUInt32 >>> ((2 : Int32) &&& 31).toUInt32).toInt32) &&& (3 : Int32))), .unset] [])) rfl (hb hby at_140)
            refine Go.st st12 ?_
            show Go p e below _ (T12.setTop (mkF m 143 #[.val (.int p1), .val (.int p2), .val (.int p3), .val (.int p4), .val (.ref b5), .val (.ref b10), .val (.ref x), .val (.int (p4 &&& (3 : Int32))), .val (.int (1 : Int32)), .val .null, .val .null, .val (.int (((p1.toUInt32 >>> ((2 : Int32) &&& 31).toUInt32).toInt32) &&& (3 : Int32))), .unset] [(.ref w_REFERENCE)]))
            refine Go.st (fun _ kk => XS.goto X12.here hx rfl (pc0 := 143) (pc' := 149) rfl (hb hby at_143) (by decide) (by decide) kk) ?_
            show Go p e below _ (T12.setTop (mkF m 149 #[.val (.int p1), .val (.int p2), .val (.int p3), .val (.int p4), .val (.ref b5), .val (.ref b10), .val (.ref x), .val (.int (p4 &&& (3 : Int32))), .val (.int (1 : Int32)), .val .null, .val .null, .val (.int (((p1.toUInt32 >>> ((2 : Int32) &&& 31).toUInt32).toInt32) &&& (3 : Int32))), .unset] [(.ref w_REFERENCE)]))
            refine Go.st (fun _ kk => XS.astore X12.here hx rfl (hb hby at_149) rfl rfl (l' := #[.val (.int p1), .val (.int p2), .val (.int p3), .val (.int p4), .val (.ref b5), .val (.ref b10), .val (.ref x), .val (.int (p4 &&& (3 : Int32))), .val (.int (1 : Int32)), .val .null, .val .null, .val (.int (((p1.toUInt32 >>> ((2 : Int32) &&& 31).toUInt32).toInt32) &&& (3 : Int32))), .val (.ref w_REFERENCE)]) rfl kk) ?_
            show Go p e below _ (T12.setTop (mkF m 151 #[.val (.int p1), .val (.int p2), .val (.int p3), .val (.int p4), .val (.ref b5), .val (.ref b10), .val (.ref x), .val (.int (p4 &&& (3 : Int32))), .val (.int (1 : Int32)), .val .null, .val .null, .val (.int (((p1.toUInt32 >>> ((2 : Int32) &&& 31).toUInt32).toInt32) &&& (3 : Int32))), .val (.ref w_REFERENCE)] []))
            obtain ⟨T13, h13, X13, e13, E13, A13, D13, -, st13⟩ := newO X12 hx hZ hown (hw _ (List.mem_of_getElem? (i := 30) rfl)) (hw _ (List.mem_of_getElem? (i := 31) rfl)) (hw _ (List.mem_of_getElem? (i := 32) rfl)) e12 (g := (mkF m 151 #[.val (.int p1), .val (.int p2), .val (.int p3), .val (.int p4), .val (.ref b5), .val (.ref b10), .val (.ref x), .val (.int (p4 &&& (3 : Int32))), .val (.int (1 : Int32)), .val .null, .val .null, .val (.int (((p1.toUInt32 >>> ((2 : Int32) &&& 31).toUInt32).toInt32) &&& (3 : Int32))), .val (.ref w_REFERENCE)] [])) rfl (hb hby at_151) (by decide) (by decide)
            obtain ⟨b13, g13⟩ : ∃ z, z = h.size := ⟨_, rfl⟩
            rw [← g13] at A13 D13 st13
            refine Go.st st13 ?_
            have g_b13 : n0 ≤ b13 := Nat.le_trans (Nat.le_trans Z0 K.1) (Nat.le_of_eq g13.symm)
            have sz_b13 : h0.size ≤ b13 := Nat.le_trans K.1 (Nat.le_of_eq g13.symm)
            have K13 : Keep h0 h13 [] := K.ext E13
            have E_b13 : Exa Z h13 b13 "com/example/mergewell/mergewell/core/Feature" := A13
            have F_name_b13 : Fld Z h13 b13 "com/example/mergewell/mergewell/core/Feature" "name" "Ljava/lang/String;" .null := D13 (Or.inr (hw _ (List.mem_of_getElem? (i := 57) rfl))) (ty := (.object "java/lang/String")) (by decide)
            have F_kind_b13 : Fld Z h13 b13 "com/example/mergewell/mergewell/core/Feature" "kind" "Lcom/example/mergewell/mergewell/core/Feature$Kind;" .null := D13 (Or.inr (hw _ (List.mem_of_getElem? (i := 59) rfl))) (ty := (.object "com/example/mergewell/mergewell/core/Feature$Kind")) (by decide)
            have F_many_b13 : Fld Z h13 b13 "com/example/mergewell/mergewell/core/Feature" "many" "Z" (.int (0 : Int32)) := D13 (Or.inr (hw _ (List.mem_of_getElem? (i := 61) rfl))) (ty := .boolean) (by decide)
            have F_ordered_b13 : Fld Z h13 b13 "com/example/mergewell/mergewell/core/Feature" "ordered" "Z" (.int (0 : Int32)) := D13 (Or.inr (hw _ (List.mem_of_getElem? (i := 63) rfl))) (ty := .boolean) (by decide)
            have F_singleOpposite_b13 : Fld Z h13 b13 "com/example/mergewell/mergewell/core/Feature" "singleOpposite" "Ljava/lang/String;" .null := D13 (Or.inr (hw _ (List.mem_of_getElem? (i := 65) rfl))) (ty := (.object "java/lang/String")) (by decide)
            show Go p e below _ (T13.setTop (mkF m 154 #[.val (.int p1), .val (.int p2), .val (.int p3), .val (.int p4), .val (.ref b5), .val (.ref b10), .val (.ref x), .val (.int (p4 &&& (3 : Int32))), .val (.int (1 : Int32)), .val .null, .val .null, .val (.int (((p1.toUInt32 >>> ((2 : Int32) &&& 31).toUInt32).toInt32) &&& (3 : Int32))), .val (.ref w_REFERENCE)] [(.ref b13)]))
            refine Go.st (fun _ kk => XS.dup X13.here hx rfl (hb hby at_154) rfl rfl kk) ?_
            show Go p e below _ (T13.setTop (mkF m 155 #[.val (.int p1), .val (.int p2), .val (.int p3), .val (.int p4), .val (.ref b5), .val (.ref b10), .val (.ref x), .val (.int (p4 &&& (3 : Int32))), .val (.int (1 : Int32)), .val .null, .val .null, .val (.int (((p1.toUInt32 >>> ((2 : Int32) &&& 31).toUInt32).toInt32) &&& (3 : Int32))), .val (.ref w_REFERENCE)] [(.ref b13), (.ref b13)]))
            refine Go.st (fun _ kk => XS.aload X13.here hx rfl (hb hby at_155) rfl rfl  kk) ?_
            show Go p e below _ (T13.setTop (mkF m 157 #[.val (.int p1), .val (.int p2), .val (.int p3), .val (.int p4), .val (.ref b5), .val (.ref b10), .val (.ref x), .val (.int (p4 &&& (3 : Int32))), .val (.int (1 : Int32)), .val .null, .val .null, .val (.int (((p1.toUInt32 >>> ((2 : Int32) &&& 31).toUInt32).toInt32) &&& (3 : Int32))), .val (.ref w_REFERENCE)] [(.ref x), (.ref b13), (.ref b13)]))
            refine Go.st (fun _ kk => XS.aload X13.here hx rfl (hb hby at_157) rfl rfl  kk) ?_
            show Go p e below _ (T13.setTop (mkF m 159 #[.val (.int p1), .val (.int p2), .val (.int p3), .val (.int p4), .val (.ref b5), .val (.ref b10), .val (.ref x), .val (.int (p4 &&& (3 : Int32))), .val (.int (1 : Int32)), .val .null, .val .null, .val (.int (((p1.toUInt32 >>> ((2 : Int32) &&& 31).toUInt32).toInt32) &&& (3 : Int32))), .val (.ref w_REFERENCE)] [(.ref w_REFERENCE), (.ref x), (.ref b13), (.ref b13)]))
            refine Go.st (fun _ kk => XS.iloadN X13.here hx rfl (hb hby at_159) rfl  kk) ?_
            show Go p e below _ (T13.setTop (mkF m 160 #[.val (.int p1), .val (.int p2), .val (.int p3), .val (.int p4), .val (.ref b5), .val (.ref b10), .val (.ref x), .val (.int (p4 &&& (3 : Int32))), .val (.int (1 : Int32)), .val .null, .val .null, .val (.int (((p1.toUInt32 >>> ((2 : Int32) &&& 31).toUInt32).toInt32) &&& (3 : Int32))), .val (.ref w_REFERENCE)] [(.int p1), (.ref w_REFERENCE), (.ref x), (.ref b13), (.ref b13)]))
            refine Go.st (fun _ kk => XS.bipush X13.here hx rfl (hb hby at_160) kk) ?_
            show Go p e below _ (T13.setTop (mkF m 162 #[.val (.int p1), .val (.int p2), .val (.int p3), .val (.int p4), .val (.ref b5), .val (.ref b10), .val (.ref x), .val (.int (p4 &&& (3 : Int32))), .val (.int (1 : Int32)), .val .null, .val .null, .val (.int (((p1.toUInt32 >>> ((2 : Int32) &&& 31).toUInt32).toInt32) &&& (3 : Int32))), .val (.ref w_REFERENCE)] [(.int (16 : Int32)), (.int p1), (.ref w_REFERENCE), (.ref x), (.ref b13), (.ref b13)]))
            refine Go.st (fun _ kk => XS.iand X13.here hx rfl (hb hby at_162) rfl kk) ?_
            show Go p e below _ (T13.setTop (mkF m 163 #[.val (.int p1), .val (.int p2), .val (.int p3), .val (.int p4), .val (.ref b5), .val (.ref b10), .val (.ref x), .val (.int (p4 &&& (3 : Int32))), .val (.int (1 : Int32)), .val .null, .val .null, .val (.int (((p1.toUInt32 >>> ((2 : Int32) &&& 31).toUInt32).toInt32) &&& (3 : Int32))), .val (.ref w_REFERENCE)] [(.int (p1 &&& (16 : Int32))), (.ref w_REFERENCE), (.ref x), (.ref b13), (.ref b13)]))
            have dia14 : ∀ t, Steps p.tables e below (T13.setTop (mkF m 171 #[.val (.int p1), .val (.int p2), .val (.int p3), .val (.int p4), .val (.ref b5), .val (.ref b10), .val (.ref x), .val (.int (p4 &&& (3 : Int32))), .val (.int (1 : Int32)), .val .null, .val .null, .val (.int (((p1.toUInt32 >>> ((2 : Int32) &&& 31).toUInt32).toInt32) &&& (3 : Int32))), .val (.ref w_REFERENCE)] [(.int (if (p1 &&& (16 : Int32)) = (0 : Int32) then (0 : Int32) else (1 : Int32))), (.ref w_REFERENCE), (.ref x), (.ref b13), (.ref b13)])) t → Steps p.tables e below (T13.setTop (mkF m 163 #[.val (.int p1), .val (.int p2), .val (.int p3), .val (.int p4), .val (.ref b5), .val (.ref b10), .val (.ref x), .val (.int (p4 &&& (3 : Int32))), .val (.int (1 : Int32)), .val .null, .val .null, .val (.int (((p1.toUInt32 >>> ((2 : Int32) &&& 31).toUInt32).toInt32) &&& (3 : Int32))), .val (.ref w_REFERENCE)] [(.int (p1 &&& (16 : Int32))), (.ref w_REFERENCE), (.ref x), (.ref b13), (.ref b13)])) t := by
              intro t kk
              by_cases hd14 : (p1 &&& (16 : Int32)) = (0 : Int32)
              · rw [if_pos hd14] at kk
                refine XS.ifYes X13.here hx rfl (pc0 := 163) (pc' := 170) rfl (hb hby at_163) rfl ((if0 _ _).trans (teq hd14).1) (by decide) (by decide) ?_
                show Steps p.tables e below (T13.setTop (mkF m 170 #[.val (.int p1), .val (.int p2), .val (.int p3), .val (.int p4), .val (.ref b5), .val (.ref b10), .val (.ref x), .val (.int (p4 &&& (3 : Int32))), .val (.int (1 : Int32)), .val .null, .val .null, .val (.int (((p1.toUInt32 >>> ((2 : Int32) &&& 31).toUInt32).toInt32) &&& (3 : Int32))), .val (.ref w_REFERENCE)] [(.ref w_REFERENCE), (.ref x), (.ref b13), (.ref b13)])) t
                refine XS.iconst X13.here hx rfl (hb hby at_170) ?_
                show Steps p.tables e below (T13.setTop (mkF m 171 #[.val (.int p1), .val (.int p2), .val (.int p3), .val (.int p4), .val (.ref b5), .val (.ref b10), .val (.ref x), .val (.int (p4 &&& (3 : Int32))), .val (.int (1 : Int32)), .val .null, .val .null, .val (.int (((p1.toUInt32 >>> ((2 : Int32) &&& 31).toUInt32).toInt32) &&& (3 : Int32))), .val (.ref w_REFERENCE)] [(.int (0 : Int32)), (.ref w_REFERENCE), (.ref x), (.ref b13), (.ref b13)])) t
                exact kk
              · rw [if_neg hd14] at kk
                refine XS.ifNo X13.here hx rfl (hb hby at_163) rfl ((if0 _ _).trans (feq hd14).1) ?_
                show Steps p.tables e below (T13.setTop (mkF m 166 #[.val (.int p1), .val (.int p2), .val (.int p3), .val (.int p4), .val (.ref b5), .val (.ref b10), .val (.ref x), .val (.int (p4 &&& (3 : Int32))), .val (.int (1 : Int32)), .val .null, .val .null, .val (.int (((p1.toUInt32 >>> ((2 : Int32) &&& 31).toUInt32).toInt32) &&& (3 : Int32))), .val (.ref w_REFERENCE)] [(.ref w_REFERENCE), (.ref x), (.ref b13), (.ref b13)])) t
                refine XS.iconst X13.here hx rfl (hb hby at_166) ?_
                show Steps p.tables e below (T13.setTop (mkF m 167 #[.val (.int p1), .val (.int p2), .val (.int p3), .val (.int p4), .val (.ref b5), .val (.ref b10), .val (.ref x), .val (.int (p4 &&& (3 : Int32))), .val (.int (1 : Int32)), .val .null, .val .null, .val (.int (((p1.toUInt32 >>> ((2 : Int32) &&& 31).toUInt32).toInt32) &&& (3 : Int32))), .val (.ref w_REFERENCE)] [(.int (1 : Int32)), (.ref w_REFERENCE), (.ref x), (.ref b13), (.ref b13)])) t
                refine XS.goto X13.here hx rfl (pc0 := 167) (pc' := 171) rfl (hb hby at_167) (by decide) (by decide) ?_
                show Steps p.tables e below (T13.setTop (mkF m 171 #[.val (.int p1), .val (.int p2), .val (.int p3), .val (.int p4), .val (.ref b5), .val (.ref b10), .val (.ref x), .val (.int (p4 &&& (3 : Int32))), .val (.int (1 : Int32)), .val .null, .val .null, .val (.int (((p1.toUInt32 >>> ((2 : Int32) &&& 31).toUInt32).toInt32) &&& (3 : Int32))), .val (.ref w_REFERENCE)] [(.int (1 : Int32)), (.ref w_REFERENCE), (.ref x), (.ref b13), (.ref b13)])) t
                exact kk
            refine Go.st dia14 ?_
            show Go p e below _ (T13.setTop (mkF m 171 #[.val (.int p1), .val (.int p2), .val (.int p3), .val (.int p4), .val (.ref b5), .val (.ref b10), .val (.ref x), .val (.int (p4 &&& (3 : Int32))), .val (.int (1 : Int32)), .val .null, .val .null, .val (.int (((p1.toUInt32 >>> ((2 : Int32) &&& 31).toUInt32).toInt32) &&& (3 : Int32))), .val (.ref w_REFERENCE)] [(.int (if (p1 &&& (16 : Int32)) = (0 : Int32) then (0 : Int32) else (1 : Int32))), (.ref w_REFERENCE), (.ref x), (.ref b13), (.ref b13)]))
            have hk := (Nat.le_trans hk E13.1)
            obtain ⟨_, _, ⟨T15, L15, k15, n15⟩, -, X15, hS15, hG15, ⟨Lc15, hQ15, l15, y15, z15⟩, st15⟩ := X13.specialBackS hx (y := (⟨"com/example/mergewell/mergewell/core/Feature", "<init>", "(Ljava/lang/String;Lcom/example/mergewell/mergewell/core/Feature$Kind;Z)V"⟩ : MethodName)) rfl hown (mvT hZ (hw _ (List.mem_of_getElem? (i := 33) rfl))) (mvT hZ (hw _ (List.mem_of_getElem? (i := 34) rfl))) (mvT hZ (hw _ (List.mem_of_getElem? (i := 35) rfl))) (by decide) (backOfS (W := 1) (rm6_o l Z a0 hw [] b13 x w_REFERENCE (if (p1 &&& (16 : Int32)) = (0 : Int32) then (0 : Int32) else (1 : Int32)) .null .null (.int (0 : Int32)) (.int (0 : Int32)) .null h13 n0 (Nat.le_trans Z0 K13.1) E_b13 F_name_b13 g_b13 F_kind_b13 F_many_b13 F_ordered_b13 F_singleOpposite_b13) hZ (hw _ (List.mem_of_getElem? (i := 35) rfl)) (hw _ (List.mem_of_getElem? (i := 32) rfl)) (by decide) (by decide)) (g := (mkF m 171 #[.val (.int p1), .val (.int p2), .val (.int p3), .val (.int p4), .val (.ref b5), .val (.ref b10), .val (.ref x), .val (.int (p4 &&& (3 : Int32))), .val (.int (1 : Int32)), .val .null, .val .null, .val (.int (((p1.toUInt32 >>> ((2 : Int32) &&& 31).toUInt32).toInt32) &&& (3 : Int32))), .val (.ref w_REFERENCE)] [(.int (if (p1 &&& (16 : Int32)) = (0 : Int32) then (0 : Int32) else (1 : Int32))), (.ref w_REFERENCE), (.ref x), (.ref b13), (.ref b13)])) rfl (by rw [hml]; rfl) (Steps.refl _) (a := b13) (argsL := [(.ref x), (.ref w_REFERENCE), (.int (if (p1 &&& (16 : Int32)) = (0 : Int32) then (0 : Int32) else (1 : Int32)))]) (rest := [(.ref b13)]) (lenOf pd_11 rfl) rfl (by show 2 * 0 + _ ≤ _; exact Nat.le_of_eq rfl) (hb hby at_171) (fun _ _ => ⟨rfl, e13, (by decide : 13 + 4 ≤ _), (by decide : 65 + 40 ≤ _)⟩)
            dsimp only [Pt.U, Pt.locs, Pt.cells, Pt.slots] at X15 l15 y15 z15 st15 hQ15 hS15 hG15
            subst l15 y15 z15
            obtain ⟨X15, hS, hZ, hown⟩ := rebS hS (by rw [e13]; exact hk) X15 hS15 hG15 hZ hown
            have hk := Nat.le_refl T15.heap.size
            obtain ⟨rfl, N15q, Kc15, P15_0⟩ := hQ15
            have K15 : Keep h0 T15.heap [] := K13.trans Kc15 (allS (Or.inr sz_b13) all0)
            have N15 := Fr.app N N15q
            refine Go.tr st15 ?_
            show Go p e below _ (T15.setTop (mkF m 174 #[.val (.int p1), .val (.int p2), .val (.int p3), .val (.int p4), .val (.ref b5), .val (.ref b10), .val (.ref x), .val (.int (p4 &&& (3 : Int32))), .val (.int (1 : Int32)), .val .null, .val .null, .val (.int (((p1.toUInt32 >>> ((2 : Int32) &&& 31).toUInt32).toInt32) &&& (3 : Int32))), .val (.ref w_REFERENCE)] [(.ref b13)]))
            refine Go.st (fun _ kk => XS.astore X15.here hx rfl (hb hby at_174) rfl rfl (l' := #[.val (.int p1), .val (.int p2), .val (.int p3), .val (.int p4), .val (.ref b5), .val (.ref b10), .val (.ref x), .val (.int (p4 &&& (3 : Int32))), .val (.int (1 : Int32)), .val .null, .val (.ref b13), .val (.int (((p1.toUInt32 >>> ((2 : Int32) &&& 31).toUInt32).toInt32) &&& (3 : Int32))), .val (.ref w_REFERENCE)]) rfl kk) ?_
            show Go p e below _ (T15.setTop (mkF m 176 #[.val (.int p1), .val (.int p2), .val (.int p3), .val (.int p4), .val (.ref b5), .val (.ref b10), .val (.ref x), .val (.int (p4 &&& (3 : Int32))), .val (.int (1 : Int32)), .val .null, .val (.ref b13), .val (.int (((p1.toUInt32 >>> ((2 : Int32) &&& 31).toUInt32).toInt32) &&& (3 : Int32))), .val (.ref w_REFERENCE)] []))
            obtain ⟨T16, h16, X16, e16, E16, A16, D16, -, st16⟩ := newO X15 hx hZ hown (hw _ (List.mem_of_getElem? (i := 66) rfl)) (hw _ (List.mem_of_getElem? (i := 67) rfl)) (hw _ (List.mem_of_getElem? (i := 68) rfl)) rfl (g := (mkF m 176 #[.val (.int p1), .val (.int p2), .val (.int p3), .val (.int p4), .val (.ref b5), .val (.ref b10), .val (.ref x), .val (.int (p4 &&& (3 : Int32))), .val (.int (1 : Int32)), .val .null, .val (.ref b13), .val (.int (((p1.toUInt32 >>> ((2 : Int32) &&& 31).toUInt32).toInt32) &&& (3 : Int32))), .val (.ref w_REFERENCE)] [])) rfl (hb hby at_176) (by decide) (by decide)
            obtain ⟨b16, g16⟩ : ∃ z, z = T15.heap.size := ⟨_, rfl⟩
            rw [← g16] at A16 D16 st16
            refine Go.st st16 ?_
            have g_b16 : n0 ≤ b16 := Nat.le_trans (Nat.le_trans Z0 K15.1) (Nat.le_of_eq g16.symm)
            have sz_b16 : h0.size ≤ b16 := Nat.le_trans K15.1 (Nat.le_of_eq g16.symm)
            have lt_b13_b16 : b13 < b16 := Nat.lt_of_lt_of_le P15_0.lt (Nat.le_of_eq g16.symm)
            have K16 : Keep h0 h16 [] := K15.ext E16
            have E_b16 : Exa Z h16 b16 "com/example/mergewell/mergewell/core/Slot" := A16
            have F_owner_b16 : Fld Z h16 b16 "com/example/mergewell/mergewell/core/Slot" "owner" "Ljava/lang/String;" .null := D16 (Or.inr (hw _ (List.mem_of_getElem? (i := 74) rfl))) (ty := (.object "java/lang/String")) (by decide)
            have F_feature_b16 : Fld Z h16 b16 "com/example/mergewell/mergewell/core/Slot" "feature" "Lcom/example/mergewell/mergewell/core/Feature;" .null := D16 (Or.inr (hw _ (List.mem_of_getElem? (i := 76) rfl))) (ty := (.object "com/example/mergewell/mergewell/core/Feature")) (by decide)
            show Go p e below _ (T16.setTop (mkF m 179 #[.val (.int p1), .val (.int p2), .val (.int p3), .val (.int p4), .val (.ref b5), .val (.ref b10), .val (.ref x), .val (.int (p4 &&& (3 : Int32))), .val (.int (1 : Int32)), .val .null, .val (.ref b13), .val (.int (((p1.toUInt32 >>> ((2 : Int32) &&& 31).toUInt32).toInt32) &&& (3 : Int32))), .val (.ref w_REFERENCE)] [(.ref b16)]))
            refine Go.st (fun _ kk => XS.dup X16.here hx rfl (hb hby at_179) rfl rfl kk) ?_
            show Go p e below _ (T16.setTop (mkF m 180 #[.val (.int p1), .val (.int p2), .val (.int p3), .val (.int p4), .val (.ref b5), .val (.ref b10), .val (.ref x), .val (.int (p4 &&& (3 : Int32))), .val (.int (1 : Int32)), .val .null, .val (.ref b13), .val (.int (((p1.toUInt32 >>> ((2 : Int32) &&& 31).toUInt32).toInt32) &&& (3 : Int32))), .val (.ref w_REFERENCE)] [(.ref b16), (.ref b16)]))
            refine Go.st (fun _ kk => XS.aload X16.here hx rfl (hb hby at_180) rfl rfl  kk) ?_
            show Go p e below _ (T16.setTop (mkF m 182 #[.val (.int p1), .val (.int p2), .val (.int p3), .val (.int p4), .val (.ref b5), .val (.ref b10), .val (.ref x), .val (.int (p4 &&& (3 : Int32))), .val (.int (1 : Int32)), .val .null, .val (.ref b13), .val (.int (((p1.toUInt32 >>> ((2 : Int32) &&& 31).toUInt32).toInt32) &&& (3 : Int32))), .val (.ref w_REFERENCE)] [.null, (.ref b16), (.ref b16)]))
            refine Go.st (fun _ kk => XS.aload X16.here hx rfl (hb hby at_182) rfl rfl  kk) ?_
            show Go p e below _ (T16.setTop (mkF m 184 #[.val (.int p1), .val (.int p2), .val (.int p3), .val (.int p4), .val (.ref b5), .val (.ref b10), .val (.ref x), .val (.int (p4 &&& (3 : Int32))), .val (.int (1 : Int32)), .val .null, .val (.ref b13), .val (.int (((p1.toUInt32 >>> ((2 : Int32) &&& 31).toUInt32).toInt32) &&& (3 : Int32))), .val (.ref w_REFERENCE)] [(.ref b13), .null, (.ref b16), (.ref b16)]))
            obtain ⟨_, _, ⟨T17, L17, k17, n17⟩, -, X17, ⟨Lc17, hQ17, l17, y17, z17⟩, st17⟩ := X16.specialBack hx (y := (⟨"com/example/mergewell/mergewell/core/Slot", "<init>", "(Ljava/lang/String;Lcom/example/mergewell/mergewell/core/Feature;)V"⟩ : MethodName)) rfl hown (mvT hZ (hw _ (List.mem_of_getElem? (i := 69) rfl))) (mvT hZ (hw _ (List.mem_of_getElem? (i := 70) rfl))) (mvT hZ (hw _ (List.mem_of_getElem? (i := 71) rfl))) (by decide) (backOf (W := 1) (rm11ab_o l Z a0 hw [] b16 b13 .null .null h16 n0 (Nat.le_trans Z0 K16.1) E_b16 F_owner_b16 g_b16 F_feature_b16) hZ (hw _ (List.mem_of_getElem? (i := 71) rfl)) (hw _ (List.mem_of_getElem? (i := 68) rfl)) (by decide) (by decide)) (g := (mkF m 184 #[.val (.int p1), .val (.int p2), .val (.int p3), .val (.int p4), .val (.ref b5), .val (.ref b10), .val (.ref x), .val (.int (p4 &&& (3 : Int32))), .val (.int (1 : Int32)), .val .null, .val (.ref b13), .val (.int (((p1.toUInt32 >>> ((2 : Int32) &&& 31).toUInt32).toInt32) &&& (3 : Int32))), .val (.ref w_REFERENCE)] [(.ref b13), .null, (.ref b16), (.ref b16)])) rfl (by rw [hml]; rfl) (Steps.refl _) (a := b16) (argsL := [.null, (.ref b13)]) (rest := [(.ref b16)]) (lenOf pd_12 rfl) rfl (by show 2 * 0 + _ ≤ _; exact Nat.le_of_eq rfl) (hb hby at_184) (fun _ _ => ⟨rfl, e16, (by decide : 18 + 0 ≤ _), (by decide : 107 + 0 ≤ _)⟩)
            dsimp only [Pt.U, Pt.locs, Pt.cells, Pt.slots] at X17 l17 y17 z17 st17 hQ17
            subst l17 y17 z17
            obtain ⟨rfl, N17q, Kc17, P17_0, P17_1⟩ := hQ17
            have K17 : Keep h0 T17.heap [] := K16.trans Kc17 (allS (Or.inr sz_b16) all0)
            have N17 := Fr.app N15 N17q
            refine Go.tr st17 ?_
            show Go p e below _ (T17.setTop (mkF m 187 #[.val (.int p1), .val (.int p2), .val (.int p3), .val (.int p4), .val (.ref b5), .val (.ref b10), .val (.ref x), .val (.int (p4 &&& (3 : Int32))), .val (.int (1 : Int32)), .val .null, .val (.ref b13), .val (.int (((p1.toUInt32 >>> ((2 : Int32) &&& 31).toUInt32).toInt32) &&& (3 : Int32))), .val (.ref w_REFERENCE)] [(.ref b16)]))
            refine Go.st (fun _ kk => XS.astore X17.here hx rfl (hb hby at_187) rfl rfl (l' := #[.val (.int p1), .val (.int p2), .val (.int p3), .val (.int p4), .val (.ref b5), .val (.ref b10), .val (.ref x), .val (.int (p4 &&& (3 : Int32))), .val (.int (1 : Int32)), .val .null, .val (.ref b13), .val (.ref b16), .val (.ref w_REFERENCE)]) rfl kk) ?_
            show Go p e below _ (T17.setTop (mkF m 189 #[.val (.int p1), .val (.int p2), .val (.int p3), .val (.int p4), .val (.ref b5), .val (.ref b10), .val (.ref x), .val (.int (p4 &&& (3 : Int32))), .val (.int (1 : Int32)), .val .null, .val (.ref b13), .val (.ref b16), .val (.ref w_REFERENCE)] []))
            refine Go.st (fun _ kk => XS.aload X17.here hx rfl (hb hby at_189) rfl rfl  kk) ?_
            show Go p e below _ (T17.setTop (mkF m 191 #[.val (.int p1), .val (.int p2), .val (.int p3), .val (.int p4), .val (.ref b5), .val (.ref b10), .val (.ref x), .val (.int (p4 &&& (3 : Int32))), .val (.int (1 : Int32)), .val .null, .val (.ref b13), .val (.ref b16), .val (.ref w_REFERENCE)] [(.ref b16)]))
            obtain ⟨cq18, kq18, q18a, q18b, q18c⟩ := isOf hZ rfl P17_0
            obtain ⟨_, _, ⟨T18, L18, k18, n18⟩, -, X18, ⟨Lc18, hQ18, l18, y18, z18⟩, st18⟩ := X17.virtualBack hx (y := (⟨"com/example/mergewell/mergewell/core/Slot", "isRoot", "()Z"⟩ : MethodName)) (z := (⟨"com/example/mergewell/mergewell/core/Slot", "isRoot", "()Z"⟩ : MethodName)) hown (mvT hZ (hw _ (List.mem_of_getElem? (i := 77) rfl))) (mvT hZ (hw _ (List.mem_of_getElem? (i := 78) rfl))) (notFace_of_selects (args := #[]) (mvT hZ (hw _ (List.mem_of_getElem? (i := 80) rfl)))) (mvT hZ (hw _ (List.mem_of_getElem? (i := 80) rfl))) (mvT hZ (hw _ (List.mem_of_getElem? (i := 79) rfl))) (by decide) (backOf (W := 0) (rm12n_o l Z a0 hw [] b16 T17.heap n0 (Nat.le_trans Z0 K17.1) P17_1) hZ (hw _ (List.mem_of_getElem? (i := 81) rfl)) (hw _ (List.mem_of_getElem? (i := 68) rfl)) (by decide) (by decide)) q18a q18c (g := (mkF m 191 #[.val (.int p1), .val (.int p2), .val (.int p3), .val (.int p4), .val (.ref b5), .val (.ref b10), .val (.ref x), .val (.int (p4 &&& (3 : Int32))), .val (.int (1 : Int32)), .val .null, .val (.ref b13), .val (.ref b16), .val (.ref w_REFERENCE)] [(.ref b16)])) rfl (by rw [hml]; rfl) (Steps.refl _) (argsL := []) (rest := []) (lenOf pd_13 rfl) rfl (by show 2 * 0 + _ ≤ _; exact Nat.le_of_eq rfl) (hb hby at_191) (fun _ _ => ⟨rfl, rfl, (by decide : 18 + 0 ≤ _), (by decide : 107 + 0 ≤ _)⟩)
            dsimp only [Pt.U, Pt.locs, Pt.cells, Pt.slots] at X18 l18 y18 z18 st18 hQ18
            subst l18 y18 z18
            obtain ⟨rfl, N18q, eq18⟩ := hQ18
            have N18 := Fr.app N17 N18q
            refine Go.tr st18 ?_
            show Go p e below _ (T18.setTop (mkF m 194 #[.val (.int p1), .val (.int p2), .val (.int p3), .val (.int p4), .val (.ref b5), .val (.ref b10), .val (.ref x), .val (.int (p4 &&& (3 : Int32))), .val (.int (1 : Int32)), .val .null, .val (.ref b13), .val (.ref b16), .val (.ref w_REFERENCE)] [(.int (1 : Int32))]))
            refine Go.st (fun _ kk => XS.iload X18.here hx rfl (hb hby at_194) rfl  kk) ?_
            show Go p e below _ (T18.setTop (mkF m 196 #[.val (.int p1), .val (.int p2), .val (.int p3), .val (.int p4), .val (.ref b5), .val (.ref b10), .val (.ref x), .val (.int (p4 &&& (3 : Int32))), .val (.int (1 : Int32)), .val .null, .val (.ref b13), .val (.ref b16), .val (.ref w_REFERENCE)] [(.int (1 : Int32)), (.int (1 : Int32))]))
            refine Go.st (fun _ kk => XS.icmpNo X18.here hx rfl (hb hby at_196) rfl (teq (by decide : ((1 : Int32) = (1 : Int32)))).2 kk) ?_
            show Go p e below _ (T18.setTop (mkF m 199 #[.val (.int p1), .val (.int p2), .val (.int p3), .val (.int p4), .val (.ref b5), .val (.ref b10), .val (.ref x), .val (.int (p4 &&& (3 : Int32))), .val (.int (1 : Int32)), .val .null, .val (.ref b13), .val (.ref b16), .val (.ref w_REFERENCE)] []))
            have f_19 := (staKeep0 S_ROOT K17)
            obtain ⟨T20, X20, e20, st20⟩ := getS2 X18 hx hZ hown (host := "") (Or.inl (hw _ (List.mem_of_getElem? (i := 82) rfl))) Via.refl eq18 f_19 (g := (mkF m 199 #[.val (.int p1), .val (.int p2), .val (.int p3), .val (.int p4), .val (.ref b5), .val (.ref b10), .val (.ref x), .val (.int (p4 &&& (3 : Int32))), .val (.int (1 : Int32)), .val .null, .val (.ref b13), .val (.ref b16), .val (.ref w_REFERENCE)] [])) rfl (hb hby at_199)
            refine Go.st st20 ?_
            show Go p e below _ (T20.setTop (mkF m 202 #[.val (.int p1), .val (.int p2), .val (.int p3), .val (.int p4), .val (.ref b5), .val (.ref b10), .val (.ref x), .val (.int (p4 &&& (3 : Int32))), .val (.int (1 : Int32)), .val .null, .val (.ref b13), .val (.ref b16), .val (.ref w_REFERENCE)] [(.ref w_ROOT)]))
            have f_21 := (E_w_ROOT.keep K17)
            have f_22 := (F_owner_w_ROOT.keep K17 nin0)
            obtain ⟨cq23, kq23, q23a, q23b, q23c⟩ := isOf hZ e20 f_21
            obtain ⟨_, _, ⟨T23, L23, k23, n23⟩, -, X23, ⟨Lc23, hQ23, l23, y23, z23⟩, st23⟩ := X20.virtualBack hx (y := (⟨"com/example/mergewell/mergewell/core/Slot", "isRoot", "()Z"⟩ : MethodName)) (z := (⟨"com/example/mergewell/mergewell/core/Slot", "isRoot", "()Z"⟩ : MethodName)) hown (mvT hZ (hw _ (List.mem_of_getElem? (i := 77) rfl))) (mvT hZ (hw _ (List.mem_of_getElem? (i := 78) rfl))) (notFace_of_selects (args := #[]) (mvT hZ (hw _ (List.mem_of_getElem? (i := 80) rfl)))) (mvT hZ (hw _ (List.mem_of_getElem? (i := 80) rfl))) (mvT hZ (hw _ (List.mem_of_getElem? (i := 79) rfl))) (by decide) (backOf (W := 0) (rm12n_o l Z a0 hw [] w_ROOT T17.heap n0 (Nat.le_trans Z0 K17.1) f_22) hZ (hw _ (List.mem_of_getElem? (i := 81) rfl)) (hw _ (List.mem_of_getElem? (i := 68) rfl)) (by decide) (by decide)) q23a q23c (g := (mkF m 202 #[.val (.int p1), .val (.int p2), .val (.int p3), .val (.int p4), .val (.ref b5), .val (.ref b10), .val (.ref x), .val (.int (p4 &&& (3 : Int32))), .val (.int (1 : Int32)), .val .null, .val (.ref b13), .val (.ref b16), .val (.ref w_REFERENCE)] [(.ref w_ROOT)])) rfl (by rw [hml]; rfl) (Steps.refl _) (argsL := []) (rest := []) (lenOf pd_13 rfl) rfl (by show 2 * 0 + _ ≤ _; exact Nat.le_of_eq rfl) (hb hby at_202) (fun _ _ => ⟨rfl, e20, (by decide : 18 + 0 ≤ _), (by decide : 107 + 0 ≤ _)⟩)
            dsimp only [Pt.U, Pt.locs, Pt.cells, Pt.slots] at X23 l23 y23 z23 st23 hQ23
            subst l23 y23 z23
            obtain ⟨rfl, N23q, eq23⟩ := hQ23
            have N23 := Fr.app N18 N23q
            refine Go.tr st23 ?_
            show Go p e below _ (T23.setTop (mkF m 205 #[.val (.int p1), .val (.int p2), .val (.int p3), .val (.int p4), .val (.ref b5), .val (.ref b10), .val (.ref x), .val (.int (p4 &&& (3 : Int32))), .val (.int (1 : Int32)), .val .null, .val (.ref b13), .val (.ref b16), .val (.ref w_REFERENCE)] [(.int (1 : Int32))]))
            refine Go.st (fun _ kk => XS.ifNo X23.here hx rfl (hb hby at_205) rfl ((if0 _ _).trans (feq (by decide : ¬ ((1 : Int32) = (0 : Int32)))).1) kk) ?_
            show Go p e below _ (T23.setTop (mkF m 208 #[.val (.int p1), .val (.int p2), .val (.int p3), .val (.int p4), .val (.ref b5), .val (.ref b10), .val (.ref x), .val (.int (p4 &&& (3 : Int32))), .val (.int (1 : Int32)), .val .null, .val (.ref b13), .val (.ref b16), .val (.ref w_REFERENCE)] []))
            refine Go.st (fun _ kk => XS.iconst X23.here hx rfl (hb hby at_208) kk) ?_
            show Go p e below _ (T23.setTop (mkF m 209 #[.val (.int p1), .val (.int p2), .val (.int p3), .val (.int p4), .val (.ref b5), .val (.ref b10), .val (.ref x), .val (.int (p4 &&& (3 : Int32))), .val (.int (1 : Int32)), .val .null, .val (.ref b13), .val (.ref b16), .val (.ref w_REFERENCE)] [(.int (1 : Int32))]))
            refine Go.st (fun _ kk => XS.goto X23.here hx rfl (pc0 := 209) (pc' := 213) rfl (hb hby at_209) (by decide) (by decide) kk) ?_
            show Go p e below _ (T23.setTop (mkF m 213 #[.val (.int p1), .val (.int p2), .val (.int p3), .val (.int p4), .val (.ref b5), .val (.ref b10), .val (.ref x), .val (.int (p4 &&& (3 : Int32))), .val (.int (1 : Int32)), .val .null, .val (.ref b13), .val (.ref b16), .val (.ref w_REFERENCE)] [(.int (1 : Int32))]))
            have hk := (Nat.le_trans (Nat.le_trans hk E16.1) Kc17.1)
            exact Go.retW (Q := Q0 n0) hS (hk) X23 (v := some (.int (1 : Int32))) (fun h => by rw [Bd.returns] at h; cases h) Bd.notSynchronized (fun fs hr => retN X23 hx (t := .boolean) Bd.returns (by simp) (hb hby at_213) hr) eq23 ⟨rfl, N23⟩ (by decide) (by decide)
          · skip
            refine Go.st (fun _ kk => XS.icmpYes X.here hx rfl (pc0 := 137) (pc' := 146) rfl (hb hby at_137) rfl (feq hc_7).2 (by decide) (by decide) kk) ?_
            show Go p e below _ (T.setTop (mkF m 146 #[.val (.int p1), .val (.int p2), .val (.int p3), .val (.int p4), .val (.ref b5), .val (.ref b10), .val (.ref x), .val (.int (p4 &&& (3 : Int32))), .val (.int (1 : Int32)), .val .null, .val .null, .val (.int (((p1.toUInt32 >>> ((2 : Int32) &&& 31).toUInt32).toInt32) &&& (3 : Int32))), .unset] []))
            have f_11 := (staKeep0 S_CONTAINMENT K)
            obtain ⟨T12, X12, e12, st12⟩ := getS2 X hx hZ hown (host := "") (Or.inl (hw _ (List.mem_of_getElem? (i := 101) rfl))) Via.refl eT f_11 (g := (mkF m 146 #[.val (.int p1), .val (.int p2), .val (.int p3), .val (.int p4), .val (.ref b5), .val (.ref b10), .val (.ref x), .val (.int (p4 &&& (3 : Int32))), .val (.int (1 : Int32)), .val .null, .val .null, .val (.int (((p1.toUInt32 >>> ((2 : Int32) &&& 31).toUInt32).toInt32) &&& (3 : Int32))), .unset] [])) rfl (hb hby at_146)
            refine Go.st st12 ?_
            show Go p e below _ (T12.setTop (mkF m 149 #[.val (.int p1), .val (.int p2), .val (.int p3), .val (.int p4), .val (.ref b5), .val (.ref b10), .val (.ref x), .val (.int (p4 &&& (3 : Int32))), .val (.int (1 : Int32)), .val .null, .val .null, .val (.int (((p1.toUInt32 >>> ((2 : Int32) &&& 31).toUInt32).toInt32) &&& (3 : Int32))), .unset] [(.ref w_CONTAINMENT)]))
            refine Go.st (fun _ kk => XS.astore X12.here hx rfl (hb hby at_149) rfl rfl (l' := #[.val (.int p1), .val (.int p2), .val (.int p3), .val (.int p4), .val (.ref b5), .val (.ref b10), .val (.ref x), .val (.int (p4 &&& (3 : Int32))), .val (.int (1 : Int32)), .val .null, .val .null, .val (.int (((p1.toUInt32 >>> ((2 : Int32) &&& 31).toUInt32).toInt32) &&& (3 : Int32))), .val (.ref w_CONTAINMENT)]) rfl kk) ?_
            show Go p e below _ (T12.setTop (mkF m 151 #[.val (.int p1), .val (.int p2), .val (.int p3), .val (.int p4), .val (.ref b5), .val (.ref b10), .val (.ref x), .val (.int (p4 &&& (3 : Int32))), .val (.int (1 : Int32)), .val .null, .val .null, .val (.int (((p1.toUInt32 >>> ((2 : Int32) &&& 31).toUInt32).toInt32) &&& (3 : Int32))), .val (.ref w_CONTAINMENT)] []))
            obtain ⟨T13, h13, X13, e13, E13, A13, D13, -, st13⟩ := newO X12 hx hZ hown (hw _ (List.mem_of_getElem? (i := 30) rfl)) (hw _ (List.mem_of_getElem? (i := 31) rfl)) (hw _ (List.mem_of_getElem? (i := 32) rfl)) e12 (g := (mkF m 151 #[.val (.int p1), .val (.int p2), .val (.int p3), .val (.int p4), .val (.ref b5), .val (.ref b10), .val (.ref x), .val (.int (p4 &&& (3 : Int32))), .val (.int (1 : Int32)), .val .null, .val .null, .val (.int (((p1.toUInt32 >>> ((2 : Int32) &&& 31).toUInt32).toInt32) &&& (3 : Int32))), .val (.ref w_CONTAINMENT)] [])) rfl (hb hby at_151) (by decide) (by decide)
            obtain ⟨b13, g13⟩ : ∃ z, z = h.size := ⟨_, rfl⟩
            rw [← g13] at A13 D13 st13
            refine Go.st st13 ?_
            have g_b13 : n0 ≤ b13 := Nat.le_trans (Nat.le_trans Z0 K.1) (Nat.le_of_eq g13.symm)
            have sz_b13 : h0.size ≤ b13 := Nat.le_trans K.1 (Nat.le_of_eq g13.symm)
            have K13 : Keep h0 h13 [] := K.ext E13
            have E_b13 : Exa Z h13 b13 "com/example/mergewell/mergewell/core/Feature" := A13
            have F_name_b13 : Fld Z h13 b13 "com/example/mergewell/mergewell/core/Feature" "name" "Ljava/lang/String;" .null := D13 (Or.inr (hw _ (List.mem_of_getElem? (i := 57) rfl))) (ty := (.object "java/lang/String")) (by decide)
            have F_kind_b13 : Fld Z h13 b13 "com/example/mergewell/mergewell/core/Feature" "kind" "Lcom/example/mergewell/mergewell/core/Feature$Kind;" .null := D13 (Or.inr (hw _ (List.mem_of_getElem? (i := 59) rfl))) (ty := (.object "com/example/mergewell/mergewell/core/Feature$Kind")) (by decide)
            have F_many_b13 : Fld Z h13 b13 "com/example/mergewell/mergewell/core/Feature" "many" "Z" (.int (0 : Int32)) := D13 (Or.inr (hw _ (List.mem_of_getElem? (i := 61) rfl))) (ty := .boolean) (by decide)
            have F_ordered_b13 : Fld Z h13 b13 "com/example/mergewell/mergewell/core/Feature" "ordered" "Z" (.int (0 : Int32)) := D13 (Or.inr (hw _ (List.mem_of_getElem? (i := 63) rfl))) (ty := .boolean) (by decide)
            have F_singleOpposite_b13 : Fld Z h13 b13 "com/example/mergewell/mergewell/core/Feature" "singleOpposite" "Ljava/lang/String;" .null := D13 (Or.inr (hw _ (List.mem_of_getElem? (i := 65) rfl))) (ty := (.object "java/lang/String")) (by decide)
            show Go p e below _ (T13.setTop (mkF m 154 #[.val (.int p1), .val (.int p2), .val (.int p3), .val (.int p4), .val (.ref b5), .val (.ref b10), .val (.ref x), .val (.int (p4 &&& (3 : Int32))), .val (.int (1 : Int32)), .val .null, .val .null, .val (.int (((p1.toUInt32 >>> ((2 : Int32) &&& 31).toUInt32).toInt32) &&& (3 : Int32))), .val (.ref w_CONTAINMENT)] [(.ref b13)]))
            refine Go.st (fun _ kk => XS.dup X13.here hx rfl (hb hby at_154) rfl rfl kk) ?_
            show Go p e below _ (T13.setTop (mkF m 155 #[.val (.int p1), .val (.int p2), .val (.int p3), .val (.int p4), .val (.ref b5), .val (.ref b10), .val (.ref x), .val (.int (p4 &&& (3 : Int32))), .val (.int (1 : Int32)), .val .null, .val .null, .val (.int (((p1.toUInt32 >>> ((2 : Int32) &&& 31).toUInt32).toInt32) &&& (3 : Int32))), .val (.ref w_CONTAINMENT)] [(.ref b13), (.ref b13)]))
            refine Go.st (fun _ kk => XS.aload X13.here hx rfl (hb hby at_155) rfl rfl  kk) ?_
            show Go p e below _ (T13.setTop (mkF m 157 #[.val (.int p1), .val (.int p2), .val (.int p3), .val (.int p4), .val (.ref b5), .val (.ref b10), .val (.ref x), .val (.int (p4 &&& (3 : Int32))), .val (.int (1 : Int32)), .val .null, .val .null, .val (.int (((p1.toUInt32 >>> ((2 : Int32) &&& 31).toUInt32).toInt32) &&& (3 : Int32))), .val (.ref w_CONTAINMENT)] [(.ref x), (.ref b13), (.ref b13)]))
            refine Go.st (fun _ kk => XS.aload X13.here hx rfl (hb hby at_157) rfl rfl  kk) ?_
            show Go p e below _ (T13.setTop (mkF m 159 #[.val (.int p1), .val (.int p2), .val (.int p3), .val (.int p4), .val (.ref b5), .val (.ref b10), .val (.ref x), .val (.int (p4 &&& (3 : Int32))), .val (.int (1 : Int32)), .val .null, .val .null, .val (.int (((p1.toUInt32 >>> ((2 : Int32) &&& 31).toUInt32).toInt32) &&& (3 : Int32))), .val (.ref w_CONTAINMENT)] [(.ref w_CONTAINMENT), (.ref x), (.ref b13), (.ref b13)]))
            refine Go.st (fun _ kk => XS.iloadN X13.here hx rfl (hb hby at_159) rfl  kk) ?_
            show Go p e below _ (T13.setTop (mkF m 160 #[.val (.int p1), .val (.int p2), .val (.int p3), .val (.int p4), .val (.ref b5), .val (.ref b10), .val (.ref x), .val (.int (p4 &&& (3 : Int32))), .val (.int (1 : Int32)), .val .null, .val .null, .val (.int (((p1.toUInt32 >>> ((2 : Int32) &&& 31).toUInt32).toInt32) &&& (3 : Int32))), .val (.ref w_CONTAINMENT)] [(.int p1), (.ref w_CONTAINMENT), (.ref x), (.ref b13), (.ref b13)]))
            refine Go.st (fun _ kk => XS.bipush X13.here hx rfl (hb hby at_160) kk) ?_
            show Go p e below _ (T13.setTop (mkF m 162 #[.val (.int p1), .val (.int p2), .val (.int p3), .val (.int p4), .val (.ref b5), .val (.ref b10), .val (.ref x), .val (.int (p4 &&& (3 : Int32))), .val (.int (1 : Int32)), .val .null, .val .null, .val (.int (((p1.toUInt32 >>> ((2 : Int32) &&& 31).toUInt32).toInt32) &&& (3 : Int32))), .val (.ref w_CONTAINMENT)] [(.int (16 : Int32)), (.int p1), (.ref w_CONTAINMENT), (.ref x), (.ref b13), (.ref b13)]))
            refine Go.st (fun _ kk => XS.iand X13.here hx rfl (hb hby at_162) rfl kk) ?_
            show Go p e below _ (T13.setTop (mkF m 163 #[.val (.int p1), .val (.int p2), .val (.int p3), .val (.int p4), .val (.ref b5), .val (.ref b10), .val (.ref x), .val (.int (p4 &&& (3 : Int32))), .val (.int (1 : Int32)), .val .null, .val .null, .val (.int (((p1.toUInt32 >>> ((2 : Int32) &&& 31).toUInt32).toInt32) &&& (3 : Int32))), .val (.ref w_CONTAINMENT)] [(.int (p1 &&& (16 : Int32))), (.ref w_CONTAINMENT), (.ref x), (.ref b13), (.ref b13)]))
            have dia14 : ∀ t, Steps p.tables e below (T13.setTop (mkF m 171 #[.val (.int p1), .val (.int p2), .val (.int p3), .val (.int p4), .val (.ref b5), .val (.ref b10), .val (.ref x), .val (.int (p4 &&& (3 : Int32))), .val (.int (1 : Int32)), .val .null, .val .null, .val (.int (((p1.toUInt32 >>> ((2 : Int32) &&& 31).toUInt32).toInt32) &&& (3 : Int32))), .val (.ref w_CONTAINMENT)] [(.int (if (p1 &&& (16 : Int32)) = (0 : Int32) then (0 : Int32) else (1 : Int32))), (.ref w_CONTAINMENT), (.ref x), (.ref b13), (.ref b13)])) t → Steps p.tables e below (T13.setTop (mkF m 163 #[.val (.int p1), .val (.int p2), .val (.int p3), .val (.int p4), .val (.ref b5), .val (.ref b10), .val (.ref x), .val (.int (p4 &&& (3 : Int32))), .val (.int (1 : Int32)), .val .null, .val .null, .val (.int (((p1.toUInt32 >>> ((2 : Int32) &&& 31).toUInt32).toInt32) &&& (3 : Int32))), .val (.ref w_CONTAINMENT)] [(.int (p1 &&& (16 : Int32))), (.ref w_CONTAINMENT), (.ref x), (.ref b13), (.ref b13)])) t := by
              intro t kk
              by_cases hd14 : (p1 &&& (16 : Int32)) = (0 : Int32)
              · rw [if_pos hd14] at kk
                refine XS.ifYes X13.here hx rfl (pc0 := 163) (pc' := 170) rfl (hb hby at_163) rfl ((if0 _ _).trans (teq hd14).1) (by decide) (by decide) ?_
                show Steps p.tables e below (T13.setTop (mkF m 170 #[.val (.int p1), .val (.int p2), .val (.int p3), .val (.int p4), .val (.ref b5), .val (.ref b10), .val (.ref x), .val (.int (p4 &&& (3 : Int32))), .val (.int (1 : Int32)), .val .null, .val .null, .val (.int (((p1.toUInt32 >>> ((2 : Int32) &&& 31).toUInt32).toInt32) &&& (3 : Int32))), .val (.ref w_CONTAINMENT)] [(.ref w_CONTAINMENT), (.ref x), (.ref b13), (.ref b13)])) t
                refine XS.iconst X13.here hx rfl (hb hby at_170) ?_
                show Steps p.tables e below (T13.setTop (mkF m 171 #[.val (.int p1), .val (.int p2), .val (.int p3), .val (.int p4), .val (.ref b5), .val (.ref b10), .val (.ref x), .val (.int (p4 &&& (3 : Int32))), .val (.int (1 : Int32)), .val .null, .val .null, .val (.int (((p1.toUInt32 >>> ((2 : Int32) &&& 31).toUInt32).toInt32) &&& (3 : Int32))), .val (.ref w_CONTAINMENT)] [(.int (0 : Int32)), (.ref w_CONTAINMENT), (.ref x), (.ref b13), (.ref b13)])) t
                exact kk
              · rw [if_neg hd14] at kk
                refine XS.ifNo X13.here hx rfl (hb hby at_163) rfl ((if0 _ _).trans (feq hd14).1) ?_
                show Steps p.tables e below (T13.setTop (mkF m 166 #[.val (.int p1), .val (.int p2), .val (.int p3), .val (.int p4), .val (.ref b5), .val (.ref b10), .val (.ref x), .val (.int (p4 &&& (3 : Int32))), .val (.int (1 : Int32)), .val .null, .val .null, .val (.int (((p1.toUInt32 >>> ((2 : Int32) &&& 31).toUInt32).toInt32) &&& (3 : Int32))), .val (.ref w_CONTAINMENT)] [(.ref w_CONTAINMENT), (.ref x), (.ref b13), (.ref b13)])) t
                refine XS.iconst X13.here hx rfl (hb hby at_166) ?_
                show Steps p.tables e below (T13.setTop (mkF m 167 #[.val (.int p1), .val (.int p2), .val (.int p3), .val (.int p4), .val (.ref b5), .val (.ref b10), .val (.ref x), .val (.int (p4 &&& (3 : Int32))), .val (.int (1 : Int32)), .val .null, .val .null, .val (.int (((p1.toUInt32 >>> ((2 : Int32) &&& 31).toUInt32).toInt32) &&& (3 : Int32))), .val (.ref w_CONTAINMENT)] [(.int (1 : Int32)), (.ref w_CONTAINMENT), (.ref x), (.ref b13), (.ref b13)])) t
                refine XS.goto X13.here hx rfl (pc0 := 167) (pc' := 171) rfl (hb hby at_167) (by decide) (by decide) ?_
                show Steps p.tables e below (T13.setTop (mkF m 171 #[.val (.int p1), .val (.int p2), .val (.int p3), .val (.int p4), .val (.ref b5), .val (.ref b10), .val (.ref x), .val (.int (p4 &&& (3 : Int32))), .val (.int (1 : Int32)), .val .null, .val .null, .val (.int (((p1.toUInt32 >>> ((2 : Int32) &&& 31).toUInt32).toInt32) &&& (3 : Int32))), .val (.ref w_CONTAINMENT)] [(.int (1 : Int32)), (.ref w_CONTAINMENT), (.ref x), (.ref b13), (.ref b13)])) t
                exact kk
            refine Go.st dia14 ?_
            show Go p e below _ (T13.setTop (mkF m 171 #[.val (.int p1), .val (.int p2), .val (.int p3), .val (.int p4), .val (.ref b5), .val (.ref b10), .val (.ref x), .val (.int (p4 &&& (3 : Int32))), .val (.int (1 : Int32)), .val .null, .val .null, .val (.int (((p1.toUInt32 >>> ((2 : Int32) &&& 31).toUInt32).toInt32) &&& (3 : Int32))), .val (.ref w_CONTAINMENT)] [(.int (if (p1 &&& (16 : Int32)) = (0 : Int32) then (0 : Int32) else (1 : Int32))), (.ref w_CONTAINMENT), (.ref x), (.ref b13), (.ref b13)]))
            have hk := (Nat.le_trans hk E13.1)
            obtain ⟨_, _, ⟨T15, L15, k15, n15⟩, -, X15, hS15, hG15, ⟨Lc15, hQ15, l15, y15, z15⟩, st15⟩ := X13.specialBackS hx (y := (⟨"com/example/mergewell/mergewell/core/Feature", "<init>", "(Ljava/lang/String;Lcom/example/mergewell/mergewell/core/Feature$Kind;Z)V"⟩ : MethodName)) rfl hown (mvT hZ (hw _ (List.mem_of_getElem? (i := 33) rfl))) (mvT hZ (hw _ (List.mem_of_getElem? (i := 34) rfl))) (mvT hZ (hw _ (List.mem_of_getElem? (i := 35) rfl))) (by decide) (backOfS (W := 1) (rm6_o l Z a0 hw [] b13 x w_CONTAINMENT (if (p1 &&& (16 : Int32)) = (0 : Int32) then (0 : Int32) else (1 : Int32)) .null .null (.int (0 : Int32)) (.int (0 : Int32)) .null h13 n0 (Nat.le_trans Z0 K13.1) E_b13 F_name_b13 g_b13 F_kind_b13 F_many_b13 F_ordered_b13 F_singleOpposite_b13) hZ (hw _ (List.mem_of_getElem? (i := 35) rfl)) (hw _ (List.mem_of_getElem? (i := 32) rfl)) (by decide) (by decide)) (g := (mkF m 171 #[.val (.int p1), .val (.int p2), .val (.int p3), .val (.int p4), .val (.ref b5), .val (.ref b10), .val (.ref x), .val (.int (p4 &&& (3 : Int32))), .val (.int (1 : Int32)), .val .null, .val .null, .val (.int (((p1.toUInt32 >>> ((2 : Int32) &&& 31).toUInt32).toInt32) &&& (3 : Int32))), .val (.ref w_CONTAINMENT)] [(.int (if (p1 &&& (16 : Int32)) = (0 : Int32) then (0 : Int32) else (1 : Int32))), (.ref w_CONTAINMENT), (.ref x), (.ref b13), (.ref b13)])) rfl (by rw [hml]; rfl) (Steps.refl _) (a := b13) (argsL := [(.ref x), (.ref w_CONTAINMENT), (.int (if (p1 &&& (16 : Int32)) = (0 : Int32) then (0 : Int32) else (1 : Int32)))]) (rest := [(.ref b13)]) (lenOf pd_11 rfl) rfl (by show 2 * 0 + _ ≤ _; exact Nat.le_of_eq rfl) (hb hby at_171) (fun _ _ => ⟨rfl, e13, (by decide : 13 + 4 ≤ _), (by decide : 65 + 40 ≤ _)⟩)
            dsimp only [Pt.U, Pt.locs, Pt.cells, Pt.slots] at X15 l15 y15 z15 st15 hQ15 hS15 hG15
            subst l15 y15 z15
            obtain ⟨X15, hS, hZ, hown⟩ := rebS hS (by rw [e13]; exact hk) X15 hS15 hG15 hZ hown
            have hk := Nat.le_refl T15.heap.size
            obtain ⟨rfl, N15q, Kc15, P15_0⟩ := hQ15
            have K15 : Keep h0 T15.heap [] := K13.trans Kc15 (allS (Or.inr sz_b13) all0)
            have N15 := Fr.app N N15q
            refine Go.tr st15 ?_
            show Go p e below _ (T15.setTop (mkF m 174 #[.val (.int p1), .val (.int p2), .val (.int p3), .val (.int p4), .val (.ref b5), .val (.ref b10), .val (.ref x), .val (.int (p4 &&& (3 : Int32))), .val (.int (1 : Int32)), .val .null, .val .null, .val (.int (((p1.toUInt32 >>> ((2 : Int32) &&& 31).toUInt32).toInt32) &&& (3 : Int32))), .val (.ref w_CONTAINMENT)] [(.ref b13)]))
            refine Go.st (fun _ kk => XS.astore X15.here hx rfl (hb hby at_174) rfl rfl (l' := #[.val (.int p1), .val (.int p2), .val (.int p3), .val (.int p4), .val (.ref b5), .val (.ref b10), .val (.ref x), .val (.int (p4 &&& (3 : Int32))), .val (.int (1 : Int32)), .val .null, .val (.ref b13), .val (.int (((p1.toUInt32 >>> ((2 : Int32) &&& 31).toUInt32).toInt32) &&& (3 : Int32))), .val (.ref w_CONTAINMENT)]) rfl kk) ?_
            show Go p e below _ (T15.setTop (mkF m 176 #[.val (.int p1), .val (.int p2), .val (.int p3), .val (.int p4), .val (.ref b5), .val (.ref b10), .val (.ref x), .val (.int (p4 &&& (3 : Int32))), .val (.int (1 : Int32)), .val .null, .val (.ref b13), .val (.int (((p1.toUInt32 >>> ((2 : Int32) &&& 31).toUInt32).toInt32) &&& (3 : Int32))), .val (.ref w_CONTAINMENT)] []))
            obtain ⟨T16, h16, X16, e16, E16, A16, D16, -, st16⟩ := newO X15 hx hZ hown (hw _ (List.mem_of_getElem? (i := 66) rfl)) (hw _ (List.mem_of_getElem? (i := 67) rfl)) (hw _ (List.mem_of_getElem? (i := 68) rfl)) rfl (g := (mkF m 176 #[.val (.int p1), .val (.int p2), .val (.int p3), .val (.int p4), .val (.ref b5), .val (.ref b10), .val (.ref x), .val (.int (p4 &&& (3 : Int32))), .val (.int (1 : Int32)), .val .null, .val (.ref b13), .val (.int (((p1.toUInt32 >>> ((2 : Int32) &&& 31).toUInt32).toInt32) &&& (3 : Int32))), .val (.ref w_CONTAINMENT)] [])) rfl (hb hby at_176) (by decide) (by decide)
            obtain ⟨b16, g16⟩ : ∃ z, z = T15.heap.size := ⟨_, rfl⟩
            rw [← g16] at A16 D16 st16
            refine Go.st st16 ?_
            have g_b16 : n0 ≤ b16 := Nat.le_trans (Nat.le_trans Z0 K15.1) (Nat.le_of_eq g16.symm)
            have sz_b16 : h0.size ≤ b16 := Nat.le_trans K15.1 (Nat.le_of_eq g16.symm)
            have lt_b13_b16 : b13 < b16 := Nat.lt_of_lt_of_le P15_0.lt (Nat.le_of_eq g16.symm)
            have K16 : Keep h0 h16 [] := K15.ext E16
            have E_b16 : Exa Z h16 b16 "com/example/mergewell/mergewell/core/Slot" := A16
            have F_owner_b16 : Fld Z h16 b16 "com/example/mergewell/mergewell/core/Slot" "owner" "Ljava/lang/String;" .null := D16 (Or.inr (hw _ (List.mem_of_getElem? (i := 74) rfl))) (ty := (.object "java/lang/String")) (by decide)
            have F_feature_b16 : Fld Z h16 b16 "com/example/mergewell/mergewell/core/Slot" "feature" "Lcom/example/mergewell/mergewell/core/Feature;" .null := D16 (Or.inr (hw _ (List.mem_of_getElem? (i := 76) rfl))) (ty := (.object "com/example/mergewell/mergewell/core/Feature")) (by decide)
            show Go p e below _ (T16.setTop (mkF m 179 #[.val (.int p1), .val (.int p2), .val (.int p3), .val (.int p4), .val (.ref b5), .val (.ref b10), .val (.ref x), .val (.int (p4 &&& (3 : Int32))), .val (.int (1 : Int32)), .val .null, .val (.ref b13), .val (.int (((p1.toUInt32 >>> ((2 : Int32) &&& 31).toUInt32).toInt32) &&& (3 : Int32))), .val (.ref w_CONTAINMENT)] [(.ref b16)]))
            refine Go.st (fun _ kk => XS.dup X16.here hx rfl (hb hby at_179) rfl rfl kk) ?_
            show Go p e below _ (T16.setTop (mkF m 180 #[.val (.int p1), .val (.int p2), .val (.int p3), .val (.int p4), .val (.ref b5), .val (.ref b10), .val (.ref x), .val (.int (p4 &&& (3 : Int32))), .val (.int (1 : Int32)), .val .null, .val (.ref b13), .val (.int (((p1.toUInt32 >>> ((2 : Int32) &&& 31).toUInt32).toInt32) &&& (3 : Int32))), .val (.ref w_CONTAINMENT)] [(.ref b16), (.ref b16)]))
            refine Go.st (fun _ kk => XS.aload X16.here hx rfl (hb hby at_180) rfl rfl  kk) ?_
            show Go p e below _ (T16.setTop (mkF m 182 #[.val (.int p1), .val (.int p2), .val (.int p3), .val (.int p4), .val (.ref b5), .val (.ref b10), .val (.ref x), .val (.int (p4 &&& (3 : Int32))), .val (.int (1 : Int32)), .val .null, .val (.ref b13), .val (.int (((p1.toUInt32 >>> ((2 : Int32) &&& 31).toUInt32).toInt32) &&& (3 : Int32))), .val (.ref w_CONTAINMENT)] [.null, (.ref b16), (.ref b16)]))
            refine Go.st (fun _ kk => XS.aload X16.here hx rfl (hb hby at_182) rfl rfl  kk) ?_
            show Go p e below _ (T16.setTop (mkF m 184 #[.val (.int p1), .val (.int p2), .val (.int p3), .val (.int p4), .val (.ref b5), .val (.ref b10), .val (.ref x), .val (.int (p4 &&& (3 : Int32))), .val (.int (1 : Int32)), .val .null, .val (.ref b13), .val (.int (((p1.toUInt32 >>> ((2 : Int32) &&& 31).toUInt32).toInt32) &&& (3 : Int32))), .val (.ref w_CONTAINMENT)] [(.ref b13), .null, (.ref b16), (.ref b16)]))
            obtain ⟨_, _, ⟨T17, L17, k17, n17⟩, -, X17, ⟨Lc17, hQ17, l17, y17, z17⟩, st17⟩ := X16.specialBack hx (y := (⟨"com/example/mergewell/mergewell/core/Slot", "<init>", "(Ljava/lang/String;Lcom/example/mergewell/mergewell/core/Feature;)V"⟩ : MethodName)) rfl hown (mvT hZ (hw _ (List.mem_of_getElem? (i := 69) rfl))) (mvT hZ (hw _ (List.mem_of_getElem? (i := 70) rfl))) (mvT hZ (hw _ (List.mem_of_getElem? (i := 71) rfl))) (by decide) (backOf (W := 1) (rm11ab_o l Z a0 hw [] b16 b13 .null .null h16 n0 (Nat.le_trans Z0 K16.1) E_b16 F_owner_b16 g_b16 F_feature_b16) hZ (hw _ (List.mem_of_getElem? (i := 71) rfl)) (hw _ (List.mem_of_getElem? (i := 68) rfl)) (by decide) (by decide)) (g := (mkF m 184 #[.val (.int p1), .val (.int p2), .val (.int p3), .val (.int p4), .val (.ref b5), .val (.ref b10), .val (.ref x), .val (.int (p4 &&& (3 : Int32))), .val (.int (1 : Int32)), .val .null, .val (.ref b13), .val (.int (((p1.toUInt32 >>> ((2 : Int32) &&& 31).toUInt32).toInt32) &&& (3 : Int32))), .val (.ref w_CONTAINMENT)] [(.ref b13), .null, (.ref b16), (.ref b16)])) rfl (by rw [hml]; rfl) (Steps.refl _) (a := b16) (argsL := [.null, (.ref b13)]) (rest := [(.ref b16)]) (lenOf pd_12 rfl) rfl (by show 2 * 0 + _ ≤ _; exact Nat.le_of_eq rfl) (hb hby at_184) (fun _ _ => ⟨rfl, e16, (by decide : 18 + 0 ≤ _), (by decide : 107 + 0 ≤ _)⟩)
            dsimp only [Pt.U, Pt.locs, Pt.cells, Pt.slots] at X17 l17 y17 z17 st17 hQ17
            subst l17 y17 z17
            obtain ⟨rfl, N17q, Kc17, P17_0, P17_1⟩ := hQ17
            have K17 : Keep h0 T17.heap [] := K16.trans Kc17 (allS (Or.inr sz_b16) all0)
            have N17 := Fr.app N15 N17q
            refine Go.tr st17 ?_
            show Go p e below _ (T17.setTop (mkF m 187 #[.val (.int p1), .val (.int p2), .val (.int p3), .val (.int p4), .val (.ref b5), .val (.ref b10), .val (.ref x), .val (.int (p4 &&& (3 : Int32))), .val (.int (1 : Int32)), .val .null, .val (.ref b13), .val (.int (((p1.toUInt32 >>> ((2 : Int32) &&& 31).toUInt32).toInt32) &&& (3 : Int32))), .val (.ref w_CONTAINMENT)] [(.ref b16)]))
            refine Go.st (fun _ kk => XS.astore X17.here hx rfl (hb hby at_187) rfl rfl (l' := #[.val (.int p1), .val (.int p2), .val (.int p3), .val (.int p4), .val (.ref b5), .val (.ref b10), .val (.ref x), .val (.int (p4 &&& (3 : Int32))), .val (.int (1 : Int32)), .val .null, .val (.ref b13), .val (.ref b16), .val (.ref w_CONTAINMENT)]) rfl kk) ?_
            show Go p e below _ (T17.setTop (mkF m 189 #[.val (.int p1), .val (.int p2), .val (.int p3), .val (.int p4), .val (.ref b5), .val (.ref b10), .val (.ref x), .val (.int (p4 &&& (3 : Int32))), .val (.int (1 : Int32)), .val .null, .val (.ref b13), .val (.ref b16), .val (.ref w_CONTAINMENT)] []))
            refine Go.st (fun _ kk => XS.aload X17.here hx rfl (hb hby at_189) rfl rfl  kk) ?_
            show Go p e below _ (T17.setTop (mkF m 191 #[.val (.int p1), .val (.int p2), .val (.int p3), .val (.int p4), .val (.ref b5), .val (.ref b10), .val (.ref x), .val (.int (p4 &&& (3 : Int32))), .val (.int (1 : Int32)), .val .null, .val (.ref b13), .val (.ref b16), .val (.ref w_CONTAINMENT)] [(.ref b16)]))
            obtain ⟨cq18, kq18, q18a, q18b, q18c⟩ := isOf hZ rfl P17_0
            obtain ⟨_, _, ⟨T18, L18, k18, n18⟩, -, X18, ⟨Lc18, hQ18, l18, y18, z18⟩, st18⟩ := X17.virtualBack hx (y := (⟨"com/example/mergewell/mergewell/core/Slot", "isRoot", "()Z"⟩ : MethodName)) (z := (⟨"com/example/mergewell/mergewell/core/Slot", "isRoot", "()Z"⟩ : MethodName)) hown (mvT hZ (hw _ (List.mem_of_getElem? (i := 77) rfl))) (mvT hZ (hw _ (List.mem_of_getElem? (i := 78) rfl))) (notFace_of_selects (args := #[]) (mvT hZ (hw _ (List.mem_of_getElem? (i := 80) rfl)))) (mvT hZ (hw _ (List.mem_of_getElem? (i := 80) rfl))) (mvT hZ (hw _ (List.mem_of_getElem? (i := 79) rfl))) (by decide) (backOf (W := 0) (rm12n_o l Z a0 hw [] b16 T17.heap n0 (Nat.le_trans Z0 K17.1) P17_1) hZ (hw _ (List.mem_of_getElem? (i := 81) rfl)) (hw _ (List.mem_of_getElem? (i := 68) rfl)) (by decide) (by decide)) q18a q18c (g := (mkF m 191 #[.val (.int p1), .val (.int p2), .val (.int p3), .val (.int p4), .val (.ref b5), .val (.ref b10), .val (.ref x), .val (.int (p4 &&& (3 : Int32))), .val (.int (1 : Int32)), .val .null, .val (.ref b13), .val (.ref b16), .val (.ref w_CONTAINMENT)] [(.ref b16)])) rfl (by rw [hml]; rfl) (Steps.refl _) (argsL := []) (rest := []) (lenOf pd_13 rfl) rfl (by show 2 * 0 + _ ≤ _; exact Nat.le_of_eq rfl) (hb hby at_191) (fun _ _ => ⟨rfl, rfl, (by decide : 18 + 0 ≤ _), (by decide : 107 + 0 ≤ _)⟩)
            dsimp only [Pt.U, Pt.locs, Pt.cells, Pt.slots] at X18 l18 y18 z18 st18 hQ18
            subst l18 y18 z18
            obtain ⟨rfl, N18q, eq18⟩ := hQ18
            have N18 := Fr.app N17 N18q
            refine Go.tr st18 ?_
            show Go p e below _ (T18.setTop (mkF m 194 #[.val (.int p1), .val (.int p2), .val (.int p3), .val (.int p4), .val (.ref b5), .val (.ref b10), .val (.ref x), .val (.int (p4 &&& (3 : Int32))), .val (.int (1 : Int32)), .val .null, .val (.ref b13), .val (.ref b16), .val (.ref w_CONTAINMENT)] [(.int (1 : Int32))]))
            refine Go.st (fun _ kk => XS.iload X18.here hx rfl (hb hby at_194) rfl  kk) ?_
            show Go p e below _ (T18.setTop (mkF m 196 #[.val (.int p1), .val (.int p2), .val (.int p3), .val (.int p4), .val (.ref b5), .val (.ref b10), .val (.ref x), .val (.int (p4 &&& (3 : Int32))), .val (.int (1 : Int32)), .val .null, .val (.ref b13), .val (.ref b16), .val (.ref w_CONTAINMENT)] [(.int (1 : Int32)), (.int (1 : Int32))]))
            refine Go.st (fun _ kk => XS.icmpNo X18.here hx rfl (hb hby at_196) rfl (teq (by decide : ((1 : Int32) = (1 : Int32)))).2 kk) ?_
            show Go p e below _ (T18.setTop (mkF m 199 #[.val (.int p1), .val (.int p2), .val (.int p3), .val (.int p4), .val (.ref b5), .val (.ref b10), .val (.ref x), .val (.int (p4 &&& (3 : Int32))), .val (.int (1 : Int32)), .val .null, .val (.ref b13), .val (.ref b16), .val (.ref w_CONTAINMENT)] []))
            have f_19 := (staKeep0 S_ROOT K17)
            obtain ⟨T20, X20, e20, st20⟩ := getS2 X18 hx hZ hown (host := "") (Or.inl (hw _ (List.mem_of_getElem? (i := 82) rfl))) Via.refl eq18 f_19 (g := (mkF m 199 #[.val (.int p1), .val (.int p2), .val (.int p3), .val (.int p4), .val (.ref b5), .val (.ref b10), .val (.ref x), .val (.int (p4 &&& (3 : Int32))), .val (.int (1 : Int32)), .val .null, .val (.ref b13), .val (.ref b16), .val (.ref w_CONTAINMENT)] [])) rfl (hb hby at_199)
            refine Go.st st20 ?_
            show Go p e below _ (T20.setTop (mkF m 202 #[.val (.int p1), .val (.int p2), .val (.int p3), .val (.int p4), .val (.ref b5), .val (.ref b10), .val (.ref x), .val (.int (p4 &&& (3 : Int32))), .val (.int (1 : Int32)), .val .null, .val (.ref b13), .val (.ref b16), .val (.ref w_CONTAINMENT)] [(.ref w_ROOT)]))
            have f_21 := (E_w_ROOT.keep K17)
            have f_22 := (F_owner_w_ROOT.keep K17 nin0)
            obtain ⟨cq23, kq23, q23a, q23b, q23c⟩ := isOf hZ e20 f_21
            obtain ⟨_, _, ⟨T23, L23, k23, n23⟩, -, X23, ⟨Lc23, hQ23, l23, y23, z23⟩, st23⟩ := X20.virtualBack hx (y := (⟨"com/example/mergewell/mergewell/core/Slot", "isRoot", "()Z"⟩ : MethodName)) (z := (⟨"com/example/mergewell/mergewell/core/Slot", "isRoot", "()Z"⟩ : MethodName)) hown (mvT hZ (hw _ (List.mem_of_getElem? (i := 77) rfl))) (mvT hZ (hw _ (List.mem_of_getElem? (i := 78) rfl))) (notFace_of_selects (args := #[]) (mvT hZ (hw _ (List.mem_of_getElem? (i := 80) rfl)))) (mvT hZ (hw _ (List.mem_of_getElem? (i := 80) rfl))) (mvT hZ (hw _ (List.mem_of_getElem? (i := 79) rfl))) (by decide) (backOf (W := 0) (rm12n_o l Z a0 hw [] w_ROOT T17.heap n0 (Nat.le_trans Z0 K17.1) f_22) hZ (hw _ (List.mem_of_getElem? (i := 81) rfl)) (hw _ (List.mem_of_getElem? (i := 68) rfl)) (by decide) (by decide)) q23a q23c (g := (mkF m 202 #[.val (.int p1), .val (.int p2), .val (.int p3), .val (.int p4), .val (.ref b5), .val (.ref b10), .val (.ref x), .val (.int (p4 &&& (3 : Int32))), .val (.int (1 : Int32)), .val .null, .val (.ref b13), .val (.ref b16), .val (.ref w_CONTAINMENT)] [(.ref w_ROOT)])) rfl (by rw [hml]; rfl) (Steps.refl _) (argsL := []) (rest := []) (lenOf pd_13 rfl) rfl (by show 2 * 0 + _ ≤ _; exact Nat.le_of_eq rfl) (hb hby at_202) (fun _ _ => ⟨rfl, e20, (by decide : 18 + 0 ≤ _), (by decide : 107 + 0 ≤ _)⟩)
            dsimp only [Pt.U, Pt.locs, Pt.cells, Pt.slots] at X23 l23 y23 z23 st23 hQ23
            subst l23 y23 z23
            obtain ⟨rfl, N23q, eq23⟩ := hQ23
            have N23 := Fr.app N18 N23q
            refine Go.tr st23 ?_
            show Go p e below _ (T23.setTop (mkF m 205 #[.val (.int p1), .val (.int p2), .val (.int p3), .val (.int p4), .val (.ref b5), .val (.ref b10), .val (.ref x), .val (.int (p4 &&& (3 : Int32))), .val (.int (1 : Int32)), .val .null, .val (.ref b13), .val (.ref b16), .val (.ref w_CONTAINMENT)] [(.int (1 : Int32))]))
            refine Go.st (fun _ kk => XS.ifNo X23.here hx rfl (hb hby at_205) rfl ((if0 _ _).trans (feq (by decide : ¬ ((1 : Int32) = (0 : Int32)))).1) kk) ?_
            show Go p e below _ (T23.setTop (mkF m 208 #[.val (.int p1), .val (.int p2), .val (.int p3), .val (.int p4), .val (.ref b5), .val (.ref b10), .val (.ref x), .val (.int (p4 &&& (3 : Int32))), .val (.int (1 : Int32)), .val .null, .val (.ref b13), .val (.ref b16), .val (.ref w_CONTAINMENT)] []))
            refine Go.st (fun _ kk => XS.iconst X23.here hx rfl (hb hby at_208) kk) ?_
            show Go p e below _ (T23.setTop (mkF m 209 #[.val (.int p1), .val (.int p2), .val (.int p3), .val (.int p4), .val (.ref b5), .val (.ref b10), .val (.ref x), .val (.int (p4 &&& (3 : Int32))), .val (.int (1 : Int32)), .val .null, .val (.ref b13), .val (.ref b16), .val (.ref w_CONTAINMENT)] [(.int (1 : Int32))]))
            refine Go.st (fun _ kk => XS.goto X23.here hx rfl (pc0 := 209) (pc' := 213) rfl (hb hby at_209) (by decide) (by decide) kk) ?_
            show Go p e below _ (T23.setTop (mkF m 213 #[.val (.int p1), .val (.int p2), .val (.int p3), .val (.int p4), .val (.ref b5), .val (.ref b10), .val (.ref x), .val (.int (p4 &&& (3 : Int32))), .val (.int (1 : Int32)), .val .null, .val (.ref b13), .val (.ref b16), .val (.ref w_CONTAINMENT)] [(.int (1 : Int32))]))
            have hk := (Nat.le_trans (Nat.le_trans hk E16.1) Kc17.1)
            exact Go.retW (Q := Q0 n0) hS (hk) X23 (v := some (.int (1 : Int32))) (fun h => by rw [Bd.returns] at h; cases h) Bd.notSynchronized (fun fs hr => retN X23 hx (t := .boolean) Bd.returns (by simp) (hb hby at_213) hr) eq23 ⟨rfl, N23⟩ (by decide) (by decide)
      · skip
        refine Go.st (fun _ kk => XS.ifYes X.here hx rfl (pc0 := 113) (pc' := 176) rfl (hb hby at_113) rfl ((if0 _ _).trans (feq hc_5).2) (by decide) (by decide) kk) ?_
        show Go p e below _ (T.setTop (mkF m 176 #[.val (.int p1), .val (.int p2), .val (.int p3), .val (.int p4), .val (.ref b5), .val (.ref b10), .val (.ref x), .val (.int (p4 &&& (3 : Int32))), .val (.int (1 : Int32)), .val .null, .val .null, .unset, .unset] []))
        obtain ⟨T11, h11, X11, e11, E11, A11, D11, -, st11⟩ := newO X hx hZ hown (hw _ (List.mem_of_getElem? (i := 66) rfl)) (hw _ (List.mem_of_getElem? (i := 67) rfl)) (hw _ (List.mem_of_getElem? (i := 68) rfl)) eT (g := (mkF m 176 #[.val (.int p1), .val (.int p2), .val (.int p3), .val (.int p4), .val (.ref b5), .val (.ref b10), .val (.ref x), .val (.int (p4 &&& (3 : Int32))), .val (.int (1 : Int32)), .val .null, .val .null, .unset, .unset] [])) rfl (hb hby at_176) (by decide) (by decide)
        obtain ⟨b11, g11⟩ : ∃ z, z = h.size := ⟨_, rfl⟩
        rw [← g11] at A11 D11 st11
        refine Go.st st11 ?_
        have g_b11 : n0 ≤ b11 := Nat.le_trans (Nat.le_trans Z0 K.1) (Nat.le_of_eq g11.symm)
        have sz_b11 : h0.size ≤ b11 := Nat.le_trans K.1 (Nat.le_of_eq g11.symm)
        have K11 : Keep h0 h11 [] := K.ext E11
        have E_b11 : Exa Z h11 b11 "com/example/mergewell/mergewell/core/Slot" := A11
        have F_owner_b11 : Fld Z h11 b11 "com/example/mergewell/mergewell/core/Slot" "owner" "Ljava/lang/String;" .null := D11 (Or.inr (hw _ (List.mem_of_getElem? (i := 74) rfl))) (ty := (.object "java/lang/String")) (by decide)
        have F_feature_b11 : Fld Z h11 b11 "com/example/mergewell/mergewell/core/Slot" "feature" "Lcom/example/mergewell/mergewell/core/Feature;" .null := D11 (Or.inr (hw _ (List.mem_of_getElem? (i := 76) rfl))) (ty := (.object "com/example/mergewell/mergewell/core/Feature")) (by decide)
        show Go p e below _ (T11.setTop (mkF m 179 #[.val (.int p1), .val (.int p2), .val (.int p3), .val (.int p4), .val (.ref b5), .val (.ref b10), .val (.ref x), .val (.int (p4 &&& (3 : Int32))), .val (.int (1 : Int32)), .val .null, .val .null, .unset, .unset] [(.ref b11)]))
        refine Go.st (fun _ kk => XS.dup X11.here hx rfl (hb hby at_179) rfl rfl kk) ?_
        show Go p e below _ (T11.setTop (mkF m 180 #[.val (.int p1), .val (.int p2), .val (.int p3), .val (.int p4), .val (.ref b5), .val (.ref b10), .val (.ref x), .val (.int (p4 &&& (3 : Int32))), .val (.int (1 : Int32)), .val .null, .val .null, .unset, .unset] [(.ref b11), (.ref b11)]))
        refine Go.st (fun _ kk => XS.aload X11.here hx rfl (hb hby at_180) rfl rfl  kk) ?_
        show Go p e below _ (T11.setTop (mkF m 182 #[.val (.int p1), .val (.int p2), .val (.int p3), .val (.int p4), .val (.ref b5), .val (.ref b10), .val (.ref x), .val (.int (p4 &&& (3 : Int32))), .val (.int (1 : Int32)), .val .null, .val .null, .unset, .unset] [.null, (.ref b11), (.ref b11)]))
        refine Go.st (fun _ kk => XS.aload X11.here hx rfl (hb hby at_182) rfl rfl  kk) ?_
        show Go p e below _ (T11.setTop (mkF m 184 #[.val (.int p1), .val (.int p2), .val (.int p3), .val (.int p4), .val (.ref b5), .val (.ref b10), .val (.ref x), .val (.int (p4 &&& (3 : Int32))), .val (.int (1 : Int32)), .val .null, .val .null, .unset, .unset] [.null, .null, (.ref b11), (.ref b11)]))
        obtain ⟨_, _, ⟨T12, L12, k12, n12⟩, -, X12, ⟨Lc12, hQ12, l12, y12, z12⟩, st12⟩ := X11.specialBack hx (y := (⟨"com/example/mergewell/mergewell/core/Slot", "<init>", "(Ljava/lang/String;Lcom/example/mergewell/mergewell/core/Feature;)V"⟩ : MethodName)) rfl hown (mvT hZ (hw _ (List.mem_of_getElem? (i := 69) rfl))) (mvT hZ (hw _ (List.mem_of_getElem? (i := 70) rfl))) (mvT hZ (hw _ (List.mem_of_getElem? (i := 71) rfl))) (by decide) (backOf (W := 1) (rm11aa_o l Z a0 hw [] b11 .null .null h11 n0 (Nat.le_trans Z0 K11.1) E_b11 F_owner_b11 g_b11 F_feature_b11) hZ (hw _ (List.mem_of_getElem? (i := 71) rfl)) (hw _ (List.mem_of_getElem? (i := 68) rfl)) (by decide) (by decide)) (g := (mkF m 184 #[.val (.int p1), .val (.int p2), .val (.int p3), .val (.int p4), .val (.ref b5), .val (.ref b10), .val (.ref x), .val (.int (p4 &&& (3 : Int32))), .val (.int (1 : Int32)), .val .null, .val .null, .unset, .unset] [.null, .null, (.ref b11), (.ref b11)])) rfl (by rw [hml]; rfl) (Steps.refl _) (a := b11) (argsL := [.null, .null]) (rest := [(.ref b11)]) (lenOf pd_12 rfl) rfl (by show 2 * 0 + _ ≤ _; exact Nat.le_of_eq rfl) (hb hby at_184) (fun _ _ => ⟨rfl, e11, (by decide : 13 + 0 ≤ _), (by decide : 62 + 0 ≤ _)⟩)
        dsimp only [Pt.U, Pt.locs, Pt.cells, Pt.slots] at X12 l12 y12 z12 st12 hQ12
        subst l12 y12 z12
        obtain ⟨rfl, N12q, Kc12, P12_0, P12_1⟩ := hQ12
        have K12 : Keep h0 T12.heap [] := K11.trans Kc12 (allS (Or.inr sz_b11) all0)
        have N12 := Fr.app N N12q
        refine Go.tr st12 ?_
        show Go p e below _ (T12.setTop (mkF m 187 #[.val (.int p1), .val (.int p2), .val (.int p3), .val (.int p4), .val (.ref b5), .val (.ref b10), .val (.ref x), .val (.int (p4 &&& (3 : Int32))), .val (.int (1 : Int32)), .val .null, .val .null, .unset, .unset] [(.ref b11)]))
        refine Go.st (fun _ kk => XS.astore X12.here hx rfl (hb hby at_187) rfl rfl (l' := #[.val (.int p1), .val (.int p2), .val (.int p3), .val (.int p4), .val (.ref b5), .val (.ref b10), .val (.ref x), .val (.int (p4 &&& (3 : Int32))), .val (.int (1 : Int32)), .val .null, .val .null, .val (.ref b11), .unset]) rfl kk) ?_
        show Go p e below _ (T12.setTop (mkF m 189 #[.val (.int p1), .val (.int p2), .val (.int p3), .val (.int p4), .val (.ref b5), .val (.ref b10), .val (.ref x), .val (.int (p4 &&& (3 : Int32))), .val (.int (1 : Int32)), .val .null, .val .null, .val (.ref b11), .unset] []))
        refine Go.st (fun _ kk => XS.aload X12.here hx rfl (hb hby at_189) rfl rfl  kk) ?_
        show Go p e below _ (T12.setTop (mkF m 191 #[.val (.int p1), .val (.int p2), .val (.int p3), .val (.int p4), .val (.ref b5), .val (.ref b10), .val (.ref x), .val (.int (p4 &&& (3 : Int32))), .val (.int (1 : Int32)), .val .null, .val .null, .val (.ref b11), .unset] [(.ref b11)]))
        obtain ⟨cq13, kq13, q13a, q13b, q13c⟩ := isOf hZ rfl P12_0
        obtain ⟨_, _, ⟨T13, L13, k13, n13⟩, -, X13, ⟨Lc13, hQ13, l13, y13, z13⟩, st13⟩ := X12.virtualBack hx (y := (⟨"com/example/mergewell/mergewell/core/Slot", "isRoot", "()Z"⟩ : MethodName)) (z := (⟨"com/example/mergewell/mergewell/core/Slot", "isRoot", "()Z"⟩ : MethodName)) hown (mvT hZ (hw _ (List.mem_of_getElem? (i := 77) rfl))) (mvT hZ (hw _ (List.mem_of_getElem? (i := 78) rfl))) (notFace_of_selects (args := #[]) (mvT hZ (hw _ (List.mem_of_getElem? (i := 80) rfl)))) (mvT hZ (hw _ (List.mem_of_getElem? (i := 80) rfl))) (mvT hZ (hw _ (List.mem_of_getElem? (i := 79) rfl))) (by decide) (backOf (W := 0) (rm12n_o l Z a0 hw [] b11 T12.heap n0 (Nat.le_trans Z0 K12.1) P12_1) hZ (hw _ (List.mem_of_getElem? (i := 81) rfl)) (hw _ (List.mem_of_getElem? (i := 68) rfl)) (by decide) (by decide)) q13a q13c (g := (mkF m 191 #[.val (.int p1), .val (.int p2), .val (.int p3), .val (.int p4), .val (.ref b5), .val (.ref b10), .val (.ref x), .val (.int (p4 &&& (3 : Int32))), .val (.int (1 : Int32)), .val .null, .val .null, .val (.ref b11), .unset] [(.ref b11)])) rfl (by rw [hml]; rfl) (Steps.refl _) (argsL := []) (rest := []) (lenOf pd_13 rfl) rfl (by show 2 * 0 + _ ≤ _; exact Nat.le_of_eq rfl) (hb hby at_191) (fun _ _ => ⟨rfl, rfl, (by decide : 13 + 0 ≤ _), (by decide : 62 + 0 ≤ _)⟩)
        dsimp only [Pt.U, Pt.locs, Pt.cells, Pt.slots] at X13 l13 y13 z13 st13 hQ13
        subst l13 y13 z13
        obtain ⟨rfl, N13q, eq13⟩ := hQ13
        have N13 := Fr.app N12 N13q
        refine Go.tr st13 ?_
        show Go p e below _ (T13.setTop (mkF m 194 #[.val (.int p1), .val (.int p2), .val (.int p3), .val (.int p4), .val (.ref b5), .val (.ref b10), .val (.ref x), .val (.int (p4 &&& (3 : Int32))), .val (.int (1 : Int32)), .val .null, .val .null, .val (.ref b11), .unset] [(.int (1 : Int32))]))
        refine Go.st (fun _ kk => XS.iload X13.here hx rfl (hb hby at_194) rfl  kk) ?_
        show Go p e below _ (T13.setTop (mkF m 196 #[.val (.int p1), .val (.int p2), .val (.int p3), .val (.int p4), .val (.ref b5), .val (.ref b10), .val (.ref x), .val (.int (p4 &&& (3 : Int32))), .val (.int (1 : Int32)), .val .null, .val .null, .val (.ref b11), .unset] [(.int (1 : Int32)), (.int (1 : Int32))]))
        refine Go.st (fun _ kk => XS.icmpNo X13.here hx rfl (hb hby at_196) rfl (teq (by decide : ((1 : Int32) = (1 : Int32)))).2 kk) ?_
        show Go p e below _ (T13.setTop (mkF m 199 #[.val (.int p1), .val (.int p2), .val (.int p3), .val (.int p4), .val (.ref b5), .val (.ref b10), .val (.ref x), .val (.int (p4 &&& (3 : Int32))), .val (.int (1 : Int32)), .val .null, .val .null, .val (.ref b11), .unset] []))
        have f_14 := (staKeep0 S_ROOT K12)
        obtain ⟨T15, X15, e15, st15⟩ := getS2 X13 hx hZ hown (host := "") (Or.inl (hw _ (List.mem_of_getElem? (i := 82) rfl))) Via.refl eq13 f_14 (g := (mkF m 199 #[.val (.int p1), .val (.int p2), .val (.int p3), .val (.int p4), .val (.ref b5), .val (.ref b10), .val (.ref x), .val (.int (p4 &&& (3 : Int32))), .val (.int (1 : Int32)), .val .null, .val .null, .val (.ref b11), .unset] [])) rfl (hb hby at_199)
        refine Go.st st15 ?_
        show Go p e below _ (T15.setTop (mkF m 202 #[.val (.int p1), .val (.int p2), .val (.int p3), .val (.int p4), .val (.ref b5), .val (.ref b10), .val (.ref x), .val (.int (p4 &&& (3 : Int32))), .val (.int (1 : Int32)), .val .null, .val .null, .val (.ref b11), .unset] [(.ref w_ROOT)]))
        have f_16 := (E_w_ROOT.keep K12)
        have f_17 := (F_owner_w_ROOT.keep K12 nin0)
        obtain ⟨cq18, kq18, q18a, q18b, q18c⟩ := isOf hZ e15 f_16
        obtain ⟨_, _, ⟨T18, L18, k18, n18⟩, -, X18, ⟨Lc18, hQ18, l18, y18, z18⟩, st18⟩ := X15.virtualBack hx (y := (⟨"com/example/mergewell/mergewell/core/Slot", "isRoot", "()Z"⟩ : MethodName)) (z := (⟨"com/example/mergewell/mergewell/core/Slot", "isRoot", "()Z"⟩ : MethodName)) hown (mvT hZ (hw _ (List.mem_of_getElem? (i := 77) rfl))) (mvT hZ (hw _ (List.mem_of_getElem? (i := 78) rfl))) (notFace_of_selects (args := #[]) (mvT hZ (hw _ (List.mem_of_getElem? (i := 80) rfl)))) (mvT hZ (hw _ (List.mem_of_getElem? (i := 80) rfl))) (mvT hZ (hw _ (List.mem_of_getElem? (i := 79) rfl))) (by decide) (backOf (W := 0) (rm12n_o l Z a0 hw [] w_ROOT T12.heap n0 (Nat.le_trans Z0 K12.1) f_17) hZ (hw _ (List.mem_of_getElem? (i := 81) rfl)) (hw _ (List.mem_of_getElem? (i := 68) rfl)) (by decide) (by decide)) q18a q18c (g := (mkF m 202 #[.val (.int p1), .val (.int p2), .val (.int p3), .val (.int p4), .val (.ref b5), .val (.ref b10), .val (.ref x), .val (.int (p4 &&& (3 : Int32))), .val (.int (1 : Int32)), .val .null, .val .null, .val (.ref b11), .unset] [(.ref w_ROOT)])) rfl (by rw [hml]; rfl) (Steps.refl _) (argsL := []) (rest := []) (lenOf pd_13 rfl) rfl (by show 2 * 0 + _ ≤ _; exact Nat.le_of_eq rfl) (hb hby at_202) (fun _ _ => ⟨rfl, e15, (by decide : 13 + 0 ≤ _), (by decide : 62 + 0 ≤ _)⟩)
        dsimp only [Pt.U, Pt.locs, Pt.cells, Pt.slots] at X18 l18 y18 z18 st18 hQ18
        subst l18 y18 z18
        obtain ⟨rfl, N18q, eq18⟩ := hQ18
        have N18 := Fr.app N13 N18q
        refine Go.tr st18 ?_
        show Go p e below _ (T18.setTop (mkF m 205 #[.val (.int p1), .val (.int p2), .val (.int p3), .val (.int p4), .val (.ref b5), .val (.ref b10), .val (.ref x), .val (.int (p4 &&& (3 : Int32))), .val (.int (1 : Int32)), .val .null, .val .null, .val (.ref b11), .unset] [(.int (1 : Int32))]))
        refine Go.st (fun _ kk => XS.ifNo X18.here hx rfl (hb hby at_205) rfl ((if0 _ _).trans (feq (by decide : ¬ ((1 : Int32) = (0 : Int32)))).1) kk) ?_
        show Go p e below _ (T18.setTop (mkF m 208 #[.val (.int p1), .val (.int p2), .val (.int p3), .val (.int p4), .val (.ref b5), .val (.ref b10), .val (.ref x), .val (.int (p4 &&& (3 : Int32))), .val (.int (1 : Int32)), .val .null, .val .null, .val (.ref b11), .unset] []))
        refine Go.st (fun _ kk => XS.iconst X18.here hx rfl (hb hby at_208) kk) ?_
        show Go p e below _ (T18.setTop (mkF m 209 #[.val (.int p1), .val (.int p2), .val (.int p3), .val (.int p4), .val (.ref b5), .val (.ref b10), .val (.ref x), .val (.int (p4 &&& (3 : Int32))), .val (.int (1 : Int32)), .val .null, .val .null, .val (.ref b11), .unset] [(.int (1 : Int32))]))
        refine Go.st (fun _ kk => XS.goto X18.here hx rfl (pc0 := 209) (pc' := 213) rfl (hb hby at_209) (by decide) (by decide) kk) ?_
        show Go p e below _ (T18.setTop (mkF m 213 #[.val (.int p1), .val (.int p2), .val (.int p3), .val (.int p4), .val (.ref b5), .val (.ref b10), .val (.ref x), .val (.int (p4 &&& (3 : Int32))), .val (.int (1 : Int32)), .val .null, .val .null, .val (.ref b11), .unset] [(.int (1 : Int32))]))
        have hk := (Nat.le_trans (Nat.le_trans hk E11.1) Kc12.1)
        exact Go.retW (Q := Q0 n0) hS (hk) X18 (v := some (.int (1 : Int32))) (fun h => by rw [Bd.returns] at h; cases h) Bd.notSynchronized (fun fs hr => retN X18 hx (t := .boolean) Bd.returns (by simp) (hb hby at_213) hr) eq18 ⟨rfl, N18⟩ (by decide) (by decide)
  refine Go.st (fun _ kk => XS.iload X10.here hx rfl (hb hby at_33) rfl  kk) ?_
  show Go p e below _ (T10.setTop (mkF m 35 #[.val (.int p1), .val (.int p2), .val (.int p3), .val (.int p4), .val (.ref b5), .val (.ref b10), .unset, .val (.int (p4 &&& (3 : Int32))), .unset, .unset, .unset, .unset, .unset] [(.int (p4 &&& (3 : Int32)))]))
  by_cases hc_8 : (p4 &&& (3 : Int32)) = (0 : Int32)
  · skip
    refine Go.st (fun _ kk => XS.ifNo X10.here hx rfl (hb hby at_35) rfl ((if0 _ _).trans (teq hc_8).2) kk) ?_
    show Go p e below _ (T10.setTop (mkF m 38 #[.val (.int p1), .val (.int p2), .val (.int p3), .val (.int p4), .val (.ref b5), .val (.ref b10), .unset, .val (.int (p4 &&& (3 : Int32))), .unset, .unset, .unset, .unset, .unset] []))
    obtain ⟨T19, h19, X19, e19, E19, A19, D19, -, st19⟩ := newO X10 hx hZ hown (hw _ (List.mem_of_getElem? (i := 84) rfl)) (hw _ (List.mem_of_getElem? (i := 11) rfl)) (hw _ (List.mem_of_getElem? (i := 3) rfl)) e10 (g := (mkF m 38 #[.val (.int p1), .val (.int p2), .val (.int p3), .val (.int p4), .val (.ref b5), .val (.ref b10), .unset, .val (.int (p4 &&& (3 : Int32))), .unset, .unset, .unset, .unset, .unset] [])) rfl (hb hby at_38) (by decide) (by decide)
    obtain ⟨b19, g19⟩ : ∃ z, z = h10.size := ⟨_, rfl⟩
    rw [← g19] at A19 D19 st19
    refine Go.st st19 ?_
    have g_b19 : n0 ≤ b19 := Nat.le_trans (Nat.le_trans Z0 K10.1) (Nat.le_of_eq g19.symm)
    have sz_b19 : h0.size ≤ b19 := Nat.le_trans K10.1 (Nat.le_of_eq g19.symm)
    have f_20 := (V9.ext E10)
    have lt_b5_b19 : b5 < b19 := Nat.lt_of_lt_of_le f_20.lt (Nat.le_of_eq g19.symm)
    have lt_b10_b19 : b10 < b19 := Nat.lt_of_lt_of_le V_b10.lt (Nat.le_of_eq g19.symm)
    have K19 : Keep h0 h19 [] := K10.ext E19
    have E_b19 : Exa Z h19 b19 "java/lang/String" := A19
    have F_value_b19 : Fld Z h19 b19 "java/lang/String" "value" "[B" .null := D19 (Or.inr (hw _ (List.mem_of_getElem? (i := 24) rfl))) (ty := (.array .byte)) (by decide)
    have F_coder_b19 : Fld Z h19 b19 "java/lang/String" "coder" "B" (.int (0 : Int32)) := D19 (Or.inr (hw _ (List.mem_of_getElem? (i := 26) rfl))) (ty := .byte) (by decide)
    show Go p e below _ (T19.setTop (mkF m 41 #[.val (.int p1), .val (.int p2), .val (.int p3), .val (.int p4), .val (.ref b5), .val (.ref b10), .unset, .val (.int (p4 &&& (3 : Int32))), .unset, .unset, .unset, .unset, .unset] [(.ref b19)]))
    refine Go.st (fun _ kk => XS.dup X19.here hx rfl (hb hby at_41) rfl rfl kk) ?_
    show Go p e below _ (T19.setTop (mkF m 42 #[.val (.int p1), .val (.int p2), .val (.int p3), .val (.int p4), .val (.ref b5), .val (.ref b10), .unset, .val (.int (p4 &&& (3 : Int32))), .unset, .unset, .unset, .unset, .unset] [(.ref b19), (.ref b19)]))
    refine Go.st (fun _ kk => XS.aload X19.here hx rfl (hb hby at_42) rfl rfl  kk) ?_
    show Go p e below _ (T19.setTop (mkF m 44 #[.val (.int p1), .val (.int p2), .val (.int p3), .val (.int p4), .val (.ref b5), .val (.ref b10), .unset, .val (.int (p4 &&& (3 : Int32))), .unset, .unset, .unset, .unset, .unset] [(.ref b10), (.ref b19), (.ref b19)]))
    have f_21 := (V_b10.ext E19)
    have hk := (Nat.le_trans (Nat.le_trans (Nat.le_trans (Nat.le_trans (Nat.le_trans hk E5.1) (Nat.le_of_eq (Wr.size W7).symm)) (Nat.le_of_eq (Wr.size W9).symm)) E10.1) E19.1)
    obtain ⟨_, _, ⟨T22, L22, k22, n22⟩, -, X22, hS22, hG22, ⟨Lc22, hQ22, l22, y22, z22⟩, st22⟩ := X19.specialBackS hx (y := (⟨"java/lang/String", "<init>", "([C)V"⟩ : MethodName)) rfl hown (mvT hZ (hw _ (List.mem_of_getElem? (i := 85) rfl))) (mvT hZ (hw _ (List.mem_of_getElem? (i := 86) rfl))) (mvT hZ (hw _ (List.mem_of_getElem? (i := 87) rfl))) (by decide) (backOfSC (W := 1) (rm13e_o l Z a0 hw [] b19 b10 (.int (0 : Int32)) .null h19 n0 (Nat.le_trans Z0 K19.1) E_b19 F_coder_b19 F_value_b19 g_b19 (Arv.arn f_21) (Nat.ne_of_lt lt_b10_b19)) hZ (hw _ (List.mem_of_getElem? (i := 87) rfl)) (hw _ (List.mem_of_getElem? (i := 3) rfl)) (by decide) (by decide) (own_EW hw) (CHv.keep K19 all0 hH)) (g := (mkF m 44 #[.val (.int p1), .val (.int p2), .val (.int p3), .val (.int p4), .val (.ref b5), .val (.ref b10), .unset, .val (.int (p4 &&& (3 : Int32))), .unset, .unset, .unset, .unset, .unset] [(.ref b10), (.ref b19), (.ref b19)])) rfl (by rw [hml]; rfl) (Steps.refl _) (a := b19) (argsL := [(.ref b10)]) (rest := [(.ref b19)]) (lenOf pd_14 rfl) rfl (by show 2 * 0 + _ ≤ _; exact Nat.le_of_eq rfl) (hb hby at_44) (fun _ _ => ⟨rfl, e19, (by decide : 3 + 2 ≤ _), (by decide : 6 + 4 ≤ _)⟩)
    dsimp only [Pt.U, Pt.locs, Pt.cells, Pt.slots] at X22 l22 y22 z22 st22 hQ22 hS22 hG22
    subst l22 y22 z22
    obtain ⟨X22, hS, hZ, hown⟩ := rebS hS (by rw [e19]; exact hk) X22 hS22 hG22 hZ hown
    have hk := Nat.le_refl T22.heap.size
    obtain ⟨rfl, N22q, Kc22, P22_0⟩ := hQ22
    have K22 : Keep h0 T22.heap [] := K19.trans Kc22 (allS (Or.inr sz_b19) all0)
    have N22 := Fr.app N9 N22q
    refine Go.tr st22 ?_
    show Go p e below _ (T22.setTop (mkF m 47 #[.val (.int p1), .val (.int p2), .val (.int p3), .val (.int p4), .val (.ref b5), .val (.ref b10), .unset, .val (.int (p4 &&& (3 : Int32))), .unset, .unset, .unset, .unset, .unset] [(.ref b19)]))
    refine Go.st (fun _ kk => XS.astore X22.here hx rfl (hb hby at_47) rfl rfl (l' := #[.val (.int p1), .val (.int p2), .val (.int p3), .val (.int p4), .val (.ref b5), .val (.ref b10), .val (.ref b19), .val (.int (p4 &&& (3 : Int32))), .unset, .unset, .unset, .unset, .unset]) rfl kk) ?_
    show Go p e below _ (T22.setTop (mkF m 49 #[.val (.int p1), .val (.int p2), .val (.int p3), .val (.int p4), .val (.ref b5), .val (.ref b10), .val (.ref b19), .val (.int (p4 &&& (3 : Int32))), .unset, .unset, .unset, .unset, .unset] []))
    refine Go.st (fun _ kk => XS.goto X22.here hx rfl (pc0 := 49) (pc' := 81) rfl (hb hby at_49) (by decide) (by decide) kk) ?_
    show Go p e below _ (T22.setTop (mkF m 81 #[.val (.int p1), .val (.int p2), .val (.int p3), .val (.int p4), .val (.ref b5), .val (.ref b10), .val (.ref b19), .val (.int (p4 &&& (3 : Int32))), .unset, .unset, .unset, .unset, .unset] []))
    exact tail _ _ _ _ _ _ hS hk hZ hown (X22.more (by decide) (by decide)) rfl N22 K22
  · skip
    refine Go.st (fun _ kk => XS.ifYes X10.here hx rfl (pc0 := 35) (pc' := 52) rfl (hb hby at_35) rfl ((if0 _ _).trans (feq hc_8).2) (by decide) (by decide) kk) ?_
    show Go p e below _ (T10.setTop (mkF m 52 #[.val (.int p1), .val (.int p2), .val (.int p3), .val (.int p4), .val (.ref b5), .val (.ref b10), .unset, .val (.int (p4 &&& (3 : Int32))), .unset, .unset, .unset, .unset, .unset] []))
    refine Go.st (fun _ kk => XS.iload X10.here hx rfl (hb hby at_52) rfl  kk) ?_
    show Go p e below _ (T10.setTop (mkF m 54 #[.val (.int p1), .val (.int p2), .val (.int p3), .val (.int p4), .val (.ref b5), .val (.ref b10), .unset, .val (.int (p4 &&& (3 : Int32))), .unset, .unset, .unset, .unset, .unset] [(.int (p4 &&& (3 : Int32)))]))
    refine Go.st (fun _ kk => XS.iconst X10.here hx rfl (hb hby at_54) kk) ?_
    show Go p e below _ (T10.setTop (mkF m 55 #[.val (.int p1), .val (.int p2), .val (.int p3), .val (.int p4), .val (.ref b5), .val (.ref b10), .unset, .val (.int (p4 &&& (3 : Int32))), .unset, .unset, .unset, .unset, .unset] [(.int (1 : Int32)), (.int (p4 &&& (3 : Int32)))]))
    by_cases hc_9 : (p4 &&& (3 : Int32)) = (1 : Int32)
    · skip
      refine Go.st (fun _ kk => XS.icmpNo X10.here hx rfl (hb hby at_55) rfl (teq hc_9).2 kk) ?_
      show Go p e below _ (T10.setTop (mkF m 58 #[.val (.int p1), .val (.int p2), .val (.int p3), .val (.int p4), .val (.ref b5), .val (.ref b10), .unset, .val (.int (p4 &&& (3 : Int32))), .unset, .unset, .unset, .unset, .unset] []))
      refine Go.st (fun _ kk => XS.aload X10.here hx rfl (hb hby at_58) rfl rfl  kk) ?_
      show Go p e below _ (T10.setTop (mkF m 60 #[.val (.int p1), .val (.int p2), .val (.int p3), .val (.int p4), .val (.ref b5), .val (.ref b10), .unset, .val (.int (p4 &&& (3 : Int32))), .unset, .unset, .unset, .unset, .unset] [(.ref b5)]))
      refine Go.st (fun _ kk => XS.iconst X10.here hx rfl (hb hby at_60) kk) ?_
      show Go p e below _ (T10.setTop (mkF m 61 #[.val (.int p1), .val (.int p2), .val (.int p3), .val (.int p4), .val (.ref b5), .val (.ref b10), .unset, .val (.int (p4 &&& (3 : Int32))), .unset, .unset, .unset, .unset, .unset] [(.int (0 : Int32)), (.ref b5)]))
      have f_19 := (V9.ext E10)
      obtain ⟨clq20, Arq20, caq20, saq20, naq20, haq20, gaq20⟩ := id f_19
      have inq20 : ¬ ((0 : Int32) < 0 ∨ clq20.slots.size ≤ ((0 : Int32)).toNatClampNeg) := inb_of saq20 ⟨by decide, by decide⟩
      have atq20 : clq20.slots[((0 : Int32)).toNatClampNeg]? = some (.int (nar .char ((p2 &&& (255 : Int32)).toUInt32.toUInt16.toUInt32.toInt32))) := haq20.at inq20 rfl
      refine Go.st (fun _ kk => X10.caload hx (j := (0 : Int32)) (v := (.int (nar .char ((p2 &&& (255 : Int32)).toUInt32.toUInt16.toUInt32.toInt32)))) (by rw [e10]; exact Arq20.1) (State.isArrayOf_alike hZ.alike Arq20.2.1) Arq20.2.2 inq20 atq20 (g := (mkF m 61 #[.val (.int p1), .val (.int p2), .val (.int p3), .val (.int p4), .val (.ref b5), .val (.ref b10), .unset, .val (.int (p4 &&& (3 : Int32))), .unset, .unset, .unset, .unset, .unset] [(.int (0 : Int32)), (.ref b5)])) rfl rfl (hb hby at_61) _ kk) ?_
      show Go p e below _ (T10.setTop (mkF m 62 #[.val (.int p1), .val (.int p2), .val (.int p3), .val (.int p4), .val (.ref b5), .val (.ref b10), .unset, .val (.int (p4 &&& (3 : Int32))), .unset, .unset, .unset, .unset, .unset] [(.int (nar .char ((p2 &&& (255 : Int32)).toUInt32.toUInt16.toUInt32.toInt32)))]))
      have f_21 := (staKeep0 S_COMPACT_STRINGS K10)
      obtain ⟨_, _, ⟨T22, L22, k22, n22⟩, -, X22, ⟨Lc22, hQ22, l22, y22, z22⟩, st22⟩ := Jvm.LawKit.callS X10 hx (y := (⟨"java/lang/String", "valueOf", "(C)Ljava/lang/String;"⟩ : MethodName)) hown (mvT hZ (hw _ (List.mem_of_getElem? (i := 1) rfl))) (mvT hZ (hw _ (List.mem_of_getElem? (i := 2) rfl))) (mvT hZ (hw _ (List.mem_of_getElem? (i := 3) rfl))) (mvT hZ (hw _ (List.mem_of_getElem? (i := 4) rfl))) (by decide) (backOf (W := 0) (rm1_ff l Z a0 hw [] (nar .char ((p2 &&& (255 : Int32)).toUInt32.toUInt16.toUInt32.toInt32)) wcs h10 n0 (Nat.le_trans Z0 K10.1) f_21 hcs (own_255n p2)) hZ (hw _ (List.mem_of_getElem? (i := 4) rfl)) (hw _ (List.mem_of_getElem? (i := 3) rfl)) (by decide) (by decide)) (g := (mkF m 62 #[.val (.int p1), .val (.int p2), .val (.int p3), .val (.int p4), .val (.ref b5), .val (.ref b10), .unset, .val (.int (p4 &&& (3 : Int32))), .unset, .unset, .unset, .unset, .unset] [(.int (nar .char ((p2 &&& (255 : Int32)).toUInt32.toUInt16.toUInt32.toInt32)))])) rfl (by rw [hml]; rfl) (argsL := [(.int (nar .char ((p2 &&& (255 : Int32)).toUInt32.toUInt16.toUInt32.toInt32)))]) (rest := []) (lenOf pd_15 rfl) rfl (by show 2 * 0 + _ ≤ _; exact Nat.le_of_eq rfl) (hb hby at_62) (fun _ _ => ⟨rfl, e10, (by decide : 2 + 2 ≤ _), (by decide : 2 + 5 ≤ _)⟩)
      dsimp only [Pt.U, Pt.locs, Pt.cells, Pt.slots] at X22 l22 y22 z22 st22 hQ22
      subst l22 y22 z22
      obtain ⟨b5_22, rfl, N22q, Kc22, P22_0, P22_1, P22_2⟩ := hQ22
      have K22 : Keep h0 T22.heap [] := K10.trans Kc22 all0
      have g_b5_22 := P22_0
      have sz_b5_22 : h0.size ≤ b5_22 := Nat.le_trans K10.1 P22_1
      have lt_b5_b5_22 : b5 < b5_22 := Nat.lt_of_lt_of_le f_19.lt P22_1
      have lt_b10_b5_22 : b10 < b5_22 := Nat.lt_of_lt_of_le V_b10.lt P22_1
      have N22 := Fr.app N9 N22q
      refine Go.st st22 ?_
      show Go p e below _ (T22.setTop (mkF m 65 #[.val (.int p1), .val (.int p2), .val (.int p3), .val (.int p4), .val (.ref b5), .val (.ref b10), .unset, .val (.int (p4 &&& (3 : Int32))), .unset, .unset, .unset, .unset, .unset] [(.ref b5_22)]))
      refine Go.st (fun _ kk => XS.astore X22.here hx rfl (hb hby at_65) rfl rfl (l' := #[.val (.int p1), .val (.int p2), .val (.int p3), .val (.int p4), .val (.ref b5), .val (.ref b10), .val (.ref b5_22), .val (.int (p4 &&& (3 : Int32))), .unset, .unset, .unset, .unset, .unset]) rfl kk) ?_
      show Go p e below _ (T22.setTop (mkF m 67 #[.val (.int p1), .val (.int p2), .val (.int p3), .val (.int p4), .val (.ref b5), .val (.ref b10), .val (.ref b5_22), .val (.int (p4 &&& (3 : Int32))), .unset, .unset, .unset, .unset, .unset] []))
      refine Go.st (fun _ kk => XS.goto X22.here hx rfl (pc0 := 67) (pc' := 81) rfl (hb hby at_67) (by decide) (by decide) kk) ?_
      show Go p e below _ (T22.setTop (mkF m 81 #[.val (.int p1), .val (.int p2), .val (.int p3), .val (.int p4), .val (.ref b5), .val (.ref b10), .val (.ref b5_22), .val (.int (p4 &&& (3 : Int32))), .unset, .unset, .unset, .unset, .unset] []))
      have hk := (Nat.le_trans (Nat.le_trans (Nat.le_trans (Nat.le_trans (Nat.le_trans hk E5.1) (Nat.le_of_eq (Wr.size W7).symm)) (Nat.le_of_eq (Wr.size W9).symm)) E10.1) Kc22.1)
      exact tail _ _ _ _ _ _ hS hk hZ hown (X22.more (by decide) (by decide)) rfl N22 K22
    · skip
      refine Go.st (fun _ kk => XS.icmpYes X10.here hx rfl (pc0 := 55) (pc' := 70) rfl (hb hby at_55) rfl (feq hc_9).2 (by decide) (by decide) kk) ?_
      show Go p e below _ (T10.setTop (mkF m 70 #[.val (.int p1), .val (.int p2), .val (.int p3), .val (.int p4), .val (.ref b5), .val (.ref b10), .unset, .val (.int (p4 &&& (3 : Int32))), .unset, .unset, .unset, .unset, .unset] []))
      obtain ⟨T19, h19, X19, e19, E19, A19, D19, -, st19⟩ := newO X10 hx hZ hown (hw _ (List.mem_of_getElem? (i := 84) rfl)) (hw _ (List.mem_of_getElem? (i := 11) rfl)) (hw _ (List.mem_of_getElem? (i := 3) rfl)) e10 (g := (mkF m 70 #[.val (.int p1), .val (.int p2), .val (.int p3), .val (.int p4), .val (.ref b5), .val (.ref b10), .unset, .val (.int (p4 &&& (3 : Int32))), .unset, .unset, .unset, .unset, .unset] [])) rfl (hb hby at_70) (by decide) (by decide)
      obtain ⟨b19, g19⟩ : ∃ z, z = h10.size := ⟨_, rfl⟩
      rw [← g19] at A19 D19 st19
      refine Go.st st19 ?_
      have g_b19 : n0 ≤ b19 := Nat.le_trans (Nat.le_trans Z0 K10.1) (Nat.le_of_eq g19.symm)
      have sz_b19 : h0.size ≤ b19 := Nat.le_trans K10.1 (Nat.le_of_eq g19.symm)
      have f_20 := (V9.ext E10)
      have lt_b5_b19 : b5 < b19 := Nat.lt_of_lt_of_le f_20.lt (Nat.le_of_eq g19.symm)
      have lt_b10_b19 : b10 < b19 := Nat.lt_of_lt_of_le V_b10.lt (Nat.le_of_eq g19.symm)
      have K19 : Keep h0 h19 [] := K10.ext E19
      have E_b19 : Exa Z h19 b19 "java/lang/String" := A19
      have F_value_b19 : Fld Z h19 b19 "java/lang/String" "value" "[B" .null := D19 (Or.inr (hw _ (List.mem_of_getElem? (i := 24) rfl))) (ty := (.array .byte)) (by decide)
      have F_coder_b19 : Fld Z h19 b19 "java/lang/String" "coder" "B" (.int (0 : Int32)) := D19 (Or.inr (hw _ (List.mem_of_getElem? (i := 26) rfl))) (ty := .byte) (by decide)
      show Go p e below _ (T19.setTop (mkF m 73 #[.val (.int p1), .val (.int p2), .val (.int p3), .val (.int p4), .val (.ref b5), .val (.ref b10), .unset, .val (.int (p4 &&& (3 : Int32))), .unset, .unset, .unset, .unset, .unset] [(.ref b19)]))
      refine Go.st (fun _ kk => XS.dup X19.here hx rfl (hb hby at_73) rfl rfl kk) ?_
      show Go p e below _ (T19.setTop (mkF m 74 #[.val (.int p1), .val (.int p2), .val (.int p3), .val (.int p4), .val (.ref b5), .val (.ref b10), .unset, .val (.int (p4 &&& (3 : Int32))), .unset, .unset, .unset, .unset, .unset] [(.ref b19), (.ref b19)]))
      refine Go.st (fun _ kk => XS.aload X19.here hx rfl (hb hby at_74) rfl rfl  kk) ?_
      show Go p e below _ (T19.setTop (mkF m 76 #[.val (.int p1), .val (.int p2), .val (.int p3), .val (.int p4), .val (.ref b5), .val (.ref b10), .unset, .val (.int (p4 &&& (3 : Int32))), .unset, .unset, .unset, .unset, .unset] [(.ref b5), (.ref b19), (.ref b19)]))
      have f_21 := (f_20.ext E19)
      have f_22 := (staKeep0 S_COMPACT_STRINGS K19)
      obtain ⟨_, _, ⟨T23, L23, k23, n23⟩, -, X23, ⟨Lc23, hQ23, l23, y23, z23⟩, st23⟩ := X19.specialBack hx (y := (⟨"java/lang/String", "<init>", "([C)V"⟩ : MethodName)) rfl hown (mvT hZ (hw _ (List.mem_of_getElem? (i := 85) rfl))) (mvT hZ (hw _ (List.mem_of_getElem? (i := 86) rfl))) (mvT hZ (hw _ (List.mem_of_getElem? (i := 87) rfl))) (by decide) (backOf (W := 1) (rm132_f l Z a0 hw [] b19 b5 (nar .char ((p2 &&& (255 : Int32)).toUInt32.toUInt16.toUInt32.toInt32)) (nar .char ((p3 &&& (255 : Int32)).toUInt32.toUInt16.toUInt32.toInt32)) k5 (.int (0 : Int32)) .null wcs h19 n0 (Nat.le_trans Z0 K19.1) E_b19 f_21 (own_255n p2) (own_255n p3) F_coder_b19 F_value_b19 g_b19 (Nat.ne_of_lt lt_b5_b19) hcs f_22) hZ (hw _ (List.mem_of_getElem? (i := 87) rfl)) (hw _ (List.mem_of_getElem? (i := 3) rfl)) (by decide) (by decide)) (g := (mkF m 76 #[.val (.int p1), .val (.int p2), .val (.int p3), .val (.int p4), .val (.ref b5), .val (.ref b10), .unset, .val (.int (p4 &&& (3 : Int32))), .unset, .unset, .unset, .unset, .unset] [(.ref b5), (.ref b19), (.ref b19)])) rfl (by rw [hml]; rfl) (Steps.refl _) (a := b19) (argsL := [(.ref b5)]) (rest := [(.ref b19)]) (lenOf pd_14 rfl) rfl (by show 2 * 0 + _ ≤ _; exact Nat.le_of_eq rfl) (hb hby at_76) (fun _ _ => ⟨rfl, e19, (by decide : 3 + 1 ≤ _), (by decide : 6 + 2 ≤ _)⟩)
      dsimp only [Pt.U, Pt.locs, Pt.cells, Pt.slots] at X23 l23 y23 z23 st23 hQ23
      subst l23 y23 z23
      obtain ⟨rfl, N23q, Kc23, P23_0⟩ := hQ23
      have K23 : Keep h0 T23.heap [] := K19.trans Kc23 (allS (Or.inr sz_b19) all0)
      have N23 := Fr.app N9 N23q
      refine Go.tr st23 ?_
      show Go p e below _ (T23.setTop (mkF m 79 #[.val (.int p1), .val (.int p2), .val (.int p3), .val (.int p4), .val (.ref b5), .val (.ref b10), .unset, .val (.int (p4 &&& (3 : Int32))), .unset, .unset, .unset, .unset, .unset] [(.ref b19)]))
      refine Go.st (fun _ kk => XS.astore X23.here hx rfl (hb hby at_79) rfl rfl (l' := #[.val (.int p1), .val (.int p2), .val (.int p3), .val (.int p4), .val (.ref b5), .val (.ref b10), .val (.ref b19), .val (.int (p4 &&& (3 : Int32))), .unset, .unset, .unset, .unset, .unset]) rfl kk) ?_
      show Go p e below _ (T23.setTop (mkF m 81 #[.val (.int p1), .val (.int p2), .val (.int p3), .val (.int p4), .val (.ref b5), .val (.ref b10), .val (.ref b19), .val (.int (p4 &&& (3 : Int32))), .unset, .unset, .unset, .unset, .unset] []))
      have hk := (Nat.le_trans (Nat.le_trans (Nat.le_trans (Nat.le_trans (Nat.le_trans (Nat.le_trans hk E5.1) (Nat.le_of_eq (Wr.size W7).symm)) (Nat.le_of_eq (Wr.size W9).symm)) E10.1) E19.1) Kc23.1)
      exact tail _ _ _ _ _ _ hS hk hZ hown (X23.more (by decide) (by decide)) rfl N23 K23
set_option maxRecDepth 65536 in
set_option maxHeartbeats 40000000 in
theorem comes_1 {Post : Tables → Env → Array Value → State → Outcome → State → Prop} (hpost : ∀ tb e args s v u, (limb_1_1.after args s (.returned v) u = true ∧ limb_1_2.after args s (.returned v) u = true ∧ True) → ReturnedEndW s (.returned v) u (Jvm.fieldLocs frame_1_writes args s ++ Jvm.arrayLocs frame_1_arrays args s ++ Jvm.staticLocs frame_1_statics s) 32 3200 → Post tb e args s (.returned v) u) :
    ArmFor flags0 classFile x code maxLocals ret World_1 tables_1 room_1 Calls_1 rest_1 Pre_1 Post := by
  intro l hfl _ _ p e ha hc hk s m args below hf hA hF happ hP
  obtain ⟨hcalls, hrest, hpre⟩ := hP
  obtain ⟨-, -, -, hnamed, -, -, -, hat⟩ := (Spec.applies_iff hf).mp happ
  obtain ⟨hg, hn⟩ := and_e (Cond.before_iff.mp (show (Jvm.Cond.and given_1 narrow_1).before args s = true from hpre))
  obtain ⟨hcount, hg⟩ := and_e hg
  obtain ⟨hg0, hg⟩ := and_e hg
  obtain ⟨hg1, hg⟩ := and_e hg
  obtain ⟨hg2, hg⟩ := and_e hg
  have hg3 := hg
  obtain ⟨w0, w1, w2, w3, rfl⟩ : ∃ w0 w1 w2 w3 : Value, args = #[w0, w1, w2, w3] := by
    have hs : args.size = 4 := by simpa [Cond.value, given_1] using hcount
    obtain ⟨L⟩ := args
    match L, hs with
    | [w0, w1, w2, w3], _ => exact ⟨w0, w1, w2, w3, rfl⟩
  have hw := fun d (hd : d ∈ tables_1) => atoms_spec (ws := Jvm.Cond.code x code maxLocals ret :: tables_1) hat d (List.mem_cons_of_mem _ hd)
  have hfit : Fit s := fun {y c} hc i hi => by
    obtain ⟨ha, rfl⟩ := Array.getElem?_eq_some_iff.mp hc
    have q := List.all_eq_true.mp ((Array.all_eq_true_iff_forall_mem.mp hF) _ (Array.getElem_mem ha)) i (List.mem_range.mpr hi)
    simpa [Array.getElem?_eq_getElem hi] using q
  obtain ⟨hsets, hown0⟩ := atoms_of _ (rest_1_c_eq ▸ (show rest_1_c.before _ s = true from hrest))
  have hr0 := Cond.before_iff.mp hown0
  obtain ⟨i0, ei0⟩ := is_v hg0
  obtain rfl : w0 = (.int i0) := Option.some.inj ei0
  obtain ⟨i1, ei1⟩ := is_v hg1
  obtain rfl : w1 = (.int i1) := Option.some.inj ei1
  obtain ⟨i2, ei2⟩ := is_v hg2
  obtain rfl : w2 = (.int i2) := Option.some.inj ei2
  obtain ⟨i3, ei3⟩ := is_v hg3
  obtain rfl : w3 = (.int i3) := Option.some.inj ei3
  obtain ⟨hn0, hn⟩ := and_e hn
  obtain ⟨hn1, hn⟩ := and_e hn
  obtain ⟨hn2, hn⟩ := and_e hn
  obtain ⟨hn3, hn⟩ := and_e hn
  have hn4 := hn
  obtain ⟨w_ATTRIBUTE, ev_ATTRIBUTE⟩ := exa_v hn0
  have S_ATTRIBUTE := Sta.start ev_ATTRIBUTE (Or.inr ⟨(hw _ (List.mem_of_getElem? (i := 28) rfl)), (hw _ (List.mem_of_getElem? (i := 29) rfl))⟩)
  have E_w_ATTRIBUTE := Exa.start ev_ATTRIBUTE hn0
  obtain ⟨w_ROOT, ev_ROOT⟩ := exa_v hn1
  have S_ROOT := Sta.start ev_ROOT (Or.inr ⟨(hw _ (List.mem_of_getElem? (i := 68) rfl)), (hw _ (List.mem_of_getElem? (i := 83) rfl))⟩)
  have E_w_ROOT := Exa.start ev_ROOT hn1
  obtain ⟨w_CONTAINMENT, ev_CONTAINMENT⟩ := exa_v hn3
  have S_CONTAINMENT := Sta.start ev_CONTAINMENT (Or.inr ⟨(hw _ (List.mem_of_getElem? (i := 28) rfl)), (hw _ (List.mem_of_getElem? (i := 102) rfl))⟩)
  have E_w_CONTAINMENT := Exa.start ev_CONTAINMENT hn3
  obtain ⟨w_REFERENCE, ev_REFERENCE⟩ := exa_v hn4
  have S_REFERENCE := Sta.start ev_REFERENCE (Or.inr ⟨(hw _ (List.mem_of_getElem? (i := 28) rfl)), (hw _ (List.mem_of_getElem? (i := 105) rfl))⟩)
  have E_w_REFERENCE := Exa.start ev_REFERENCE hn4
  have own_set := fun i => hsets i
  obtain ⟨wcs, ev_cs⟩ := is_v (Cond.before_iff.mp (hsets _ (List.mem_of_getElem? (i := 1) rfl)))
  have S_COMPACT_STRINGS := Sta.start ev_cs (Or.inl (hsets _ (List.mem_of_getElem? (i := 0) rfl)))
  have hcs : ¬ (wcs = (0 : Int32)) := fun q => by have e1 := not_v (Cond.before_iff.mp (hsets _ (List.mem_of_getElem? (i := 2) rfl))); exact absurd (eq_i ev_cs (Term.int_eval (0 : Int32)) (congrArg Value.int q)) (by rw [e1]; simp)
  have F_owner_w_ROOT := fldNull ev_ROOT hn2
  have hCH : CHv s own_EL s.vm s.heap := CHv.start (own_EW hw) (fun p hp => hcalls.1 p (own_sub p hp)) (hsets _ (List.mem_of_getElem? (i := 2) rfl)) (hw _ (List.mem_of_getElem? (i := 15) rfl)) (hw _ (List.mem_of_getElem? (i := 11) rfl))
  obtain ⟨n, o, h1, h2, h3, _, L, rfl, ⟨rfl, N⟩, hq⟩ := rm0 l s _ hw tables_1 i0 i1 i2 i3 w_ATTRIBUTE w_ROOT w_CONTAINMENT w_REFERENCE wcs s.heap s.heap.size (Nat.le_refl _) S_ATTRIBUTE E_w_ATTRIBUTE S_ROOT E_w_ROOT S_CONTAINMENT E_w_CONTAINMENT S_REFERENCE E_w_REFERENCE S_COMPACT_STRINGS hcs F_owner_w_ROOT p e ha hc hk s m _ below hf ((Spec.applies_iff_loose hf).mp happ).1 ⟨rfl, State.Warmed39.refl s, rfl, hCH⟩ trivial
  refine ⟨n, _, h1, h2, h3, hpost _ _ _ _ _ _ ⟨Cond.after_iff.mpr rfl, Cond.after_iff.mpr (eq_i res_at (Term.int_eval (1)) rfl), trivial⟩ ⟨hq.1, hq.2.1, hq.2.2.1, (hq.2.2.2.sift fun y hy => Or.inr (N y hy)).mono (by decide) (by decide)⟩⟩
theorem main_1_1 : Claimed_1_1 := comes_1 fun _ _ _ _ _ _ h hF => ⟨h.1, hF⟩
theorem main_1_2 : Claimed_1_2 := comes_1 fun _ _ _ _ _ _ h hF => ⟨h.2.1, hF⟩
end Jvm.Pilot.@@N@@
namespace Jvm.Pilot.@@N@@
open Jvm Jvm.ClassFile Sem Op Lib Jvm.Free Jvm.Stand Jvm.Pilot.@@N@@.Jvm.D
/-! MADE BY PROGRAM (witnessworld.py) out of the Statement's table words and the real class files: 25 classes; the members and pool entries that the words name. The judged class is class 1, her method 1. -/
namespace start1
open Jvm.ClassFile
def u (s : String) : CpInfo := .utf8 (stringToUtf16 s)
/-- a pool by its gaps: so many unusable entries, then the entry; so many at the end -/
def gap : Nat → List CpInfo → List CpInfo
  | 0, r => r
  | n + 1, r => .unusable :: gap n r
def poolList (es : List (Nat × CpInfo)) (last : Nat) : List CpInfo := es.foldr (fun e r => gap e.1 (e.2 :: r)) (gap last [])
def pool (es : List (Nat × CpInfo)) (last : Nat) : Array CpInfo := ⟨poolList es last⟩
def fileOf (pool : Array CpInfo) (this : Nat) (attrs : Array Attribute := #[]) (ms : Array MethodInfo := #[]) (fl : Nat := 33) (sup : Nat := 0) (ifs : Array Nat := #[]) (fds : Array FieldInfo := #[]) : ClassFile where
  minorVersion := 0
  majorVersion := 65
  constantPool := pool
  accessFlags := fl
  thisClass := this
  superClass := sup
  interfaces := ifs
  fields := fds
  methods := ms
  attributes := attrs
def plain (name : String) (sup : Option ClassId) : Class where
  name := name
  kind := .ordinary
  loader := none
  accessFlags := 33
  super := sup
  interfaces := #[]
  cf := none
  fields := #[]
  methods := #[]
  instanceTypes := #[]
  staticTypes := #[]
  resolved := #[]
  callSites := []
  init := .initialized
  statics := none
  mirror := none

def pool0 : Array CpInfo := pool [(5, u "<init>"), (0, u "()V"), (1, .class_ 10), (1, u "java/lang/Object")] 113

def k0c0 : Code := { maxStack := 0, maxLocals := 1, code := object_method_1_code, exceptionTable := #[], attributes := #[] }
def k0m0 : Method := { name := "<init>", desc := "()V", sig := { parameters := [], returnType := none }, accessFlags := 1, code := some k0c0 }
/-- java/lang/Object -/
def k0 : Class := { plain "java/lang/Object" none with
  accessFlags := 33
  interfaces := #[]
  cf := some (fileOf pool0 8 #[] #[{ accessFlags := 1, nameIndex := 5, descriptorIndex := 6, attributes := #[] }] 33 0 #[] #[])
  fields := #[]
  methods := #[k0m0]
  instanceTypes := #[]
  staticTypes := #[]
  resolved := Array.replicate 124 none
  statics := none }

def pool1 : Array CpInfo := pool [(2, .class_ 4), (1, u "java/lang/Object"), (0, u "<init>"), (0, u "()V"), (0, .class_ 8), (0, u "java/lang/String"), (0, .methodref 7 10), (0, .nameAndType 5 11), (0, u "([C)V"), (0, .methodref 7 13), (0, .nameAndType 14 15), (0, u "valueOf"), (0, u "(C)Ljava/lang/String;"), (0, .fieldref 17 18), (0, .class_ 19), (0, .nameAndType 20 21), (0, u "com/example/mergewell/mergewell/core/Feature$Kind"), (0, u "ATTRIBUTE"), (0, u "Lcom/example/mergewell/mergewell/core/Feature$Kind;"), (0, .fieldref 17 23), (0, .nameAndType 24 21), (0, u "REFERENCE"), (0, .fieldref 17 26), (0, .nameAndType 27 21), (0, u "CONTAINMENT"), (0, .class_ 29), (0, u "com/example/mergewell/mergewell/core/Feature"), (0, .methodref 28 31), (0, .nameAndType 5 32), (0, u "(Ljava/lang/String;Lcom/example/mergewell/mergewell/core/Feature$Kind;Z)V"), (0, .class_ 34), (0, u "com/example/mergewell/mergewell/core/Slot"), (0, .methodref 33 36), (0, .nameAndType 5 37), (0, u "(Ljava/lang/String;Lcom/example/mergewell/mergewell/core/Feature;)V"), (0, .methodref 33 39), (0, .nameAndType 40 41), (0, u "isRoot"), (0, u "()Z"), (0, .fieldref 33 43), (0, .nameAndType 44 45), (0, u "ROOT"), (0, u "Lcom/example/mergewell/mergewell/core/Slot;"), (0, .class_ 47), (0, u "com/example/mergewell/mergewell/core/SlotIsRootPinLaw"), (2, u "law"), (0, u "(IIII)Z")] 7

def k1m0 : Method := { name := "<init>", desc := "()V", sig := { parameters := [], returnType := none }, accessFlags := 1, code := none }
def k1c1 : Code := { maxStack := 6, maxLocals := 13, code := code, exceptionTable := #[], attributes := #[] }
def k1m1 : Method := { name := "law", desc := "(IIII)Z", sig := { parameters := [.int, .int, .int, .int], returnType := some .boolean }, accessFlags := 9, code := some k1c1 }
/-- com/example/mergewell/mergewell/core/SlotIsRootPinLaw -/
def k1 : Class := { plain "com/example/mergewell/mergewell/core/SlotIsRootPinLaw" (some 0) with
  accessFlags := 49
  interfaces := #[]
  cf := some (fileOf pool1 46 #[] #[{ accessFlags := 1, nameIndex := 5, descriptorIndex := 6, attributes := #[] }, { accessFlags := 9, nameIndex := 50, descriptorIndex := 51, attributes := #[] }] 49 2 #[] #[])
  fields := #[]
  methods := #[k1m0, k1m1]
  instanceTypes := #[]
  staticTypes := #[]
  resolved := Array.replicate 59 none
  statics := none }

def pool2 : Array CpInfo := pool [(1, .class_ 2), (0, u "java/io/Serializable"), (0, .class_ 4), (0, u "java/lang/Object")] 2

/-- java/io/Serializable -/
def k2 : Class := { plain "java/io/Serializable" (some 0) with
  accessFlags := 1537
  interfaces := #[]
  cf := some (fileOf pool2 1 #[] #[] 1537 3 #[] #[])
  fields := #[]
  methods := #[]
  instanceTypes := #[]
  staticTypes := #[]
  resolved := Array.replicate 7 none
  statics := none }

def pool3 : Array CpInfo := pool [(1, .class_ 2), (0, u "java/lang/Comparable"), (0, .class_ 4), (0, u "java/lang/Object")] 7

/-- java/lang/Comparable -/
def k3 : Class := { plain "java/lang/Comparable" (some 0) with
  accessFlags := 1537
  interfaces := #[]
  cf := some (fileOf pool3 1 #[] #[] 1537 3 #[] #[])
  fields := #[]
  methods := #[]
  instanceTypes := #[]
  staticTypes := #[]
  resolved := Array.replicate 12 none
  statics := none }

def pool4 : Array CpInfo := pool [(2, .class_ 4), (1, u "java/lang/CharSequence"), (42, .class_ 48), (0, u "java/lang/CharSequence$1CodePointIterator"), (10, .class_ 60), (0, u "java/lang/CharSequence$1CharIterator"), (5, .class_ 67), (0, u "java/lang/Object")] 63

/-- java/lang/CharSequence -/
def k4 : Class := { plain "java/lang/CharSequence" (some 0) with
  accessFlags := 1537
  interfaces := #[]
  cf := some (fileOf pool4 2 #[.nestMembers #[47, 59]] #[] 1537 66 #[] #[])
  fields := #[]
  methods := #[]
  instanceTypes := #[]
  staticTypes := #[]
  resolved := Array.replicate 131 none
  statics := none }

def pool5 : Array CpInfo := pool [(1, .class_ 2), (0, u "java/lang/constant/Constable"), (0, .class_ 4), (0, u "java/lang/Object")] 6

/-- java/lang/constant/Constable -/
def k5 : Class := { plain "java/lang/constant/Constable" (some 0) with
  accessFlags := 1537
  interfaces := #[]
  cf := some (fileOf pool5 1 #[] #[] 1537 3 #[] #[])
  fields := #[]
  methods := #[]
  instanceTypes := #[]
  staticTypes := #[]
  resolved := Array.replicate 11 none
  statics := none }

def pool6 : Array CpInfo := pool [(1, .class_ 2), (0, u "java/lang/constant/ConstantDesc"), (0, .class_ 4), (0, u "java/lang/Object")] 32

/-- java/lang/constant/ConstantDesc -/
def k6 : Class := { plain "java/lang/constant/ConstantDesc" (some 0) with
  accessFlags := 1537
  interfaces := #[]
  cf := some (fileOf pool6 1 #[] #[] 1537 3 #[] #[])
  fields := #[]
  methods := #[]
  instanceTypes := #[]
  staticTypes := #[]
  resolved := Array.replicate 37 none
  statics := none }

def pool7 : Array CpInfo := pool [(1, .methodref 2 3), (0, .class_ 4), (0, .nameAndType 5 6), (0, u "java/lang/Object"), (0, u "<init>"), (0, u "()V"), (0, .string 8), (0, u ""), (0, .fieldref 10 11), (0, .class_ 12), (0, .nameAndType 13 14), (0, u "java/lang/String"), (0, u "value"), (0, u "[B"), (0, .fieldref 10 16), (0, .nameAndType 17 18), (0, u "coder"), (0, u "B"), (2, u "hash"), (0, u "I"), (2, u "hashIsZero"), (0, u "Z"), (0, .methodref 10 28), (0, .nameAndType 5 29), (0, u "([CIILjava/lang/Void;)V"), (8, .fieldref 10 39), (0, .nameAndType 40 26), (0, u "COMPACT_STRINGS"), (1, .class_ 44), (1, u "java/lang/StringUTF16"), (0, u "compress"), (1, .methodref 42 48), (0, .nameAndType 49 50), (0, u "coderFromArrayLen"), (0, u "([BI)B"), (2, u "toBytes"), (53, .class_ 109), (1, u "java/lang/StringLatin1"), (67, .methodref 42 178), (0, .nameAndType 45 179), (0, u "([CII)[B"), (29, .methodref 10 210), (0, .nameAndType 5 211), (0, u "([BB)V"), (157, u "(C)Z"), (205, .class_ 576), (0, u "java/lang/CharSequence"), (22, u "CASE_INSENSITIVE_ORDER"), (0, u "Ljava/util/Comparator;"), (181, u "valueOf"), (0, u "(C)Ljava/lang/String;"), (226, u "([C)V"), (4, .methodref 107 1016), (0, .nameAndType 1017 369), (0, u "canEncode"), (0, .methodref 107 1019), (0, .nameAndType 53 1020), (0, u "(C)[B"), (80, u "serialPersistentFields"), (0, u "[Ljava/io/ObjectStreamField;"), (0, .class_ 1104), (0, u "java/lang/String$CaseInsensitiveComparator"), (1, .class_ 1107), (0, u "java/io/Serializable"), (0, .class_ 1109), (0, u "java/lang/Comparable"), (0, .class_ 1111), (0, u "java/lang/constant/Constable"), (0, .class_ 1113), (0, u "java/lang/constant/ConstantDesc"), (2, u "serialVersionUID"), (0, u "J"), (3, u "REPL"), (0, u "C"), (2, u "LATIN1"), (1, u "UTF16")] 323

def k7m0 : Method := { name := "<init>", desc := "()V", sig := { parameters := [], returnType := none }, accessFlags := 1, code := none }
def k7c1 : Code := { maxStack := 5, maxLocals := 2, code := jdk_42_method_3_code, exceptionTable := #[], attributes := #[] }
def k7m1 : Method := { name := "<init>", desc := "([C)V", sig := { parameters := [(.array .char)], returnType := none }, accessFlags := 1, code := some k7c1 }
def k7c2 : Code := { maxStack := 4, maxLocals := 1, code := jdk_42_method_139_code, exceptionTable := #[], attributes := #[] }
def k7m2 : Method := { name := "valueOf", desc := "(C)Ljava/lang/String;", sig := { parameters := [.char], returnType := some (.object "java/lang/String") }, accessFlags := 9, code := some k7c2 }
def k7c3 : Code := { maxStack := 4, maxLocals := 6, code := jdk_42_method_149_code, exceptionTable := #[], attributes := #[] }
def k7m3 : Method := { name := "<init>", desc := "([CIILjava/lang/Void;)V", sig := { parameters := [(.array .char), .int, .int, (.object "java/lang/Void")], returnType := none }, accessFlags := 2, code := some k7c3 }
def k7c4 : Code := { maxStack := 2, maxLocals := 3, code := jdk_42_method_151_code, exceptionTable := #[], attributes := #[] }
def k7m4 : Method := { name := "<init>", desc := "([BB)V", sig := { parameters := [(.array .byte), .byte], returnType := none }, accessFlags := 0, code := some k7c4 }
/-- java/lang/String -/
def k7 : Class := { plain "java/lang/String" (some 0) with
  accessFlags := 49
  interfaces := #[2, 3, 4, 5, 6]
  cf := some (fileOf pool7 10 #[.nestMembers #[1103]] #[{ accessFlags := 1, nameIndex := 5, descriptorIndex := 6, attributes := #[] }, { accessFlags := 1, nameIndex := 5, descriptorIndex := 1010, attributes := #[] }, { accessFlags := 9, nameIndex := 782, descriptorIndex := 783, attributes := #[] }, { accessFlags := 2, nameIndex := 5, descriptorIndex := 29, attributes := #[] }, { accessFlags := 0, nameIndex := 5, descriptorIndex := 211, attributes := #[] }] 49 2 #[1106, 1108, 575, 1110, 1112] #[{ accessFlags := 18, nameIndex := 13, descriptorIndex := 14, attributes := #[] }, { accessFlags := 18, nameIndex := 17, descriptorIndex := 18, attributes := #[] }, { accessFlags := 2, nameIndex := 21, descriptorIndex := 22, attributes := #[] }, { accessFlags := 2, nameIndex := 25, descriptorIndex := 26, attributes := #[] }, { accessFlags := 26, nameIndex := 1116, descriptorIndex := 1117, attributes := #[] }, { accessFlags := 24, nameIndex := 40, descriptorIndex := 26, attributes := #[] }, { accessFlags := 26, nameIndex := 1101, descriptorIndex := 1102, attributes := #[] }, { accessFlags := 26, nameIndex := 1121, descriptorIndex := 1122, attributes := #[] }, { accessFlags := 25, nameIndex := 599, descriptorIndex := 600, attributes := #[] }, { accessFlags := 24, nameIndex := 1125, descriptorIndex := 18, attributes := #[] }, { accessFlags := 24, nameIndex := 1127, descriptorIndex := 18, attributes := #[] }])
  fields := #[{ name := "value", type := (.array .byte), accessFlags := 18, slot := 0, constantValue := 0 }, { name := "coder", type := .byte, accessFlags := 18, slot := 1, constantValue := 0 }, { name := "hash", type := .int, accessFlags := 2, slot := 2, constantValue := 0 }, { name := "hashIsZero", type := .boolean, accessFlags := 2, slot := 3, constantValue := 0 }, { name := "serialVersionUID", type := .long, accessFlags := 26, slot := 0, constantValue := 0 }, { name := "COMPACT_STRINGS", type := .boolean, accessFlags := 24, slot := 1, constantValue := 0 }, { name := "serialPersistentFields", type := (.array (.object "java/io/ObjectStreamField")), accessFlags := 26, slot := 2, constantValue := 0 }, { name := "REPL", type := .char, accessFlags := 26, slot := 3, constantValue := 0 }, { name := "CASE_INSENSITIVE_ORDER", type := (.object "java/util/Comparator"), accessFlags := 25, slot := 4, constantValue := 0 }, { name := "LATIN1", type := .byte, accessFlags := 24, slot := 5, constantValue := 0 }, { name := "UTF16", type := .byte, accessFlags := 24, slot := 6, constantValue := 0 }]
  methods := #[k7m0, k7m1, k7m2, k7m3, k7m4]
  instanceTypes := #[(.array .byte), .byte, .int, .boolean]
  staticTypes := #[.long, .boolean, (.array (.object "java/io/ObjectStreamField")), .char, (.object "java/util/Comparator"), .byte, .byte]
  resolved := Array.replicate 1451 none
  statics := some 0 }

def pool8 : Array CpInfo := pool [(4, .class_ 6), (1, u "java/lang/Object"), (0, u "<init>"), (0, u "()V"), (5, .class_ 16), (1, u "java/lang/StringLatin1"), (73, u "canEncode"), (14, u "(C)Z"), (15, u "$assertionsDisabled"), (0, u "Z"), (98, .class_ 223), (1, u "java/lang/StringLatin1$LinesSpliterator"), (156, u "toBytes"), (1, u "(C)[B"), (7, .class_ 391), (0, u "java/lang/StringLatin1$CharsSpliterator")] 3

def k8m0 : Method := { name := "<init>", desc := "()V", sig := { parameters := [], returnType := none }, accessFlags := 0, code := none }
def k8c1 : Code := { maxStack := 2, maxLocals := 1, code := jdk_43_method_3_code, exceptionTable := #[], attributes := #[] }
def k8m1 : Method := { name := "canEncode", desc := "(C)Z", sig := { parameters := [.char], returnType := some .boolean }, accessFlags := 9, code := some k8c1 }
def k8c2 : Code := { maxStack := 4, maxLocals := 1, code := jdk_43_method_46_code, exceptionTable := #[], attributes := #[] }
def k8m2 : Method := { name := "toBytes", desc := "(C)[B", sig := { parameters := [.char], returnType := some (.array .byte) }, accessFlags := 9, code := some k8c2 }
/-- java/lang/StringLatin1 -/
def k8 : Class := { plain "java/lang/StringLatin1" (some 0) with
  accessFlags := 48
  interfaces := #[]
  cf := some (fileOf pool8 14 #[.nestMembers #[390, 221]] #[{ accessFlags := 0, nameIndex := 7, descriptorIndex := 8, attributes := #[] }, { accessFlags := 9, nameIndex := 90, descriptorIndex := 105, attributes := #[] }, { accessFlags := 9, nameIndex := 380, descriptorIndex := 382, attributes := #[] }] 48 4 #[] #[{ accessFlags := 4120, nameIndex := 121, descriptorIndex := 122, attributes := #[] }])
  fields := #[{ name := "$assertionsDisabled", type := .boolean, accessFlags := 4120, slot := 0, constantValue := 0 }]
  methods := #[k8m0, k8m1, k8m2]
  instanceTypes := #[]
  staticTypes := #[.boolean]
  resolved := Array.replicate 395 none
  statics := none }

def pool9 : Array CpInfo := pool [(2, .class_ 4), (1, u "java/lang/Enum"), (0, u "name"), (0, u "Ljava/lang/String;"), (2, u "ordinal"), (0, u "I"), (1, .class_ 14), (1, u "java/lang/Object"), (4, u "hash"), (86, .class_ 108), (1, u "java/lang/Enum$EnumDesc"), (2, .class_ 112), (0, u "java/lang/constant/Constable"), (0, .class_ 114), (0, u "java/lang/Comparable"), (0, .class_ 116), (0, u "java/io/Serializable")] 87

/-- java/lang/Enum -/
def k9 : Class := { plain "java/lang/Enum" (some 0) with
  accessFlags := 1057
  interfaces := #[5, 3, 2]
  cf := some (fileOf pool9 2 #[.nestMembers #[106]] #[] 1057 12 #[111, 113, 115] #[{ accessFlags := 18, nameIndex := 5, descriptorIndex := 6, attributes := #[] }, { accessFlags := 18, nameIndex := 9, descriptorIndex := 10, attributes := #[] }, { accessFlags := 2, nameIndex := 19, descriptorIndex := 10, attributes := #[] }])
  fields := #[{ name := "name", type := (.object "java/lang/String"), accessFlags := 18, slot := 0, constantValue := 0 }, { name := "ordinal", type := .int, accessFlags := 18, slot := 1, constantValue := 0 }, { name := "hash", type := .int, accessFlags := 2, slot := 2, constantValue := 0 }]
  methods := #[]
  instanceTypes := #[(.object "java/lang/String"), .int, .int]
  staticTypes := #[]
  resolved := Array.replicate 204 none
  statics := none }

def pool10 : Array CpInfo := pool [(1, .class_ 2), (0, u "com/example/mergewell/mergewell/core/Feature$Kind"), (2, u "ATTRIBUTE"), (0, u "Lcom/example/mergewell/mergewell/core/Feature$Kind;"), (2, u "REFERENCE"), (2, u "CONTAINMENT"), (2, u "$VALUES"), (0, u "[Lcom/example/mergewell/mergewell/core/Feature$Kind;"), (6, .class_ 25), (1, u "java/lang/Enum"), (26, .class_ 53), (0, u "com/example/mergewell/mergewell/core/Feature")] 2

/-- com/example/mergewell/mergewell/core/Feature$Kind -/
def k10 : Class := { plain "com/example/mergewell/mergewell/core/Feature$Kind" (some 9) with
  accessFlags := 16433
  interfaces := #[]
  cf := some (fileOf pool10 1 #[.nestHost 52] #[] 16433 23 #[] #[{ accessFlags := 16409, nameIndex := 5, descriptorIndex := 6, attributes := #[] }, { accessFlags := 16409, nameIndex := 9, descriptorIndex := 6, attributes := #[] }, { accessFlags := 16409, nameIndex := 12, descriptorIndex := 6, attributes := #[] }, { accessFlags := 4122, nameIndex := 15, descriptorIndex := 16, attributes := #[] }])
  fields := #[{ name := "ATTRIBUTE", type := (.object "com/example/mergewell/mergewell/core/Feature$Kind"), accessFlags := 16409, slot := 0, constantValue := 0 }, { name := "REFERENCE", type := (.object "com/example/mergewell/mergewell/core/Feature$Kind"), accessFlags := 16409, slot := 1, constantValue := 0 }, { name := "CONTAINMENT", type := (.object "com/example/mergewell/mergewell/core/Feature$Kind"), accessFlags := 16409, slot := 2, constantValue := 0 }, { name := "$VALUES", type := (.array (.object "com/example/mergewell/mergewell/core/Feature$Kind")), accessFlags := 4122, slot := 3, constantValue := 0 }]
  methods := #[]
  instanceTypes := #[(.object "java/lang/String"), .int, .int]
  staticTypes := #[(.object "com/example/mergewell/mergewell/core/Feature$Kind"), (.object "com/example/mergewell/mergewell/core/Feature$Kind"), (.object "com/example/mergewell/mergewell/core/Feature$Kind"), (.array (.object "com/example/mergewell/mergewell/core/Feature$Kind"))]
  resolved := Array.replicate 56 none
  statics := some 1 }

def pool11 : Array CpInfo := pool [(1, .methodref 2 3), (0, .class_ 4), (0, .nameAndType 5 6), (0, u "java/lang/Object"), (0, u "<init>"), (0, u "()V"), (0, .class_ 8), (0, u "java/lang/Record")] 13

def k11c0 : Code := { maxStack := 1, maxLocals := 1, code := jdk_30_method_1_code, exceptionTable := #[], attributes := #[] }
def k11m0 : Method := { name := "<init>", desc := "()V", sig := { parameters := [], returnType := none }, accessFlags := 4, code := some k11c0 }
/-- java/lang/Record -/
def k11 : Class := { plain "java/lang/Record" (some 0) with
  accessFlags := 1057
  interfaces := #[]
  cf := some (fileOf pool11 7 #[] #[{ accessFlags := 4, nameIndex := 5, descriptorIndex := 6, attributes := #[] }] 1057 2 #[] #[])
  fields := #[]
  methods := #[k11m0]
  instanceTypes := #[]
  staticTypes := #[]
  resolved := Array.replicate 22 none
  statics := none }

def pool12 : Array CpInfo := pool [(1, .methodref 2 3), (0, .class_ 4), (0, .nameAndType 5 6), (0, u "java/lang/Record"), (0, u "<init>"), (0, u "()V"), (0, .string 8), (0, u "name"), (0, .methodref 10 11), (0, .class_ 12), (0, .nameAndType 13 14), (0, u "java/util/Objects"), (0, u "requireNonNull"), (0, u "(Ljava/lang/Object;Ljava/lang/String;)Ljava/lang/Object;"), (0, .string 16), (0, u "kind"), (0, .fieldref 18 19), (0, .class_ 20), (0, .nameAndType 8 21), (0, u "com/example/mergewell/mergewell/core/Feature"), (0, u "Ljava/lang/String;"), (0, .fieldref 18 23), (0, .nameAndType 16 24), (0, u "Lcom/example/mergewell/mergewell/core/Feature$Kind;"), (0, .fieldref 18 26), (0, .nameAndType 27 28), (0, u "many"), (0, u "Z"), (0, .fieldref 18 30), (0, .nameAndType 31 28), (0, u "ordered"), (0, .fieldref 18 33), (0, .nameAndType 34 21), (0, u "singleOpposite"), (0, .methodref 18 36), (0, .nameAndType 5 37), (0, u "(Ljava/lang/String;Lcom/example/mergewell/mergewell/core/Feature$Kind;ZZLjava/lang/String;)V"), (0, .methodref 18 39), (0, .nameAndType 5 40), (0, u "(Ljava/lang/String;Lcom/example/mergewell/mergewell/core/Feature$Kind;ZZ)V"), (1, .class_ 44), (1, u "com/example/mergewell/mergewell/core/Feature$Kind"), (16, u "(Ljava/lang/String;Lcom/example/mergewell/mergewell/core/Feature$Kind;Z)V")] 36

def k12c0 : Code := { maxStack := 2, maxLocals := 6, code := prog_6_method_1_code, exceptionTable := #[], attributes := #[] }
def k12m0 : Method := { name := "<init>", desc := "(Ljava/lang/String;Lcom/example/mergewell/mergewell/core/Feature$Kind;ZZLjava/lang/String;)V", sig := { parameters := [(.object "java/lang/String"), (.object "com/example/mergewell/mergewell/core/Feature$Kind"), .boolean, .boolean, (.object "java/lang/String")], returnType := none }, accessFlags := 1, code := some k12c0 }
def k12c1 : Code := { maxStack := 6, maxLocals := 5, code := prog_6_method_2_code, exceptionTable := #[], attributes := #[] }
def k12m1 : Method := { name := "<init>", desc := "(Ljava/lang/String;Lcom/example/mergewell/mergewell/core/Feature$Kind;ZZ)V", sig := { parameters := [(.object "java/lang/String"), (.object "com/example/mergewell/mergewell/core/Feature$Kind"), .boolean, .boolean], returnType := none }, accessFlags := 1, code := some k12c1 }
def k12c2 : Code := { maxStack := 5, maxLocals := 4, code := prog_6_method_3_code, exceptionTable := #[], attributes := #[] }
def k12m2 : Method := { name := "<init>", desc := "(Ljava/lang/String;Lcom/example/mergewell/mergewell/core/Feature$Kind;Z)V", sig := { parameters := [(.object "java/lang/String"), (.object "com/example/mergewell/mergewell/core/Feature$Kind"), .boolean], returnType := none }, accessFlags := 1, code := some k12c2 }
/-- com/example/mergewell/mergewell/core/Feature -/
def k12 : Class := { plain "com/example/mergewell/mergewell/core/Feature" (some 11) with
  accessFlags := 49
  interfaces := #[]
  cf := some (fileOf pool12 18 #[.nestMembers #[42]] #[{ accessFlags := 1, nameIndex := 5, descriptorIndex := 37, attributes := #[] }, { accessFlags := 1, nameIndex := 5, descriptorIndex := 40, attributes := #[] }, { accessFlags := 1, nameIndex := 5, descriptorIndex := 61, attributes := #[] }] 49 2 #[] #[{ accessFlags := 18, nameIndex := 8, descriptorIndex := 21, attributes := #[] }, { accessFlags := 18, nameIndex := 16, descriptorIndex := 24, attributes := #[] }, { accessFlags := 18, nameIndex := 27, descriptorIndex := 28, attributes := #[] }, { accessFlags := 18, nameIndex := 31, descriptorIndex := 28, attributes := #[] }, { accessFlags := 18, nameIndex := 34, descriptorIndex := 21, attributes := #[] }])
  fields := #[{ name := "name", type := (.object "java/lang/String"), accessFlags := 18, slot := 0, constantValue := 0 }, { name := "kind", type := (.object "com/example/mergewell/mergewell/core/Feature$Kind"), accessFlags := 18, slot := 1, constantValue := 0 }, { name := "many", type := .boolean, accessFlags := 18, slot := 2, constantValue := 0 }, { name := "ordered", type := .boolean, accessFlags := 18, slot := 3, constantValue := 0 }, { name := "singleOpposite", type := (.object "java/lang/String"), accessFlags := 18, slot := 4, constantValue := 0 }]
  methods := #[k12m0, k12m1, k12m2]
  instanceTypes := #[(.object "java/lang/String"), (.object "com/example/mergewell/mergewell/core/Feature$Kind"), .boolean, .boolean, (.object "java/lang/String")]
  staticTypes := #[]
  resolved := Array.replicate 98 none
  statics := none }

def pool13 : Array CpInfo := pool [(2, .class_ 4), (1, u "java/lang/Object"), (0, u "<init>"), (0, u "()V"), (35, .class_ 44), (1, u "java/util/Objects"), (0, u "requireNonNull"), (48, u "(Ljava/lang/Object;Ljava/lang/String;)Ljava/lang/Object;")] 89

def k13m0 : Method := { name := "<init>", desc := "()V", sig := { parameters := [], returnType := none }, accessFlags := 2, code := none }
def k13c1 : Code := { maxStack := 3, maxLocals := 2, code := jdk_31_method_11_code, exceptionTable := #[], attributes := #[] }
def k13m1 : Method := { name := "requireNonNull", desc := "(Ljava/lang/Object;Ljava/lang/String;)Ljava/lang/Object;", sig := { parameters := [(.object "java/lang/Object"), (.object "java/lang/String")], returnType := some (.object "java/lang/Object") }, accessFlags := 9, code := some k13c1 }
/-- java/util/Objects -/
def k13 : Class := { plain "java/util/Objects" (some 0) with
  accessFlags := 49
  interfaces := #[]
  cf := some (fileOf pool13 42 #[] #[{ accessFlags := 2, nameIndex := 5, descriptorIndex := 6, attributes := #[] }, { accessFlags := 9, nameIndex := 45, descriptorIndex := 94, attributes := #[] }] 49 2 #[] #[])
  fields := #[]
  methods := #[k13m0, k13m1]
  instanceTypes := #[]
  staticTypes := #[]
  resolved := Array.replicate 184 none
  statics := none }

def pool14 : Array CpInfo := pool [(1, .methodref 2 3), (0, .class_ 4), (0, .nameAndType 5 6), (0, u "java/lang/Record"), (0, u "<init>"), (0, u "()V"), (0, .fieldref 8 9), (0, .class_ 10), (0, .nameAndType 11 12), (0, u "com/example/mergewell/mergewell/core/Slot"), (0, u "owner"), (0, u "Ljava/lang/String;"), (0, .fieldref 8 14), (0, .nameAndType 15 16), (0, u "feature"), (0, u "Lcom/example/mergewell/mergewell/core/Feature;"), (2, u "isRoot"), (0, u "()Z"), (26, u "(Ljava/lang/String;Lcom/example/mergewell/mergewell/core/Feature;)V"), (2, u "ROOT"), (0, u "Lcom/example/mergewell/mergewell/core/Slot;")] 40

def k14c0 : Code := { maxStack := 2, maxLocals := 3, code := prog_14_method_1_code, exceptionTable := #[], attributes := #[] }
def k14m0 : Method := { name := "<init>", desc := "(Ljava/lang/String;Lcom/example/mergewell/mergewell/core/Feature;)V", sig := { parameters := [(.object "java/lang/String"), (.object "com/example/mergewell/mergewell/core/Feature")], returnType := none }, accessFlags := 1, code := some k14c0 }
def k14c1 : Code := { maxStack := 1, maxLocals := 1, code := prog_14_method_2_code, exceptionTable := #[], attributes := #[] }
def k14m1 : Method := { name := "isRoot", desc := "()Z", sig := { parameters := [], returnType := some .boolean }, accessFlags := 1, code := some k14c1 }
/-- com/example/mergewell/mergewell/core/Slot -/
def k14 : Class := { plain "com/example/mergewell/mergewell/core/Slot" (some 11) with
  accessFlags := 49
  interfaces := #[]
  cf := some (fileOf pool14 8 #[] #[{ accessFlags := 1, nameIndex := 5, descriptorIndex := 47, attributes := #[] }, { accessFlags := 1, nameIndex := 19, descriptorIndex := 20, attributes := #[] }] 49 2 #[] #[{ accessFlags := 18, nameIndex := 11, descriptorIndex := 12, attributes := #[] }, { accessFlags := 18, nameIndex := 15, descriptorIndex := 16, attributes := #[] }, { accessFlags := 25, nameIndex := 50, descriptorIndex := 51, attributes := #[] }])
  fields := #[{ name := "owner", type := (.object "java/lang/String"), accessFlags := 18, slot := 0, constantValue := 0 }, { name := "feature", type := (.object "com/example/mergewell/mergewell/core/Feature"), accessFlags := 18, slot := 1, constantValue := 0 }, { name := "ROOT", type := (.object "com/example/mergewell/mergewell/core/Slot"), accessFlags := 25, slot := 0, constantValue := 0 }]
  methods := #[k14m0, k14m1]
  instanceTypes := #[(.object "java/lang/String"), (.object "com/example/mergewell/mergewell/core/Feature")]
  staticTypes := #[(.object "com/example/mergewell/mergewell/core/Slot")]
  resolved := Array.replicate 92 none
  statics := some 2 }

def pool15 : Array CpInfo := pool [(6, .class_ 8), (1, u "java/lang/Object"), (0, u "<init>"), (0, u "()V"), (1, .class_ 14), (1, u "java/lang/StringUTF16"), (31, u "$assertionsDisabled"), (0, u "Z"), (13, u "HI_BYTE_SHIFT"), (0, u "I"), (2, u "LO_BYTE_SHIFT"), (49, .methodref 12 116), (0, .nameAndType 117 118), (0, u "compress"), (0, u "([CI[BII)I"), (3, u "([CII)[B"), (138, u "coderFromArrayLen"), (0, u "([BI)B"), (106, .class_ 371), (1, u "java/lang/StringUTF16$LinesSpliterator"), (58, u "MAX_LENGTH"), (196, .class_ 628), (0, u "java/lang/StringUTF16$CodePointsSpliterator"), (0, .class_ 630), (0, u "java/lang/StringUTF16$CharsSpliterator")] 4

def k15m0 : Method := { name := "<init>", desc := "()V", sig := { parameters := [], returnType := none }, accessFlags := 0, code := none }
def k15c1 : Code := { maxStack := 2, maxLocals := 2, code := jdk_52_method_15_code, exceptionTable := #[], attributes := #[] }
def k15m1 : Method := { name := "coderFromArrayLen", desc := "([BI)B", sig := { parameters := [(.array .byte), .int], returnType := some .byte }, accessFlags := 8, code := some k15c1 }
def k15c2 : Code := { maxStack := 5, maxLocals := 6, code := jdk_52_method_16_code, exceptionTable := #[], attributes := #[] }
def k15m2 : Method := { name := "compress", desc := "([CII)[B", sig := { parameters := [(.array .char), .int, .int], returnType := some (.array .byte) }, accessFlags := 9, code := some k15c2 }
def k15c3 : Code := { maxStack := 3, maxLocals := 7, code := jdk_52_method_21_code, exceptionTable := #[], attributes := #[] }
def k15m3 : Method := { name := "compress", desc := "([CI[BII)I", sig := { parameters := [(.array .char), .int, (.array .byte), .int, .int], returnType := some .int }, accessFlags := 9, code := some k15c3 }
/-- java/lang/StringUTF16 -/
def k15 : Class := { plain "java/lang/StringUTF16" (some 0) with
  accessFlags := 48
  interfaces := #[]
  cf := some (fileOf pool15 12 #[.nestMembers #[627, 629, 369]] #[{ accessFlags := 0, nameIndex := 9, descriptorIndex := 10, attributes := #[] }, { accessFlags := 8, nameIndex := 261, descriptorIndex := 262, attributes := #[] }, { accessFlags := 9, nameIndex := 117, descriptorIndex := 122, attributes := #[] }, { accessFlags := 9, nameIndex := 117, descriptorIndex := 118, attributes := #[] }] 48 6 #[] #[{ accessFlags := 26, nameIndex := 61, descriptorIndex := 62, attributes := #[] }, { accessFlags := 26, nameIndex := 65, descriptorIndex := 62, attributes := #[] }, { accessFlags := 24, nameIndex := 430, descriptorIndex := 62, attributes := #[] }, { accessFlags := 4120, nameIndex := 46, descriptorIndex := 47, attributes := #[] }])
  fields := #[{ name := "HI_BYTE_SHIFT", type := .int, accessFlags := 26, slot := 0, constantValue := 0 }, { name := "LO_BYTE_SHIFT", type := .int, accessFlags := 26, slot := 1, constantValue := 0 }, { name := "MAX_LENGTH", type := .int, accessFlags := 24, slot := 2, constantValue := 0 }, { name := "$assertionsDisabled", type := .boolean, accessFlags := 4120, slot := 3, constantValue := 0 }]
  methods := #[k15m0, k15m1, k15m2, k15m3]
  instanceTypes := #[]
  staticTypes := #[.int, .int, .int, .boolean]
  resolved := Array.replicate 635 none
  statics := none }

def pool16 : Array CpInfo := pool [(2, .class_ 4), (1, u "java/lang/Object"), (0, u "<init>"), (0, u "()V"), (17, .class_ 26), (1, u "jdk/internal/util/Preconditions"), (28, .class_ 56), (0, u "jdk/internal/util/Preconditions$4"), (57, .class_ 115), (0, u "jdk/internal/util/Preconditions$1"), (7, u "SIOOBE_FORMATTER"), (0, u "Ljava/util/function/BiFunction;"), (0, .class_ 126), (0, u "jdk/internal/util/Preconditions$2"), (3, u "AIOOBE_FORMATTER"), (0, .class_ 132), (0, u "jdk/internal/util/Preconditions$3"), (3, u "IOOBE_FORMATTER")] 57

def k16m0 : Method := { name := "<init>", desc := "()V", sig := { parameters := [], returnType := none }, accessFlags := 1, code := none }
/-- jdk/internal/util/Preconditions -/
def k16 : Class := { plain "jdk/internal/util/Preconditions" (some 0) with
  accessFlags := 33
  interfaces := #[]
  cf := some (fileOf pool16 24 #[.nestMembers #[55, 131, 125, 114]] #[{ accessFlags := 1, nameIndex := 5, descriptorIndex := 6, attributes := #[] }] 33 2 #[] #[{ accessFlags := 25, nameIndex := 123, descriptorIndex := 124, attributes := #[] }, { accessFlags := 25, nameIndex := 130, descriptorIndex := 124, attributes := #[] }, { accessFlags := 25, nameIndex := 136, descriptorIndex := 124, attributes := #[] }])
  fields := #[{ name := "SIOOBE_FORMATTER", type := (.object "java/util/function/BiFunction"), accessFlags := 25, slot := 0, constantValue := 0 }, { name := "AIOOBE_FORMATTER", type := (.object "java/util/function/BiFunction"), accessFlags := 25, slot := 1, constantValue := 0 }, { name := "IOOBE_FORMATTER", type := (.object "java/util/function/BiFunction"), accessFlags := 25, slot := 2, constantValue := 0 }]
  methods := #[k16m0]
  instanceTypes := #[]
  staticTypes := #[(.object "java/util/function/BiFunction"), (.object "java/util/function/BiFunction"), (.object "java/util/function/BiFunction")]
  resolved := Array.replicate 194 none
  statics := some 3 }

def pool17 : Array CpInfo := pool [(9, u "<init>"), (6, .class_ 18), (1, u "java/lang/Object"), (0, u "()V"), (1, .class_ 23), (1, u "jdk/internal/util/ArraysSupport"), (0, u "LOG2_ARRAY_LONG_INDEX_SCALE"), (0, u "I"), (2, u "U"), (0, u "Ljdk/internal/misc/Unsafe;"), (8, u "BIG_ENDIAN"), (0, u "Z"), (8, u "LOG2_BYTE_BIT_SIZE"), (4, u "LOG2_ARRAY_INT_INDEX_SCALE"), (54, u "JLA"), (0, u "Ljdk/internal/access/JavaLangAccess;"), (11, u "LOG2_ARRAY_BOOLEAN_INDEX_SCALE"), (9, u "LOG2_ARRAY_BYTE_INDEX_SCALE"), (5, u "LOG2_ARRAY_CHAR_INDEX_SCALE"), (5, u "LOG2_ARRAY_SHORT_INDEX_SCALE"), (18, u "LOG2_ARRAY_FLOAT_INDEX_SCALE"), (24, u "LOG2_ARRAY_DOUBLE_INDEX_SCALE"), (89, u "T_BOOLEAN"), (2, u "T_CHAR"), (1, u "T_FLOAT"), (1, u "T_DOUBLE"), (1, u "T_BYTE"), (1, u "T_SHORT"), (1, u "T_INT"), (1, u "T_LONG"), (1, u "SOFT_MAX_ARRAY_LENGTH")] 83

def k17m0 : Method := { name := "<init>", desc := "()V", sig := { parameters := [], returnType := none }, accessFlags := 2, code := none }
/-- jdk/internal/util/ArraysSupport -/
def k17 : Class := { plain "jdk/internal/util/ArraysSupport" (some 0) with
  accessFlags := 33
  interfaces := #[]
  cf := some (fileOf pool17 21 #[] #[{ accessFlags := 2, nameIndex := 9, descriptorIndex := 19, attributes := #[] }] 33 16 #[] #[{ accessFlags := 24, nameIndex := 28, descriptorIndex := 29, attributes := #[] }, { accessFlags := 26, nameIndex := 38, descriptorIndex := 39, attributes := #[] }, { accessFlags := 25, nameIndex := 121, descriptorIndex := 25, attributes := #[] }, { accessFlags := 25, nameIndex := 131, descriptorIndex := 25, attributes := #[] }, { accessFlags := 25, nameIndex := 137, descriptorIndex := 25, attributes := #[] }, { accessFlags := 25, nameIndex := 143, descriptorIndex := 25, attributes := #[] }, { accessFlags := 25, nameIndex := 53, descriptorIndex := 25, attributes := #[] }, { accessFlags := 25, nameIndex := 24, descriptorIndex := 25, attributes := #[] }, { accessFlags := 25, nameIndex := 162, descriptorIndex := 25, attributes := #[] }, { accessFlags := 25, nameIndex := 187, descriptorIndex := 25, attributes := #[] }, { accessFlags := 26, nameIndex := 48, descriptorIndex := 25, attributes := #[] }, { accessFlags := 25, nameIndex := 277, descriptorIndex := 25, attributes := #[] }, { accessFlags := 25, nameIndex := 280, descriptorIndex := 25, attributes := #[] }, { accessFlags := 25, nameIndex := 282, descriptorIndex := 25, attributes := #[] }, { accessFlags := 25, nameIndex := 284, descriptorIndex := 25, attributes := #[] }, { accessFlags := 25, nameIndex := 286, descriptorIndex := 25, attributes := #[] }, { accessFlags := 25, nameIndex := 288, descriptorIndex := 25, attributes := #[] }, { accessFlags := 25, nameIndex := 290, descriptorIndex := 25, attributes := #[] }, { accessFlags := 25, nameIndex := 292, descriptorIndex := 25, attributes := #[] }, { accessFlags := 26, nameIndex := 108, descriptorIndex := 109, attributes := #[] }, { accessFlags := 25, nameIndex := 294, descriptorIndex := 25, attributes := #[] }])
  fields := #[{ name := "U", type := (.object "jdk/internal/misc/Unsafe"), accessFlags := 24, slot := 0, constantValue := 0 }, { name := "BIG_ENDIAN", type := .boolean, accessFlags := 26, slot := 1, constantValue := 0 }, { name := "LOG2_ARRAY_BOOLEAN_INDEX_SCALE", type := .int, accessFlags := 25, slot := 2, constantValue := 0 }, { name := "LOG2_ARRAY_BYTE_INDEX_SCALE", type := .int, accessFlags := 25, slot := 3, constantValue := 0 }, { name := "LOG2_ARRAY_CHAR_INDEX_SCALE", type := .int, accessFlags := 25, slot := 4, constantValue := 0 }, { name := "LOG2_ARRAY_SHORT_INDEX_SCALE", type := .int, accessFlags := 25, slot := 5, constantValue := 0 }, { name := "LOG2_ARRAY_INT_INDEX_SCALE", type := .int, accessFlags := 25, slot := 6, constantValue := 0 }, { name := "LOG2_ARRAY_LONG_INDEX_SCALE", type := .int, accessFlags := 25, slot := 7, constantValue := 0 }, { name := "LOG2_ARRAY_FLOAT_INDEX_SCALE", type := .int, accessFlags := 25, slot := 8, constantValue := 0 }, { name := "LOG2_ARRAY_DOUBLE_INDEX_SCALE", type := .int, accessFlags := 25, slot := 9, constantValue := 0 }, { name := "LOG2_BYTE_BIT_SIZE", type := .int, accessFlags := 26, slot := 10, constantValue := 0 }, { name := "T_BOOLEAN", type := .int, accessFlags := 25, slot := 11, constantValue := 0 }, { name := "T_CHAR", type := .int, accessFlags := 25, slot := 12, constantValue := 0 }, { name := "T_FLOAT", type := .int, accessFlags := 25, slot := 13, constantValue := 0 }, { name := "T_DOUBLE", type := .int, accessFlags := 25, slot := 14, constantValue := 0 }, { name := "T_BYTE", type := .int, accessFlags := 25, slot := 15, constantValue := 0 }, { name := "T_SHORT", type := .int, accessFlags := 25, slot := 16, constantValue := 0 }, { name := "T_INT", type := .int, accessFlags := 25, slot := 17, constantValue := 0 }, { name := "T_LONG", type := .int, accessFlags := 25, slot := 18, constantValue := 0 }, { name := "JLA", type := (.object "jdk/internal/access/JavaLangAccess"), accessFlags := 26, slot := 19, constantValue := 0 }, { name := "SOFT_MAX_ARRAY_LENGTH", type := .int, accessFlags := 25, slot := 20, constantValue := 0 }]
  methods := #[k17m0]
  instanceTypes := #[]
  staticTypes := #[(.object "jdk/internal/misc/Unsafe"), .boolean, .int, .int, .int, .int, .int, .int, .int, .int, .int, .int, .int, .int, .int, .int, .int, .int, .int, (.object "jdk/internal/access/JavaLangAccess"), .int]
  resolved := Array.replicate 378 none
  statics := none }

def pool18 : Array CpInfo := pool [(1, u "java/lang/Cloneable"), (0, .class_ 1), (0, u "java/lang/Object"), (0, .class_ 3)] 3

/-- java/lang/Cloneable -/
def k18 : Class := { plain "java/lang/Cloneable" (some 0) with
  accessFlags := 1537
  interfaces := #[]
  cf := some (fileOf pool18 2 #[] #[] 1537 4 #[] #[])
  fields := #[]
  methods := #[]
  instanceTypes := #[]
  staticTypes := #[]
  resolved := Array.replicate 8 none
  statics := none }

/-- the primitive byte -/
def k19 : Class := { plain "byte" none with kind := .primitive 'B', accessFlags := 0x411 }
/-- [B -/
def k20 : Class := { plain "[B" (some 0) with kind := .array 19 .byte, interfaces := #[18, 2], accessFlags := 1041 }

/-- the primitive char -/
def k21 : Class := { plain "char" none with kind := .primitive 'C', accessFlags := 0x411 }
/-- [C -/
def k22 : Class := { plain "[C" (some 0) with kind := .array 21 .char, interfaces := #[18, 2], accessFlags := 1041 }

/-- the primitive int -/
def k23 : Class := { plain "int" none with kind := .primitive 'I', accessFlags := 0x411 }
/-- [I -/
def k24 : Class := { plain "[I" (some 0) with kind := .array 23 .int, interfaces := #[18, 2], accessFlags := 1041 }

def heap : Heap := #[{ cls := 7, slots := #[.long 0, .int 1, .null, .int 0, .null, .int 0, .int 0], vm := .statics 7 },
  { cls := 10, slots := #[.ref 4, .ref 7, .ref 6, .null], vm := .statics 10 },
  { cls := 14, slots := #[.ref 5], vm := .statics 14 },
  { cls := 16, slots := #[.null, .null, .null], vm := .statics 16 },
  { cls := 10, slots := #[.null, .int 0, .int 0], vm := .none },
  { cls := 14, slots := #[.null, .null], vm := .none },
  { cls := 10, slots := #[.null, .int 0, .int 0], vm := .none },
  { cls := 10, slots := #[.null, .int 0, .int 0], vm := .none }]
def classes : Array Class := #[k0, k1, k2, k3, k4, k5, k6, k7, k8, k9, k10, k11, k12, k13, k14, k15, k16, k17, k18, k19, k20, k21, k22, k23, k24]
def interned : List (Array UInt16 × Addr) := []
def slotsUsed : Nat := 26
def theMethod : MethodId := ⟨1, 1⟩
def args0 : Array Value := #[.int 5, .int 6, .int 7, .int 8]
def aboutOver (below : List Frame) : State where
  vm := { classes := classes, interned := interned.toArray }
  heap := heap
  slotsUsed := slotsUsed
  threads := #[{ frames := .invoking theMethod args0 :: below }]
def below0 : List Frame := [.native { method := ⟨0, 0⟩, args := #[] }]
def about1 : State := aboutOver below0
def p0 : Program := .bare "" "" ""
def e0 : Env := launch0.env 0 0 0
theorem w_frames : about1.frames = Frame.invoking theMethod args0 :: below0 := rfl
set_option maxRecDepth 65536 in
theorem w_args : argsFit about1.vm theMethod args0 = true := by decide +kernel
set_option maxRecDepth 65536 in
theorem w_heap : heapFits about1 = true := by decide +kernel
set_option maxRecDepth 65536 in
theorem w_runnable : about1.curStatus? = some .runnable := by decide +kernel
set_option maxRecDepth 65536 in
theorem w_alone : about1.alone = true := by decide +kernel
set_option maxRecDepth 65536 in
theorem w_named : about1.methodNamed? x = some theMethod := by decide +kernel
set_option maxRecDepth 65536 in
theorem w_hears : about1.hears theMethod below0 = true := by decide +kernel
set_option maxRecDepth 65536 in
theorem w_ripe : about1.ripe theMethod args0 below0 = true := by decide +kernel
theorem w_running : about1.status = .running := rfl
set_option maxRecDepth 65536 in
theorem w_room : about1.hasRoom e0.platform room_1 = true :=
  launch0.hasRoom_least _ room_1 (by decide +kernel) (by decide +kernel) (by decide +kernel) (by decide +kernel) (by decide +kernel) (by decide +kernel)
theorem allAtoms_all (ts : List Jvm.Cond) (a : Array Jvm.Value) (st : Jvm.State) : (allAtoms ts).before a st = ts.all (fun c => c.before a st) := by
  induction ts with
  | nil => rfl
  | cons c t ih =>
    show (Jvm.Cond.and c (allAtoms t)).before a st = _
    rw [Jvm.Cond.before_and, ih, List.all_cons]
def words1 : List Jvm.Cond := Jvm.Cond.code x code maxLocals ret :: tables_1
/-- a 'code' word, met by the world's own term for the bytes: nothing is compared byte by byte -/
theorem code_word {y : MethodName} {bytes : ByteArray} {mx : Nat} {rt : Option FieldType} {a : Array Value} {s : State} {m : MethodId} {meth : Method} {c : Code} (h1 : s.methodNamed? y = some m) (h2 : s.vm.method? m = some meth) (h3 : meth.code = some c) (h4 : c.code = bytes)
    (h5 : (c.maxLocals == mx && c.exceptionTable.isEmpty && decide (c.maxStack ≤ mostOperands) && decide (meth.sig.returnType = rt) && !meth.locks && decide (parseMethodDescriptor y.desc = some meth.sig)) = true) : (Jvm.Cond.code y bytes mx rt).before a s = true := by
  simp only [Bool.and_eq_true, beq_iff_eq, Bool.not_eq_true', decide_eq_true_eq] at h5
  obtain ⟨⟨⟨⟨⟨g1, g2⟩, g3⟩, g4⟩, g5⟩, g6⟩ := h5
  simp [Cond.before, Cond.holds, Cond.value, h1, h2, h3, h4, g1, g2, g3, g4, g5, g6]
def isCode : Jvm.Cond → Bool
  | .code _ _ _ _ => true
  | _ => false
theorem all_split {L : List Jvm.Cond} {P : Jvm.Cond → Bool} (h1 : L.all (fun c => isCode c || P c) = true) (h2 : ∀ c ∈ L.filter isCode, P c = true) : L.all P = true := by
  refine List.all_eq_true.mpr fun c hc => ?_
  have h := List.all_eq_true.mp h1 c hc
  rcases Bool.eq_false_or_eq_true (isCode c) with hi | hi
  · exact h2 c (List.mem_filter.mpr ⟨hc, hi⟩)
  · simpa [hi] using h
set_option maxRecDepth 65536 in
theorem w_c0 : (Jvm.Cond.code x code maxLocals ret).before args0 about1 = true := code_word (m := ⟨1, 1⟩) (meth := k1m1) (c := k1c1) (by decide +kernel) rfl rfl rfl (by decide +kernel)
set_option maxRecDepth 65536 in
theorem w_c1 : (Jvm.Cond.code ({ cls := "java/lang/String", name := "valueOf", desc := "(C)Ljava/lang/String;" } : Jvm.MethodName) jdk_42_method_139_code (1 : Nat) (Option.some (Jvm.ClassFile.FieldType.object "java/lang/String"))).before args0 about1 = true := code_word (m := ⟨7, 2⟩) (meth := k7m2) (c := k7c2) (by decide +kernel) rfl rfl rfl (by decide +kernel)
set_option maxRecDepth 65536 in
theorem w_c2 : (Jvm.Cond.code ({ cls := "java/lang/StringLatin1", name := "canEncode", desc := "(C)Z" } : Jvm.MethodName) jdk_43_method_3_code (1 : Nat) (Option.some Jvm.ClassFile.FieldType.boolean)).before args0 about1 = true := code_word (m := ⟨8, 1⟩) (meth := k8m1) (c := k8c1) (by decide +kernel) rfl rfl rfl (by decide +kernel)
set_option maxRecDepth 65536 in
theorem w_c3 : (Jvm.Cond.code ({ cls := "java/lang/StringLatin1", name := "toBytes", desc := "(C)[B" } : Jvm.MethodName) jdk_43_method_46_code (1 : Nat) (Option.some (Jvm.ClassFile.FieldType.array Jvm.ClassFile.FieldType.byte))).before args0 about1 = true := code_word (m := ⟨8, 2⟩) (meth := k8m2) (c := k8c2) (by decide +kernel) rfl rfl rfl (by decide +kernel)
set_option maxRecDepth 65536 in
theorem w_c4 : (Jvm.Cond.code ({ cls := "java/lang/String", name := "<init>", desc := "([BB)V" } : Jvm.MethodName) jdk_42_method_151_code (3 : Nat) (Option.none : Option Jvm.ClassFile.FieldType)).before args0 about1 = true := code_word (m := ⟨7, 4⟩) (meth := k7m4) (c := k7c4) (by decide +kernel) rfl rfl rfl (by decide +kernel)
set_option maxRecDepth 65536 in
theorem w_c5 : (Jvm.Cond.code ({ cls := "java/lang/Object", name := "<init>", desc := "()V" } : Jvm.MethodName) object_method_1_code (1 : Nat) (Option.none : Option Jvm.ClassFile.FieldType)).before args0 about1 = true := code_word (m := ⟨0, 0⟩) (meth := k0m0) (c := k0c0) (by decide +kernel) rfl rfl rfl (by decide +kernel)
set_option maxRecDepth 65536 in
theorem w_c6 : (Jvm.Cond.code ({ cls := "com/example/mergewell/mergewell/core/Feature", name := "<init>", desc := "(Ljava/lang/String;Lcom/example/mergewell/mergewell/core/Feature$Kind;Z)V" } : Jvm.MethodName) prog_6_method_3_code (4 : Nat) (Option.none : Option Jvm.ClassFile.FieldType)).before args0 about1 = true := code_word (m := ⟨12, 2⟩) (meth := k12m2) (c := k12c2) (by decide +kernel) rfl rfl rfl (by decide +kernel)
set_option maxRecDepth 65536 in
theorem w_c7 : (Jvm.Cond.code ({ cls := "com/example/mergewell/mergewell/core/Feature", name := "<init>", desc := "(Ljava/lang/String;Lcom/example/mergewell/mergewell/core/Feature$Kind;ZZ)V" } : Jvm.MethodName) prog_6_method_2_code (5 : Nat) (Option.none : Option Jvm.ClassFile.FieldType)).before args0 about1 = true := code_word (m := ⟨12, 1⟩) (meth := k12m1) (c := k12c1) (by decide +kernel) rfl rfl rfl (by decide +kernel)
set_option maxRecDepth 65536 in
theorem w_c8 : (Jvm.Cond.code ({ cls := "com/example/mergewell/mergewell/core/Feature", name := "<init>", desc := "(Ljava/lang/String;Lcom/example/mergewell/mergewell/core/Feature$Kind;ZZLjava/lang/String;)V" } : Jvm.MethodName) prog_6_method_1_code (6 : Nat) (Option.none : Option Jvm.ClassFile.FieldType)).before args0 about1 = true := code_word (m := ⟨12, 0⟩) (meth := k12m0) (c := k12c0) (by decide +kernel) rfl rfl rfl (by decide +kernel)
set_option maxRecDepth 65536 in
theorem w_c9 : (Jvm.Cond.code ({ cls := "java/lang/Record", name := "<init>", desc := "()V" } : Jvm.MethodName) jdk_30_method_1_code (1 : Nat) (Option.none : Option Jvm.ClassFile.FieldType)).before args0 about1 = true := code_word (m := ⟨11, 0⟩) (meth := k11m0) (c := k11c0) (by decide +kernel) rfl rfl rfl (by decide +kernel)
set_option maxRecDepth 65536 in
theorem w_c10 : (Jvm.Cond.code ({ cls := "java/util/Objects", name := "requireNonNull", desc := "(Ljava/lang/Object;Ljava/lang/String;)Ljava/lang/Object;" } : Jvm.MethodName) jdk_31_method_11_code (2 : Nat) (Option.some (Jvm.ClassFile.FieldType.object "java/lang/Object"))).before args0 about1 = true := code_word (m := ⟨13, 1⟩) (meth := k13m1) (c := k13c1) (by decide +kernel) rfl rfl rfl (by decide +kernel)
set_option maxRecDepth 65536 in
theorem w_c11 : (Jvm.Cond.code ({ cls := "com/example/mergewell/mergewell/core/Slot", name := "<init>", desc := "(Ljava/lang/String;Lcom/example/mergewell/mergewell/core/Feature;)V" } : Jvm.MethodName) prog_14_method_1_code (3 : Nat) (Option.none : Option Jvm.ClassFile.FieldType)).before args0 about1 = true := code_word (m := ⟨14, 0⟩) (meth := k14m0) (c := k14c0) (by decide +kernel) rfl rfl rfl (by decide +kernel)
set_option maxRecDepth 65536 in
theorem w_c12 : (Jvm.Cond.code ({ cls := "com/example/mergewell/mergewell/core/Slot", name := "isRoot", desc := "()Z" } : Jvm.MethodName) prog_14_method_2_code (1 : Nat) (Option.some Jvm.ClassFile.FieldType.boolean)).before args0 about1 = true := code_word (m := ⟨14, 1⟩) (meth := k14m1) (c := k14c1) (by decide +kernel) rfl rfl rfl (by decide +kernel)
set_option maxRecDepth 65536 in
theorem w_c13 : (Jvm.Cond.code ({ cls := "java/lang/String", name := "<init>", desc := "([C)V" } : Jvm.MethodName) jdk_42_method_3_code (2 : Nat) (Option.none : Option Jvm.ClassFile.FieldType)).before args0 about1 = true := code_word (m := ⟨7, 1⟩) (meth := k7m1) (c := k7c1) (by decide +kernel) rfl rfl rfl (by decide +kernel)
set_option maxRecDepth 65536 in
theorem w_c14 : (Jvm.Cond.code ({ cls := "java/lang/String", name := "<init>", desc := "([CIILjava/lang/Void;)V" } : Jvm.MethodName) jdk_42_method_149_code (6 : Nat) (Option.none : Option Jvm.ClassFile.FieldType)).before args0 about1 = true := code_word (m := ⟨7, 3⟩) (meth := k7m3) (c := k7c3) (by decide +kernel) rfl rfl rfl (by decide +kernel)
set_option maxRecDepth 65536 in
theorem w_c15 : (Jvm.Cond.code ({ cls := "java/lang/StringUTF16", name := "compress", desc := "([CII)[B" } : Jvm.MethodName) jdk_52_method_16_code (6 : Nat) (Option.some (Jvm.ClassFile.FieldType.array Jvm.ClassFile.FieldType.byte))).before args0 about1 = true := code_word (m := ⟨15, 2⟩) (meth := k15m2) (c := k15c2) (by decide +kernel) rfl rfl rfl (by decide +kernel)
set_option maxRecDepth 65536 in
theorem w_c16 : (Jvm.Cond.code ({ cls := "java/lang/StringUTF16", name := "compress", desc := "([CI[BII)I" } : Jvm.MethodName) jdk_52_method_21_code (7 : Nat) (Option.some Jvm.ClassFile.FieldType.int)).before args0 about1 = true := code_word (m := ⟨15, 3⟩) (meth := k15m3) (c := k15c3) (by decide +kernel) rfl rfl rfl (by decide +kernel)
set_option maxRecDepth 65536 in
theorem w_c17 : (Jvm.Cond.code ({ cls := "java/lang/StringUTF16", name := "coderFromArrayLen", desc := "([BI)B" } : Jvm.MethodName) jdk_52_method_15_code (2 : Nat) (Option.some Jvm.ClassFile.FieldType.byte)).before args0 about1 = true := code_word (m := ⟨15, 1⟩) (meth := k15m1) (c := k15c1) (by decide +kernel) rfl rfl rfl (by decide +kernel)
def codes1 : List Jvm.Cond := [Jvm.Cond.code x code maxLocals ret, Jvm.Cond.code ({ cls := "java/lang/String", name := "valueOf", desc := "(C)Ljava/lang/String;" } : Jvm.MethodName) jdk_42_method_139_code (1 : Nat) (Option.some (Jvm.ClassFile.FieldType.object "java/lang/String")), Jvm.Cond.code ({ cls := "java/lang/StringLatin1", name := "canEncode", desc := "(C)Z" } : Jvm.MethodName) jdk_43_method_3_code (1 : Nat) (Option.some Jvm.ClassFile.FieldType.boolean), Jvm.Cond.code ({ cls := "java/lang/StringLatin1", name := "toBytes", desc := "(C)[B" } : Jvm.MethodName) jdk_43_method_46_code (1 : Nat) (Option.some (Jvm.ClassFile.FieldType.array Jvm.ClassFile.FieldType.byte)), Jvm.Cond.code ({ cls := "java/lang/String", name := "<init>", desc := "([BB)V" } : Jvm.MethodName) jdk_42_method_151_code (3 : Nat) (Option.none : Option Jvm.ClassFile.FieldType), Jvm.Cond.code ({ cls := "java/lang/Object", name := "<init>", desc := "()V" } : Jvm.MethodName) object_method_1_code (1 : Nat) (Option.none : Option Jvm.ClassFile.FieldType), Jvm.Cond.code ({ cls := "com/example/mergewell/mergewell/core/Feature", name := "<init>", desc := "(Ljava/lang/String;Lcom/example/mergewell/mergewell/core/Feature$Kind;Z)V" } : Jvm.MethodName) prog_6_method_3_code (4 : Nat) (Option.none : Option Jvm.ClassFile.FieldType), Jvm.Cond.code ({ cls := "com/example/mergewell/mergewell/core/Feature", name := "<init>", desc := "(Ljava/lang/String;Lcom/example/mergewell/mergewell/core/Feature$Kind;ZZ)V" } : Jvm.MethodName) prog_6_method_2_code (5 : Nat) (Option.none : Option Jvm.ClassFile.FieldType), Jvm.Cond.code ({ cls := "com/example/mergewell/mergewell/core/Feature", name := "<init>", desc := "(Ljava/lang/String;Lcom/example/mergewell/mergewell/core/Feature$Kind;ZZLjava/lang/String;)V" } : Jvm.MethodName) prog_6_method_1_code (6 : Nat) (Option.none : Option Jvm.ClassFile.FieldType), Jvm.Cond.code ({ cls := "java/lang/Record", name := "<init>", desc := "()V" } : Jvm.MethodName) jdk_30_method_1_code (1 : Nat) (Option.none : Option Jvm.ClassFile.FieldType), Jvm.Cond.code ({ cls := "java/util/Objects", name := "requireNonNull", desc := "(Ljava/lang/Object;Ljava/lang/String;)Ljava/lang/Object;" } : Jvm.MethodName) jdk_31_method_11_code (2 : Nat) (Option.some (Jvm.ClassFile.FieldType.object "java/lang/Object")), Jvm.Cond.code ({ cls := "com/example/mergewell/mergewell/core/Slot", name := "<init>", desc := "(Ljava/lang/String;Lcom/example/mergewell/mergewell/core/Feature;)V" } : Jvm.MethodName) prog_14_method_1_code (3 : Nat) (Option.none : Option Jvm.ClassFile.FieldType), Jvm.Cond.code ({ cls := "com/example/mergewell/mergewell/core/Slot", name := "isRoot", desc := "()Z" } : Jvm.MethodName) prog_14_method_2_code (1 : Nat) (Option.some Jvm.ClassFile.FieldType.boolean), Jvm.Cond.code ({ cls := "java/lang/String", name := "<init>", desc := "([C)V" } : Jvm.MethodName) jdk_42_method_3_code (2 : Nat) (Option.none : Option Jvm.ClassFile.FieldType), Jvm.Cond.code ({ cls := "java/lang/String", name := "<init>", desc := "([CIILjava/lang/Void;)V" } : Jvm.MethodName) jdk_42_method_149_code (6 : Nat) (Option.none : Option Jvm.ClassFile.FieldType), Jvm.Cond.code ({ cls := "java/lang/StringUTF16", name := "compress", desc := "([CII)[B" } : Jvm.MethodName) jdk_52_method_16_code (6 : Nat) (Option.some (Jvm.ClassFile.FieldType.array Jvm.ClassFile.FieldType.byte)), Jvm.Cond.code ({ cls := "java/lang/StringUTF16", name := "compress", desc := "([CI[BII)I" } : Jvm.MethodName) jdk_52_method_21_code (7 : Nat) (Option.some Jvm.ClassFile.FieldType.int), Jvm.Cond.code ({ cls := "java/lang/StringUTF16", name := "coderFromArrayLen", desc := "([BI)B" } : Jvm.MethodName) jdk_52_method_15_code (2 : Nat) (Option.some Jvm.ClassFile.FieldType.byte)]
set_option maxRecDepth 65536 in
theorem codes_eq : words1.filter isCode = codes1 := rfl
theorem w_codes : ∀ c ∈ words1.filter isCode, c.before args0 about1 = true := by
  rw [codes_eq]
  intro c hc
  simp only [codes1, List.mem_cons, List.not_mem_nil, or_false] at hc
  rcases hc with rfl | rfl | rfl | rfl | rfl | rfl | rfl | rfl | rfl | rfl | rfl | rfl | rfl | rfl | rfl | rfl | rfl | rfl
  · exact w_c0
  · exact w_c1
  · exact w_c2
  · exact w_c3
  · exact w_c4
  · exact w_c5
  · exact w_c6
  · exact w_c7
  · exact w_c8
  · exact w_c9
  · exact w_c10
  · exact w_c11
  · exact w_c12
  · exact w_c13
  · exact w_c14
  · exact w_c15
  · exact w_c16
  · exact w_c17
set_option maxRecDepth 65536 in
theorem w_t1 : (words1.take 24).all (fun c => isCode c || c.before args0 about1) = true := by decide +kernel
set_option maxRecDepth 65536 in
theorem w_t2 : ((words1.drop 24).take 24).all (fun c => isCode c || c.before args0 about1) = true := by decide +kernel
set_option maxRecDepth 65536 in
theorem w_t3 : (((words1.drop 24).drop 24).take 24).all (fun c => isCode c || c.before args0 about1) = true := by decide +kernel
set_option maxRecDepth 65536 in
theorem w_t4 : ((((words1.drop 24).drop 24).drop 24).take 24).all (fun c => isCode c || c.before args0 about1) = true := by decide +kernel
set_option maxRecDepth 65536 in
theorem w_t5 : ((((words1.drop 24).drop 24).drop 24).drop 24).all (fun c => isCode c || c.before args0 about1) = true := by decide +kernel
theorem w_tables : (allAtoms (Jvm.Cond.code x code maxLocals ret :: tables_1)).before args0 about1 = true := by
  rw [allAtoms_all]
  show words1.all (fun c => c.before args0 about1) = true
  refine all_split ?_ w_codes
  rw [← List.take_append_drop 24 words1, List.all_append, w_t1, ← List.take_append_drop 24 (words1.drop 24), List.all_append, w_t2, ← List.take_append_drop 24 ((words1.drop 24).drop 24), List.all_append, w_t3, ← List.take_append_drop 24 (((words1.drop 24).drop 24).drop 24), List.all_append, w_t4, w_t5]
  rfl
set_option maxRecDepth 65536 in
theorem w_rest : rest_1_c.before args0 about1 = true := by decide +kernel
set_option maxRecDepth 65536 in
theorem w_case : (Jvm.Cond.and given_1 narrow_1).before args0 about1 = true := by decide +kernel
set_option maxRecDepth 65536 in
theorem w_consts : constsHeld consts_1 about1 := Jvm.Lit.constsHeldB_iff.mp (by decide +kernel)
theorem w_applies : (headSpec (Jvm.Cond.code x code maxLocals ret :: tables_1) room_1).applies x e0.platform about1 = true :=
  (Spec.applies_iff w_frames).mpr ⟨w_running, w_runnable, w_alone, w_named, w_hears, w_ripe, w_room, w_tables⟩
theorem atStart : AtStart classFile x code maxLocals ret World_1 tables_1 room_1 Calls_1 rest_1 Pre_1 launch0 p0 e0 about1 theMethod args0 below0 :=
  ⟨lists_1, trivial, launch0.admits_env _ _ _, launch0.least_env, fairChoices_fair.cas, fairChoices_fair.clock, w_frames, w_args, w_heap, w_applies, ⟨w_consts, trivial⟩, w_rest, w_case⟩
end start1
theorem witness_1 : WitnessClaimed_1 := ⟨start1.p0, start1.e0, start1.about1, start1.theMethod, start1.args0, start1.below0, start1.atStart⟩
end Jvm.Pilot.@@N@@
