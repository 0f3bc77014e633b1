import JvmDerived
import JvmDerived.Pilot.@@N@@Statement
import JvmDerived.Pilot.@@N@@Code
set_option linter.unusedVariables false
set_option linter.unusedSimpArgs false
namespace Jvm.RoadKit
open Sem ClassFile Op Lib Jvm.Stand Jvm.Free Jvm.LawKit
section Own
variable {p : Program} {l : Launch} {e : Env} {R : Room} {s : State} {m : MethodId} {args : Array Value} {below : List Frame} {meth : Method} {c : Code} {T : State} {locs : List Loc} {cells slots : Nat} {Z : State} {h h' : Heap}
/-- from U the run comes to an end that G allows -/
def Go (p : Program) (e : Env) (below : List Frame) (G : Outcome → State → Prop) (U : State) : Prop := ∃ s₂ o, Steps p.tables e below U s₂ ∧ s₂.status = .running ∧ Ended s₂ below o ∧ G o s₂
theorem Go.st {G : Outcome → State → Prop} {U V : State} (h : ∀ t, Steps p.tables e below V t → Steps p.tables e below U t) (k : Go p e below G V) : Go p e below G U := by
  obtain ⟨s₂, o, a, r⟩ := k; exact ⟨s₂, o, h _ a, r⟩
theorem Go.tr {G : Outcome → State → Prop} {U V : State} (h : Steps p.tables e below U V) (k : Go p e below G V) : Go p e below G U := by
  obtain ⟨s₂, o, a, r⟩ := k; exact ⟨s₂, o, h.trans a, r⟩
theorem Go.en {G : Outcome → State → Prop} {g g' : JFrame} (q : g = g') (k : Go p e below G (T.setTop g')) : Go p e below G (T.setTop g) := q ▸ k
theorem Go.ret {Q : Option Value → Heap → List Loc → Prop} {K N : Nat} {U : State} (X : Stand p l e R s m args below meth c T locs cells slots) {v : Option Value} (hv : meth.sig.returnType = none → v = none) (hlk : meth.locks = false)
    (st : ∀ fs, (∀ (f : JFrame) (acts : List Action), f.method = m → f.locked = none → f.entered = [] → (doReturn e (T.setTop f) acts v).1 = T.setFrames fs) → Steps p.tables e below U (T.setFrames fs)) (eT : T.heap = h) (hQ : Q v h locs) (hk : cells ≤ K) (hn : slots ≤ N) :
    Go p e below (fun o s₂ => ∃ v L, o = .returned v ∧ Q v s₂.heap L ∧ FrameEnd s o s₂ L K N) U := by
  subst eT
  obtain ⟨fs, hr, hrun, hended, hW, hsame⟩ := X.leave hv hlk
  exact ⟨_, _, st fs hr, hrun, hended, _, _, rfl, hQ, ⟨_, rfl⟩, hW, hsame.mono hk hn⟩
theorem Go.retW {Q : Option Value → Heap → List Loc → Prop} {K N k0 : Nat} {U : State} {vm0 : Vm} (hS : s.Since vm0 k0) (hk0 : k0 ≤ h.size) (X : Stand p l e R (s.setVm vm0) m args below meth c T locs cells slots) {v : Option Value} (hv : meth.sig.returnType = none → v = none) (hlk : meth.locks = false)
    (st : ∀ fs, (∀ (f : JFrame) (acts : List Action), f.method = m → f.locked = none → f.entered = [] → (doReturn e (T.setTop f) acts v).1 = T.setFrames fs) → Steps p.tables e below U (T.setFrames fs)) (eT : T.heap = h) (hQ : Q v h locs) (hk : cells ≤ K) (hn : slots ≤ N) :
    Go p e below (fun o s₂ => ∃ v L, o = .returned v ∧ Q v s₂.heap L ∧ ReturnedEndW s o s₂ L K N) U := by
  subst eT
  obtain ⟨fs, hr, hrun, hended, hR⟩ := X.leaveW hS hk0 hv hlk
  exact ⟨_, _, st fs hr, hrun, hended, _, _, rfl, hQ, hR.1, hR.2.1, hR.2.2.1, hR.2.2.2.mono hk hn⟩
/-- RoadKit's backOfS for a callee that is told what the constants hold -/
theorem backOfSC {y : MethodName} {bytes : ByteArray} {maxL : Nat} {ret : Option FieldType} {rm : Room} {len W : Nat} {as' : Array Value} {Q : Option Value → Heap → List Loc → Prop} {EL : List (String × Nat)} {vm0 : Vm} {a0 : Array Value}
    (hM : MetFree l y (head1 [Cond.code y bytes maxL ret] rm) (fun a U => a = as' ∧ Z.Warmed39 U.vm ∧ U.heap = h ∧ CHv Z EL U.vm h) (fun _ _ _ _ _ => True) (fun _ U o U' => ∃ v L, o = .returned v ∧ Q v U'.heap L ∧ ReturnedEndW U o U' L rm.cells rm.slots))
    (hZ : Z.Warmed39 vm0) (wc : (Cond.code y bytes maxL ret).before a0 Z = true) (wz : (Cond.initialized y.cls).before a0 Z = true) (hf : rm.frames + 1 ≤ R.frames) (hl : W + (maxL + 11) + rm.locals ≤ R.locals) (hEL : EW Z a0 EL) (H : CHv Z EL vm0 h) :
    BackS l R p e below (s.setVm vm0) args y len W (fun A a => a = as' ∧ A.U.heap = h ∧ A.cells + rm.cells ≤ R.cells ∧ A.slots + rm.slots ≤ R.slots)
      (fun A _ v B => ∃ L, Q v B.U.heap L ∧ B.locs = A.locs ++ L ∧ B.cells = A.cells + rm.cells ∧ B.slots = A.slots + rm.slots) :=
  BackS.of_freeW (bytes := bytes) (maxL := maxL) (ret := ret) (E := fun _ _ o t L k n => k = rm.cells ∧ n = rm.slots ∧ ∃ v, o = .returned v ∧ Q v t.heap L) hM hf hl
    (fun m meth c A a Y hp => by
      have hU : Z.Warmed39 A.U.vm := wtrans (s := s.setVm vm0) hZ Y.warmed
      exact ⟨by show (Cond.and _ .tt).before a A.U = true; rw [Cond.before_and, mv hU wc]; rfl, mv hU wc, mv hU wz, hp.2.2.1, hp.2.2.2⟩)
    (fun m meth c A a g mk Y hp => ⟨hp.1, wtrans (s := s.setVm vm0) hZ Y.warmed, hp.2.1, (CHv.at Y hZ hEL H).1⟩) (fun _ _ _ _ _ _ _ _ _ => trivial)
    (fun _ _ _ _ ⟨v, L, h1, h2, h3⟩ => ⟨L, _, _, h3, rfl, rfl, v, h1, h2⟩)
    (fun m meth c A a g mk v t L k n Y hp _ _ ⟨e1, e2, v', e3, e4⟩ => by cases e3; subst e1 e2; exact ⟨L, e4, rfl, rfl, rfl⟩)
theorem staKeep0 {C n d : String} {v : Value} (F : Sta Z h C n d v) (K : Keep h h' []) : Sta Z h' C n d v := by
  obtain ⟨cf, i, k, f, st, cell, h1, h2, h3, h4, h5, r⟩ := F
  exact ⟨cf, i, k, f, st, cell, h1, h2, h3, h4, K.2.1 _ _ h5 nin0, r⟩
theorem staKeepE {C n d O : String} {v : Value} {a : Addr} (F : Sta Z h C n d v) (K : Keep h h' [a]) (E : Exa Z h a O) : Sta Z h' C n d v := by
  obtain ⟨cf, i, k, f, st, cell, h1, h2, h3, h4, h5, h6, r⟩ := F
  obtain ⟨c', k', e1, -, -, e4, -⟩ := E
  have ne : st ≠ a := fun q => by subst q; cases h5.symm.trans e1; rw [h6] at e4; cases e4
  exact ⟨cf, i, k, f, st, cell, h1, h2, h3, h4, K.2.1 _ _ h5 (ninS ne nin0), h6, r⟩
/-- getfield where the sheet says the reference resolved -/
theorem getFR (X : Stand p l e R s m args below meth c T locs cells slots) (hx : p.tables.exec = Jvm.exec) (hZ : Z.Warmed39 s.vm) {a0 : Array Value} {own O n d : String} {index : Nat} (hown : s.vm.findClass own = some m.cls) (w : (Cond.fieldRef own index O n d).before a0 Z = true)
    (eT : T.heap = h) {a : Addr} {v : Value} (F : Fld Z h a O n d v) {g : JFrame} (hg : g.method = m) {rest : List Value} (hs : g.stack = .ref a :: rest) (hd : decode c.code g.pc = .ok (.getfield index, 3)) :
    ∀ target, Steps p.tables e below (T.setTop { g with pc := g.pc + 3, stack := v :: rest }) target → Steps p.tables e below (T.setTop g) target := by
  intro target hrest
  obtain ⟨cell, cf, k, i, f, h1, h2, h3, h4, -, -, h7⟩ := F
  have hW : Z.Warmed39 T.vm := wtrans hZ X.warmed
  have q := Cond.fieldRef_warmed39 hW w
  have hcur : (Z.setVm T.vm).vm.findClass own = some m.cls := by
    show T.vm.findClass own = some m.cls
    rw [X.warmed.alike.findClass]; exact hown
  obtain ⟨c', k', i', f', hi, hready⟩ := Cond.fieldRef_spec hcur q
  obtain ⟨k2, hi2, -⟩ := State.fieldFound?_setVm (s := Z) hW.alike h2
  have q3 : (Z.setVm T.vm).fieldFound? O n d = some (cf, k2, i, f) := hi2
  cases hi.symm.trans q3
  subst hg
  jvm_step X.here [hx, hd, getfield.wp_ready (e := e) (s := T) (f := g) X.here.top hready h3 hs (by rw [eT]; exact h1) h4 h7]
  exact hrest
/-- an array of that kind and length, whatever it holds -/
def Arn (Z : State) (h : Heap) (a : Addr) (ty : FieldType) (z : Int32) : Prop := ∃ c : Cell, Arr Z h a c ty ∧ c.slots.size = z.toNatClampNeg ∧ ¬ z < 0
section Arn
variable {a b : Addr} {ty : FieldType} {z : Int32} {sl : Nat} {v : Value} {ws : List Addr}
theorem Arn.lt (F : Arn Z h a ty z) : a < h.size := by obtain ⟨c, A, -⟩ := F; exact A.lt
theorem Arn.ext (F : Arn Z h a ty z) (E : Ext h h') : Arn Z h' a ty z := by obtain ⟨c, A, r⟩ := F; exact ⟨c, A.ext E, r⟩
theorem Arn.other (F : Arn Z h b ty z) (W : Wr h h' a sl v) (q : b ≠ a) : Arn Z h' b ty z := by obtain ⟨c, A, r⟩ := F; exact ⟨c, A.other W q, r⟩
theorem Arn.keep (F : Arn Z h a ty z) (K : Keep h h' ws) (q : a ∉ ws) : Arn Z h' a ty z := by obtain ⟨c, A, r⟩ := F; exact ⟨c, ⟨K.2.1 a c A.1 q, A.2⟩, r⟩
theorem Arn.set {c : Cell} (A : Arr Z h a c ty) (S : c.slots.size = z.toNatClampNeg) (q : ¬ z < 0) (W : Wr h h' a sl v) : Arn Z h' a ty z := ⟨_, A.same W, by rw [sz_set]; exact S, q⟩
theorem Arv.arn {k : ClassId} {vs : List Value} {dv : Value} (F : Arv Z h a k ty z vs dv) : Arn Z h a ty z := by obtain ⟨c, A, -, S, q, -⟩ := F; exact ⟨c, A, S, q⟩
end Arn
theorem staKeepA {C n d : String} {v : Value} {a : Addr} {ty : FieldType} {z : Int32} (F : Sta Z h C n d v) (K : Keep h h' [a]) (E : Arn Z h a ty z) : Sta Z h' C n d v := by
  obtain ⟨cf, i, k, f, st, cell, h1, h2, h3, h4, h5, h6, r⟩ := F
  obtain ⟨c', A, -⟩ := E
  have e4 := A.plain
  have ne : st ≠ a := fun q => by subst q; cases h5.symm.trans A.1; rw [h6] at e4; cases e4
  exact ⟨cf, i, k, f, st, cell, h1, h2, h3, h4, K.2.1 _ _ h5 (ninS ne nin0), h6, r⟩
theorem own_nn {n : Int32} (h : 0 ≤ n.toInt) : ¬ n < 0 := by rw [Int32.lt_iff_toInt_lt]; show ¬ n.toInt < 0; omega
theorem own_cap {n : Int32} {k : Nat} (h : n.toInt ≤ k) : n.toNatClampNeg ≤ k := by simp only [Int32.toNatClampNeg]; omega
theorem own_inc {i z : Int32} (h0 : ¬ i < 0) (h : i < z) : ¬ (i + 1) < 0 ∧ (i + 1).toInt = i.toInt + 1 := by
  have h1 := c_iadd i 1; have h2 := rng32 z; have h3 := rng32 i; have h4 := rng32 (i + 1)
  rw [Int32.lt_iff_toInt_lt] at h0 h ⊢
  have e0 : (0 : Int32).toInt = 0 := rfl
  have e1 : (1 : Int32).toInt = 1 := rfl
  rw [e0] at h0 ⊢; rw [e1] at h1
  omega
theorem own_ge {i z : Int32} (h : z.toInt ≤ i.toInt) : ¬ i < z := by rw [Int32.lt_iff_toInt_lt]; omega
theorem staInt {args : Array Value} {C n d : String} {k : Int32} (h : (Cond.eq (.static C n d) (.int k)).value args Z none Z [] = some true) (hi : (Cond.initializedFor C n d).before args Z = true ∨ ((Cond.initialized C).before args Z = true ∧ (Cond.laysStatic C n d).before args Z = true)) : Sta Z Z.heap C n d (.int k) := by
  obtain ⟨x, y, e1, e2, k1, -⟩ := cmp_v (Or.inl h)
  have e3 : (Term.int k).eval args Z none [] Z = some (.int k) := Term.int_eval k
  cases e2.symm.trans e3
  cases x with
  | int z =>
    have q : (Cond.eq (.static C n d) (.int k)).value args Z none Z [] = some (decide (z = k)) := by simp [Cond.value, e1, e3]
    exact (gotT q h) ▸ Sta.start e1 hi
  | _ => simp [Kin, Value.isRef] at k1
theorem fldNull {args : Array Value} {t : Term} {C n d : String} {a : Addr} (ev : t.eval args Z none [] Z = some (.ref a)) (h : (Cond.eq (.field t C n d) .null).value args Z none Z [] = some true) : Fld Z Z.heap a C n d .null := by
  have e1 := null_v h
  rw [fld_at ev] at e1
  exact Fld.start e1
theorem fldStart {args : Array Value} {t : Term} {C n d : String} {a : Addr} {k : Int32} (ev : t.eval args Z none [] Z = some (.ref a)) (h : (Cond.eq (.field t C n d) (.int k)).value args Z none Z [] = some true) : Fld Z Z.heap a C n d (.int k) := by
  obtain ⟨x, y, e1, e2, k1, -⟩ := cmp_v (Or.inl h)
  rw [fld_at ev] at e1
  have e3 : (Term.int k).eval args Z none [] Z = some (.int k) := Term.int_eval k
  cases e2.symm.trans e3
  cases x with
  | int z =>
    have q : (Cond.eq (.field t C n d) (.int k)).value args Z none Z [] = some (decide (z = k)) := by simp [Cond.value, (fld_at ev).trans e1, e3]
    exact (gotT q h) ▸ Fld.start e1
  | _ => simp [Kin, Value.isRef] at k1
end Own
end Jvm.RoadKit
namespace Jvm.Pilot.@@N@@
open Jvm Jvm.ClassFile Sem Op Lib Jvm.Free Jvm.Stand Jvm.LawKit Jvm.RoadKit Bundle Jvm.Pilot.@@N@@.Jvm.D
theorem own_k (x : Int32) : (x &&& (2147483647 : Int32)) % (3 : Int32) = (0 : Int32) ∨ (x &&& (2147483647 : Int32)) % (3 : Int32) = (1 : Int32) ∨ (x &&& (2147483647 : Int32)) % (3 : Int32) = (2 : Int32) := by
  have h1 := c_and x (2147483647 : Int32) (by decide)
  have h2 := (c_irem (x &&& (2147483647 : Int32)) (3 : Int32) 3 (by decide)).1 h1.1
  generalize (x &&& (2147483647 : Int32)) % (3 : Int32) = k at *
  have h3 : k.toInt = 0 ∨ k.toInt = 1 ∨ k.toInt = 2 := by omega
  rcases h3 with h | h | h
  · exact (Or.inl (Int32.toInt_inj.mp (h.trans (by decide))))
  · exact (Or.inr (Or.inl (Int32.toInt_inj.mp (h.trans (by decide)))))
  · exact (Or.inr (Or.inr (Int32.toInt_inj.mp (h.trans (by decide)))))

theorem pn_0 : plainName "com/example/colophon/colophon/RelationshipVariantAccessPointPinLaw" = true := by first | (simp [plainName, overriddenIn]; done) | decide +kernel
theorem ef_0 (m : MethodId) (x0 : Int32) : entryFrame m #[(.int x0)] maxLocals = mkF m 0 #[.val (.int x0), .unset, .unset, .unset] [] := by first | (simp [entryFrame, mkF, argsToLocals, Value.category, maxLocals]; done) | rfl
theorem d1_0 : decode prog_12_method_5_code 0 = .ok (.aload_n 0, 1) := by decide +kernel
theorem d1_1 : decode prog_12_method_5_code 1 = .ok (.getstatic 22, 3) := by decide +kernel
theorem d1_4 : decode prog_12_method_5_code 4 = .ok (.getstatic 25, 3) := by decide +kernel
theorem d1_7 : decode prog_12_method_5_code 7 = .ok (.getstatic 28, 3) := by decide +kernel
theorem d1_10 : decode prog_12_method_5_code 10 = .ok (.invokestatic 60, 3) := by decide +kernel
theorem d1_13 : decode prog_12_method_5_code 13 = .ok (.areturn, 1) := by decide +kernel
theorem pn_1 : plainName "com/example/colophon/colophon/Rda$Relationship" = true := by first | (simp [plainName, overriddenIn]; done) | decide +kernel
theorem ef_1 (m : MethodId) (x0 : Addr) : entryFrame m #[(.ref x0)] 1 = mkF m 0 #[.val (.ref x0)] [] := by first | (simp [entryFrame, mkF, argsToLocals, Value.category]; done) | rfl
theorem d2_0 : decode prog_12_method_6_code 0 = .ok (.aload_n 0, 1) := by decide +kernel
theorem d2_1 : decode prog_12_method_6_code 1 = .ok (.invokevirtual 64, 3) := by decide +kernel
theorem d2_4 : decode prog_12_method_6_code 4 = .ok (.tableswitch 48 1 5 #[36, 40, 48, 48, 44], 36) := by decide +kernel
theorem d2_40 : decode prog_12_method_6_code 40 = .ok (.aload_n 1, 1) := by decide +kernel
theorem d2_41 : decode prog_12_method_6_code 41 = .ok (.goto 28, 3) := by decide +kernel
theorem d2_44 : decode prog_12_method_6_code 44 = .ok (.aload_n 2, 1) := by decide +kernel
theorem d2_45 : decode prog_12_method_6_code 45 = .ok (.goto 24, 3) := by decide +kernel
theorem d2_48 : decode prog_12_method_6_code 48 = .ok (.aload_n 3, 1) := by decide +kernel
theorem d2_49 : decode prog_12_method_6_code 49 = .ok (.goto 20, 3) := by decide +kernel
theorem d2_69 : decode prog_12_method_6_code 69 = .ok (.areturn, 1) := by decide +kernel
theorem pn_2 : plainName "com/example/colophon/colophon/Rda$Relationship" = true := by first | (simp [plainName, overriddenIn]; done) | decide +kernel
theorem ef_2 (m : MethodId) (x0 : Addr) (x1 : Addr) (x2 : Addr) (x3 : Addr) : entryFrame m #[(.ref x0), (.ref x1), (.ref x2), (.ref x3)] 4 = mkF m 0 #[.val (.ref x0), .val (.ref x1), .val (.ref x2), .val (.ref x3)] [] := by first | (simp [entryFrame, mkF, argsToLocals, Value.category]; done) | rfl
theorem d3_0 : decode jdk_37_method_2_code 0 = .ok (.aload_n 0, 1) := by decide +kernel
theorem d3_1 : decode jdk_37_method_2_code 1 = .ok (.getfield 7, 3) := by decide +kernel
theorem d3_4 : decode jdk_37_method_2_code 4 = .ok (.ireturn, 1) := by decide +kernel
theorem pn_3 : plainName "java/lang/Enum" = true := by first | (simp [plainName, overriddenIn]; done) | decide +kernel
theorem ef_3 (m : MethodId) (x0 : Addr) : entryFrame m #[(.ref x0)] 1 = mkF m 0 #[.val (.ref x0)] [] := by first | (simp [entryFrame, mkF, argsToLocals, Value.category]; done) | rfl
theorem pd_0 : parseMethodDescriptor "()I" = some ⟨[], some .int⟩ := by decide +kernel
theorem pd_1 : parseMethodDescriptor "(Lcom/example/colophon/colophon/Rda$Entity;Lcom/example/colophon/colophon/Rda$Relationship;Lcom/example/colophon/colophon/Rda$Relationship;Lcom/example/colophon/colophon/Rda$Relationship;)Lcom/example/colophon/colophon/Rda$Relationship;" = some ⟨[(.object "com/example/colophon/colophon/Rda$Entity"), (.object "com/example/colophon/colophon/Rda$Relationship"), (.object "com/example/colophon/colophon/Rda$Relationship"), (.object "com/example/colophon/colophon/Rda$Relationship")], some (.object "com/example/colophon/colophon/Rda$Relationship")⟩ := by decide +kernel
theorem pd_2 : parseMethodDescriptor "(Lcom/example/colophon/colophon/Rda$Entity;)Lcom/example/colophon/colophon/Rda$Relationship;" = some ⟨[(.object "com/example/colophon/colophon/Rda$Entity")], some (.object "com/example/colophon/colophon/Rda$Relationship")⟩ := by decide +kernel
def Qm3_o (Z : State) (a1 : Addr) (w2 : Int32) (h0 : Heap) (n0 : Nat) (v : Option Value) (h : Heap) (L : List Loc) : Prop := v = some (.int w2) ∧ Fr n0 L ∧ h = h0
set_option maxRecDepth 65536 in
set_option maxHeartbeats 40000000 in
theorem rm3_o (l : Launch) (Z : State) (a0 : Array Value) (hw : ∀ d ∈ tables_1, d.before a0 Z = true) (ws : List Jvm.Cond) (a1 : Addr) (w2 : Int32) (h0 : Heap) (n0 : Nat) (Z0 : n0 ≤ h0.size) (F_ordinal_a1 : Fld Z h0 a1 "java/lang/Enum" "ordinal" "I" (.int w2)) :
    MetFree l (⟨"java/lang/Enum", "ordinal", "()I"⟩ : MethodName) (head1 (Jvm.Cond.code (⟨"java/lang/Enum", "ordinal", "()I"⟩ : MethodName) jdk_37_method_2_code 1 (some .int) :: ws) ({ frames := 0, cells := 0, slots := 0, locals := 0 } : Room)) (fun a U => a = #[(.ref a1)] ∧ Z.Warmed39 U.vm ∧ U.heap = h0) (fun _ _ _ _ _ => True) (fun _ U o U' => ∃ v L, o = .returned v ∧ Qm3_o Z a1 w2 h0 n0 v U'.heap L ∧ FrameEnd U o U' L ({ frames := 0, cells := 0, slots := 0, locals := 0 } : Room).cells ({ frames := 0, cells := 0, slots := 0, locals := 0 } : Room).slots) := by
  refine MetFree.of_bodySF (plainFor_of_name pn_3) hisR ?_
  intro p e s m args below meth c s₁ Bd hml0 hP hK
  obtain ⟨rfl, hZ, hh⟩ := hP
  have hx := Bd.exec
  have hby := Bd.bytes
  have hml : c.maxLocals = 1 := hml0
  have hown : s.vm.findClass "java/lang/Enum" = some m.cls := findClass_of_methodNamed Bd.named
  have hnm := (name_of_methodNamed Bd.named Bd.method).1
  have X0 : Stand p l e ({ frames := 0, cells := 0, slots := 0, locals := 0 } : Room) s m #[(.ref a1)] below meth c s₁ [] 0 0 := Stand.of_body Bd
  have e0 : s₁.heap = h0 := by rw [← hh, Bd.state]; rfl
  have N0 := Fr.nil n0
  refine Go.en (ef_3 m a1) ?_
  show Go p e below _ (s₁.setTop (mkF m 0 #[.val (.ref a1)] []))
  refine Go.st (fun _ kk => XS.aloadN X0.here hx rfl (hb hby d3_0) rfl rfl  kk) ?_
  show Go p e below _ (s₁.setTop (mkF m 1 #[.val (.ref a1)] [(.ref a1)]))
  obtain ⟨T3, X3, e3, st3⟩ := getF X0 hx hZ hown (host := "") (Or.inl (hw _ (List.mem_of_getElem? (i := 25) rfl))) Via.refl e0 F_ordinal_a1 (g := (mkF m 1 #[.val (.ref a1)] [(.ref a1)])) rfl rfl (hb hby d3_1)
  refine Go.st st3 ?_
  show Go p e below _ (T3.setTop (mkF m 4 #[.val (.ref a1)] [(.int w2)]))
  exact Go.ret (Q := Qm3_o Z a1 w2 h0 n0) X3 (v := some (.int w2)) (fun h => by rw [Bd.returns] at h; cases h) Bd.notSynchronized (fun fs hr => retOut X3 hx Bd.returns rfl (Or.inl ⟨rfl, Or.inl rfl, _, rfl⟩) (hb hby d3_4) hr) e3 ⟨rfl, N0, rfl⟩ (by decide) (by decide)
def Qm2_t (Z : State) (a1 : Addr) (a2 : Addr) (a3 : Addr) (a4 : Addr) (w5 : Int32) (h0 : Heap) (n0 : Nat) (v : Option Value) (h : Heap) (L : List Loc) : Prop := v = some (.ref a2) ∧ Fr n0 L ∧ h = h0
set_option maxRecDepth 65536 in
set_option maxHeartbeats 40000000 in
theorem rm2_t (l : Launch) (Z : State) (a0 : Array Value) (hw : ∀ d ∈ tables_1, d.before a0 Z = true) (ws : List Jvm.Cond) (a1 : Addr) (a2 : Addr) (a3 : Addr) (a4 : Addr) (w5 : Int32) (h0 : Heap) (n0 : Nat) (Z0 : n0 ≤ h0.size) (E_a1 : Exa Z h0 a1 "com/example/colophon/colophon/Rda$Entity") (F_ordinal_a1 : Fld Z h0 a1 "java/lang/Enum" "ordinal" "I" (.int w5)) (hd0 : w5 = (1 : Int32)) :
    MetFree l (⟨"com/example/colophon/colophon/Rda$Relationship", "ofAgent", "(Lcom/example/colophon/colophon/Rda$Entity;Lcom/example/colophon/colophon/Rda$Relationship;Lcom/example/colophon/colophon/Rda$Relationship;Lcom/example/colophon/colophon/Rda$Relationship;)Lcom/example/colophon/colophon/Rda$Relationship;"⟩ : MethodName) (head1 (Jvm.Cond.code (⟨"com/example/colophon/colophon/Rda$Relationship", "ofAgent", "(Lcom/example/colophon/colophon/Rda$Entity;Lcom/example/colophon/colophon/Rda$Relationship;Lcom/example/colophon/colophon/Rda$Relationship;Lcom/example/colophon/colophon/Rda$Relationship;)Lcom/example/colophon/colophon/Rda$Relationship;"⟩ : MethodName) prog_12_method_6_code 4 (some (.object "com/example/colophon/colophon/Rda$Relationship")) :: ws) ({ frames := 1, cells := 0, slots := 0, locals := 12 } : Room)) (fun a U => a = #[(.ref a1), (.ref a2), (.ref a3), (.ref a4)] ∧ Z.Warmed39 U.vm ∧ U.heap = h0) (fun _ _ _ _ _ => True) (fun _ U o U' => ∃ v L, o = .returned v ∧ Qm2_t Z a1 a2 a3 a4 w5 h0 n0 v U'.heap L ∧ FrameEnd U o U' L ({ frames := 1, cells := 0, slots := 0, locals := 12 } : Room).cells ({ frames := 1, cells := 0, slots := 0, locals := 12 } : Room).slots) := by
  refine MetFree.of_bodySF (plainFor_of_name pn_2) hisR ?_
  intro p e s m args below meth c s₁ Bd hml0 hP hK
  obtain ⟨rfl, hZ, hh⟩ := hP
  have hx := Bd.exec
  have hby := Bd.bytes
  have hml : c.maxLocals = 4 := hml0
  have hown : s.vm.findClass "com/example/colophon/colophon/Rda$Relationship" = some m.cls := findClass_of_methodNamed Bd.named
  have hnm := (name_of_methodNamed Bd.named Bd.method).1
  have X0 : Stand p l e ({ frames := 1, cells := 0, slots := 0, locals := 12 } : Room) s m #[(.ref a1), (.ref a2), (.ref a3), (.ref a4)] below meth c s₁ [] 0 0 := Stand.of_body Bd
  have e0 : s₁.heap = h0 := by rw [← hh, Bd.state]; rfl
  have N0 := Fr.nil n0
  refine Go.en (ef_2 m a1 a2 a3 a4) ?_
  show Go p e below _ (s₁.setTop (mkF m 0 #[.val (.ref a1), .val (.ref a2), .val (.ref a3), .val (.ref a4)] []))
  refine Go.st (fun _ kk => XS.aloadN X0.here hx rfl (hb hby d2_0) rfl rfl  kk) ?_
  show Go p e below _ (s₁.setTop (mkF m 1 #[.val (.ref a1), .val (.ref a2), .val (.ref a3), .val (.ref a4)] [(.ref a1)]))
  obtain ⟨cq6, kq6, q6a, q6b, q6c⟩ := isOf hZ e0 E_a1
  obtain ⟨_, _, ⟨T6, L6, k6, n6⟩, -, X6, ⟨Lc6, hQ6, l6, y6, z6⟩, st6⟩ := X0.virtualBackUp hx (x := (⟨"com/example/colophon/colophon/Rda$Entity", "ordinal", "()I"⟩ : MethodName)) (y := (⟨"java/lang/Enum", "ordinal", "()I"⟩ : MethodName)) (owner := "java/lang/Enum") hown (mvT hZ (hw _ (List.mem_of_getElem? (i := 18) rfl))) (mvT hZ (hw _ (List.mem_of_getElem? (i := 19) rfl))) (mvT hZ (hw _ (List.mem_of_getElem? (i := 20) rfl))) (by decide) (mvT hZ (hw _ (List.mem_of_getElem? (i := 22) rfl))) (mvT hZ (hw _ (List.mem_of_getElem? (i := 21) rfl))) (backOf (W := 0) (rm3_o l Z a0 hw [] a1 w5 h0 n0 Z0 F_ordinal_a1) hZ (hw _ (List.mem_of_getElem? (i := 24) rfl)) (hw _ (List.mem_of_getElem? (i := 23) rfl)) (by decide) (by decide)) q6a q6c (g := (mkF m 1 #[.val (.ref a1), .val (.ref a2), .val (.ref a3), .val (.ref a4)] [(.ref a1)])) rfl (by rw [hml]; rfl) (Steps.refl _) (argsL := []) (rest := []) (lenOf pd_0 rfl) rfl (by show 2 * 0 + _ ≤ _; exact Nat.le_of_eq rfl) (hb hby d2_1) (fun _ _ => ⟨rfl, e0, (by decide : 0 + 0 ≤ _), (by decide : 0 + 0 ≤ _)⟩)
  dsimp only [Pt.U, Pt.locs, Pt.cells, Pt.slots] at X6 l6 y6 z6 st6 hQ6
  subst l6 y6 z6
  obtain ⟨rfl, N6q, eq6⟩ := hQ6
  have N6 := Fr.app N0 N6q
  refine Go.tr st6 ?_
  show Go p e below _ (T6.setTop (mkF m 4 #[.val (.ref a1), .val (.ref a2), .val (.ref a3), .val (.ref a4)] [(.int w5)]))
  refine Go.st (fun _ kk => XS.tswIn X6.here hx rfl (o := 36) (pc0 := 4) (pc' := 40) rfl (hb hby d2_4) rfl (by rw [hd0]; decide) (by rw [hd0]; decide) (by decide) (by decide) kk) ?_
  show Go p e below _ (T6.setTop (mkF m 40 #[.val (.ref a1), .val (.ref a2), .val (.ref a3), .val (.ref a4)] []))
  refine Go.st (fun _ kk => XS.aloadN X6.here hx rfl (hb hby d2_40) rfl rfl  kk) ?_
  show Go p e below _ (T6.setTop (mkF m 41 #[.val (.ref a1), .val (.ref a2), .val (.ref a3), .val (.ref a4)] [(.ref a2)]))
  refine Go.st (fun _ kk => XS.goto X6.here hx rfl (pc0 := 41) (pc' := 69) rfl (hb hby d2_41) (by decide) (by decide) kk) ?_
  show Go p e below _ (T6.setTop (mkF m 69 #[.val (.ref a1), .val (.ref a2), .val (.ref a3), .val (.ref a4)] [(.ref a2)]))
  exact Go.ret (Q := Qm2_t Z a1 a2 a3 a4 w5 h0 n0) X6 (v := some (.ref a2)) (fun h => by rw [Bd.returns] at h; cases h) Bd.notSynchronized (fun fs hr => retOut X6 hx Bd.returns rfl (Or.inr (Or.inr (Or.inr (Or.inr ⟨rfl, rfl, rfl⟩)))) (hb hby d2_69) hr) eq6 ⟨rfl, N6, rfl⟩ (by decide) (by decide)
def Qm2_ft (Z : State) (a1 : Addr) (a2 : Addr) (a3 : Addr) (a4 : Addr) (w5 : Int32) (h0 : Heap) (n0 : Nat) (v : Option Value) (h : Heap) (L : List Loc) : Prop := v = some (.ref a3) ∧ Fr n0 L ∧ h = h0
set_option maxRecDepth 65536 in
set_option maxHeartbeats 40000000 in
theorem rm2_ft (l : Launch) (Z : State) (a0 : Array Value) (hw : ∀ d ∈ tables_1, d.before a0 Z = true) (ws : List Jvm.Cond) (a1 : Addr) (a2 : Addr) (a3 : Addr) (a4 : Addr) (w5 : Int32) (h0 : Heap) (n0 : Nat) (Z0 : n0 ≤ h0.size) (E_a1 : Exa Z h0 a1 "com/example/colophon/colophon/Rda$Entity") (F_ordinal_a1 : Fld Z h0 a1 "java/lang/Enum" "ordinal" "I" (.int w5)) (hd0 : ¬ (w5 = (1 : Int32))) (hd1 : w5 = (2 : Int32)) :
    MetFree l (⟨"com/example/colophon/colophon/Rda$Relationship", "ofAgent", "(Lcom/example/colophon/colophon/Rda$Entity;Lcom/example/colophon/colophon/Rda$Relationship;Lcom/example/colophon/colophon/Rda$Relationship;Lcom/example/colophon/colophon/Rda$Relationship;)Lcom/example/colophon/colophon/Rda$Relationship;"⟩ : MethodName) (head1 (Jvm.Cond.code (⟨"com/example/colophon/colophon/Rda$Relationship", "ofAgent", "(Lcom/example/colophon/colophon/Rda$Entity;Lcom/example/colophon/colophon/Rda$Relationship;Lcom/example/colophon/colophon/Rda$Relationship;Lcom/example/colophon/colophon/Rda$Relationship;)Lcom/example/colophon/colophon/Rda$Relationship;"⟩ : MethodName) prog_12_method_6_code 4 (some (.object "com/example/colophon/colophon/Rda$Relationship")) :: ws) ({ frames := 1, cells := 0, slots := 0, locals := 12 } : Room)) (fun a U => a = #[(.ref a1), (.ref a2), (.ref a3), (.ref a4)] ∧ Z.Warmed39 U.vm ∧ U.heap = h0) (fun _ _ _ _ _ => True) (fun _ U o U' => ∃ v L, o = .returned v ∧ Qm2_ft Z a1 a2 a3 a4 w5 h0 n0 v U'.heap L ∧ FrameEnd U o U' L ({ frames := 1, cells := 0, slots := 0, locals := 12 } : Room).cells ({ frames := 1, cells := 0, slots := 0, locals := 12 } : Room).slots) := by
  refine MetFree.of_bodySF (plainFor_of_name pn_2) hisR ?_
  intro p e s m args below meth c s₁ Bd hml0 hP hK
  obtain ⟨rfl, hZ, hh⟩ := hP
  have hx := Bd.exec
  have hby := Bd.bytes
  have hml : c.maxLocals = 4 := hml0
  have hown : s.vm.findClass "com/example/colophon/colophon/Rda$Relationship" = some m.cls := findClass_of_methodNamed Bd.named
  have hnm := (name_of_methodNamed Bd.named Bd.method).1
  have X0 : Stand p l e ({ frames := 1, cells := 0, slots := 0, locals := 12 } : Room) s m #[(.ref a1), (.ref a2), (.ref a3), (.ref a4)] below meth c s₁ [] 0 0 := Stand.of_body Bd
  have e0 : s₁.heap = h0 := by rw [← hh, Bd.state]; rfl
  have N0 := Fr.nil n0
  refine Go.en (ef_2 m a1 a2 a3 a4) ?_
  show Go p e below _ (s₁.setTop (mkF m 0 #[.val (.ref a1), .val (.ref a2), .val (.ref a3), .val (.ref a4)] []))
  refine Go.st (fun _ kk => XS.aloadN X0.here hx rfl (hb hby d2_0) rfl rfl  kk) ?_
  show Go p e below _ (s₁.setTop (mkF m 1 #[.val (.ref a1), .val (.ref a2), .val (.ref a3), .val (.ref a4)] [(.ref a1)]))
  obtain ⟨cq6, kq6, q6a, q6b, q6c⟩ := isOf hZ e0 E_a1
  obtain ⟨_, _, ⟨T6, L6, k6, n6⟩, -, X6, ⟨Lc6, hQ6, l6, y6, z6⟩, st6⟩ := X0.virtualBackUp hx (x := (⟨"com/example/colophon/colophon/Rda$Entity", "ordinal", "()I"⟩ : MethodName)) (y := (⟨"java/lang/Enum", "ordinal", "()I"⟩ : MethodName)) (owner := "java/lang/Enum") hown (mvT hZ (hw _ (List.mem_of_getElem? (i := 18) rfl))) (mvT hZ (hw _ (List.mem_of_getElem? (i := 19) rfl))) (mvT hZ (hw _ (List.mem_of_getElem? (i := 20) rfl))) (by decide) (mvT hZ (hw _ (List.mem_of_getElem? (i := 22) rfl))) (mvT hZ (hw _ (List.mem_of_getElem? (i := 21) rfl))) (backOf (W := 0) (rm3_o l Z a0 hw [] a1 w5 h0 n0 Z0 F_ordinal_a1) hZ (hw _ (List.mem_of_getElem? (i := 24) rfl)) (hw _ (List.mem_of_getElem? (i := 23) rfl)) (by decide) (by decide)) q6a q6c (g := (mkF m 1 #[.val (.ref a1), .val (.ref a2), .val (.ref a3), .val (.ref a4)] [(.ref a1)])) rfl (by rw [hml]; rfl) (Steps.refl _) (argsL := []) (rest := []) (lenOf pd_0 rfl) rfl (by show 2 * 0 + _ ≤ _; exact Nat.le_of_eq rfl) (hb hby d2_1) (fun _ _ => ⟨rfl, e0, (by decide : 0 + 0 ≤ _), (by decide : 0 + 0 ≤ _)⟩)
  dsimp only [Pt.U, Pt.locs, Pt.cells, Pt.slots] at X6 l6 y6 z6 st6 hQ6
  subst l6 y6 z6
  obtain ⟨rfl, N6q, eq6⟩ := hQ6
  have N6 := Fr.app N0 N6q
  refine Go.tr st6 ?_
  show Go p e below _ (T6.setTop (mkF m 4 #[.val (.ref a1), .val (.ref a2), .val (.ref a3), .val (.ref a4)] [(.int w5)]))
  refine Go.st (fun _ kk => XS.tswIn X6.here hx rfl (o := 40) (pc0 := 4) (pc' := 44) rfl (hb hby d2_4) rfl (by rw [hd1]; decide) (by rw [hd1]; decide) (by decide) (by decide) kk) ?_
  show Go p e below _ (T6.setTop (mkF m 44 #[.val (.ref a1), .val (.ref a2), .val (.ref a3), .val (.ref a4)] []))
  refine Go.st (fun _ kk => XS.aloadN X6.here hx rfl (hb hby d2_44) rfl rfl  kk) ?_
  show Go p e below _ (T6.setTop (mkF m 45 #[.val (.ref a1), .val (.ref a2), .val (.ref a3), .val (.ref a4)] [(.ref a3)]))
  refine Go.st (fun _ kk => XS.goto X6.here hx rfl (pc0 := 45) (pc' := 69) rfl (hb hby d2_45) (by decide) (by decide) kk) ?_
  show Go p e below _ (T6.setTop (mkF m 69 #[.val (.ref a1), .val (.ref a2), .val (.ref a3), .val (.ref a4)] [(.ref a3)]))
  exact Go.ret (Q := Qm2_ft Z a1 a2 a3 a4 w5 h0 n0) X6 (v := some (.ref a3)) (fun h => by rw [Bd.returns] at h; cases h) Bd.notSynchronized (fun fs hr => retOut X6 hx Bd.returns rfl (Or.inr (Or.inr (Or.inr (Or.inr ⟨rfl, rfl, rfl⟩)))) (hb hby d2_69) hr) eq6 ⟨rfl, N6, rfl⟩ (by decide) (by decide)
def Qm2_fffft (Z : State) (a1 : Addr) (a2 : Addr) (a3 : Addr) (a4 : Addr) (w5 : Int32) (h0 : Heap) (n0 : Nat) (v : Option Value) (h : Heap) (L : List Loc) : Prop := v = some (.ref a4) ∧ Fr n0 L ∧ h = h0
set_option maxRecDepth 65536 in
set_option maxHeartbeats 40000000 in
theorem rm2_fffft (l : Launch) (Z : State) (a0 : Array Value) (hw : ∀ d ∈ tables_1, d.before a0 Z = true) (ws : List Jvm.Cond) (a1 : Addr) (a2 : Addr) (a3 : Addr) (a4 : Addr) (w5 : Int32) (h0 : Heap) (n0 : Nat) (Z0 : n0 ≤ h0.size) (E_a1 : Exa Z h0 a1 "com/example/colophon/colophon/Rda$Entity") (F_ordinal_a1 : Fld Z h0 a1 "java/lang/Enum" "ordinal" "I" (.int w5)) (hd0 : ¬ (w5 = (1 : Int32))) (hd1 : ¬ (w5 = (2 : Int32))) (hd2 : ¬ (w5 = (3 : Int32))) (hd3 : ¬ (w5 = (4 : Int32))) (hd4 : w5 = (5 : Int32)) :
    MetFree l (⟨"com/example/colophon/colophon/Rda$Relationship", "ofAgent", "(Lcom/example/colophon/colophon/Rda$Entity;Lcom/example/colophon/colophon/Rda$Relationship;Lcom/example/colophon/colophon/Rda$Relationship;Lcom/example/colophon/colophon/Rda$Relationship;)Lcom/example/colophon/colophon/Rda$Relationship;"⟩ : MethodName) (head1 (Jvm.Cond.code (⟨"com/example/colophon/colophon/Rda$Relationship", "ofAgent", "(Lcom/example/colophon/colophon/Rda$Entity;Lcom/example/colophon/colophon/Rda$Relationship;Lcom/example/colophon/colophon/Rda$Relationship;Lcom/example/colophon/colophon/Rda$Relationship;)Lcom/example/colophon/colophon/Rda$Relationship;"⟩ : MethodName) prog_12_method_6_code 4 (some (.object "com/example/colophon/colophon/Rda$Relationship")) :: ws) ({ frames := 1, cells := 0, slots := 0, locals := 12 } : Room)) (fun a U => a = #[(.ref a1), (.ref a2), (.ref a3), (.ref a4)] ∧ Z.Warmed39 U.vm ∧ U.heap = h0) (fun _ _ _ _ _ => True) (fun _ U o U' => ∃ v L, o = .returned v ∧ Qm2_fffft Z a1 a2 a3 a4 w5 h0 n0 v U'.heap L ∧ FrameEnd U o U' L ({ frames := 1, cells := 0, slots := 0, locals := 12 } : Room).cells ({ frames := 1, cells := 0, slots := 0, locals := 12 } : Room).slots) := by
  refine MetFree.of_bodySF (plainFor_of_name pn_2) hisR ?_
  intro p e s m args below meth c s₁ Bd hml0 hP hK
  obtain ⟨rfl, hZ, hh⟩ := hP
  have hx := Bd.exec
  have hby := Bd.bytes
  have hml : c.maxLocals = 4 := hml0
  have hown : s.vm.findClass "com/example/colophon/colophon/Rda$Relationship" = some m.cls := findClass_of_methodNamed Bd.named
  have hnm := (name_of_methodNamed Bd.named Bd.method).1
  have X0 : Stand p l e ({ frames := 1, cells := 0, slots := 0, locals := 12 } : Room) s m #[(.ref a1), (.ref a2), (.ref a3), (.ref a4)] below meth c s₁ [] 0 0 := Stand.of_body Bd
  have e0 : s₁.heap = h0 := by rw [← hh, Bd.state]; rfl
  have N0 := Fr.nil n0
  refine Go.en (ef_2 m a1 a2 a3 a4) ?_
  show Go p e below _ (s₁.setTop (mkF m 0 #[.val (.ref a1), .val (.ref a2), .val (.ref a3), .val (.ref a4)] []))
  refine Go.st (fun _ kk => XS.aloadN X0.here hx rfl (hb hby d2_0) rfl rfl  kk) ?_
  show Go p e below _ (s₁.setTop (mkF m 1 #[.val (.ref a1), .val (.ref a2), .val (.ref a3), .val (.ref a4)] [(.ref a1)]))
  obtain ⟨cq6, kq6, q6a, q6b, q6c⟩ := isOf hZ e0 E_a1
  obtain ⟨_, _, ⟨T6, L6, k6, n6⟩, -, X6, ⟨Lc6, hQ6, l6, y6, z6⟩, st6⟩ := X0.virtualBackUp hx (x := (⟨"com/example/colophon/colophon/Rda$Entity", "ordinal", "()I"⟩ : MethodName)) (y := (⟨"java/lang/Enum", "ordinal", "()I"⟩ : MethodName)) (owner := "java/lang/Enum") hown (mvT hZ (hw _ (List.mem_of_getElem? (i := 18) rfl))) (mvT hZ (hw _ (List.mem_of_getElem? (i := 19) rfl))) (mvT hZ (hw _ (List.mem_of_getElem? (i := 20) rfl))) (by decide) (mvT hZ (hw _ (List.mem_of_getElem? (i := 22) rfl))) (mvT hZ (hw _ (List.mem_of_getElem? (i := 21) rfl))) (backOf (W := 0) (rm3_o l Z a0 hw [] a1 w5 h0 n0 Z0 F_ordinal_a1) hZ (hw _ (List.mem_of_getElem? (i := 24) rfl)) (hw _ (List.mem_of_getElem? (i := 23) rfl)) (by decide) (by decide)) q6a q6c (g := (mkF m 1 #[.val (.ref a1), .val (.ref a2), .val (.ref a3), .val (.ref a4)] [(.ref a1)])) rfl (by rw [hml]; rfl) (Steps.refl _) (argsL := []) (rest := []) (lenOf pd_0 rfl) rfl (by show 2 * 0 + _ ≤ _; exact Nat.le_of_eq rfl) (hb hby d2_1) (fun _ _ => ⟨rfl, e0, (by decide : 0 + 0 ≤ _), (by decide : 0 + 0 ≤ _)⟩)
  dsimp only [Pt.U, Pt.locs, Pt.cells, Pt.slots] at X6 l6 y6 z6 st6 hQ6
  subst l6 y6 z6
  obtain ⟨rfl, N6q, eq6⟩ := hQ6
  have N6 := Fr.app N0 N6q
  refine Go.tr st6 ?_
  show Go p e below _ (T6.setTop (mkF m 4 #[.val (.ref a1), .val (.ref a2), .val (.ref a3), .val (.ref a4)] [(.int w5)]))
  refine Go.st (fun _ kk => XS.tswIn X6.here hx rfl (o := 44) (pc0 := 4) (pc' := 48) rfl (hb hby d2_4) rfl (by rw [hd4]; decide) (by rw [hd4]; decide) (by decide) (by decide) kk) ?_
  show Go p e below _ (T6.setTop (mkF m 48 #[.val (.ref a1), .val (.ref a2), .val (.ref a3), .val (.ref a4)] []))
  refine Go.st (fun _ kk => XS.aloadN X6.here hx rfl (hb hby d2_48) rfl rfl  kk) ?_
  show Go p e below _ (T6.setTop (mkF m 49 #[.val (.ref a1), .val (.ref a2), .val (.ref a3), .val (.ref a4)] [(.ref a4)]))
  refine Go.st (fun _ kk => XS.goto X6.here hx rfl (pc0 := 49) (pc' := 69) rfl (hb hby d2_49) (by decide) (by decide) kk) ?_
  show Go p e below _ (T6.setTop (mkF m 69 #[.val (.ref a1), .val (.ref a2), .val (.ref a3), .val (.ref a4)] [(.ref a4)]))
  exact Go.ret (Q := Qm2_fffft Z a1 a2 a3 a4 w5 h0 n0) X6 (v := some (.ref a4)) (fun h => by rw [Bd.returns] at h; cases h) Bd.notSynchronized (fun fs hr => retOut X6 hx Bd.returns rfl (Or.inr (Or.inr (Or.inr (Or.inr ⟨rfl, rfl, rfl⟩)))) (hb hby d2_69) hr) eq6 ⟨rfl, N6, rfl⟩ (by decide) (by decide)
def Qm1_t (Z : State) (a1 : Addr) (w2 : Addr) (w4 : Addr) (w6 : Addr) (w8 : Int32) (h0 : Heap) (n0 : Nat) (v : Option Value) (h : Heap) (L : List Loc) : Prop := v = some (.ref w2) ∧ Fr n0 L ∧ h = h0
set_option maxRecDepth 65536 in
set_option maxHeartbeats 40000000 in
theorem rm1_t (l : Launch) (Z : State) (a0 : Array Value) (hw : ∀ d ∈ tables_1, d.before a0 Z = true) (ws : List Jvm.Cond) (a1 : Addr) (w2 : Addr) (w4 : Addr) (w6 : Addr) (w8 : Int32) (h0 : Heap) (n0 : Nat) (Z0 : n0 ≤ h0.size) (S_VARIANT_ACCESS_POINT_FOR_PERSON : Sta Z h0 "com/example/colophon/colophon/Rda$Relationship" "VARIANT_ACCESS_POINT_FOR_PERSON" "Lcom/example/colophon/colophon/Rda$Relationship;" (.ref w2)) (S_VARIANT_ACCESS_POINT_FOR_CORPORATE_BODY : Sta Z h0 "com/example/colophon/colophon/Rda$Relationship" "VARIANT_ACCESS_POINT_FOR_CORPORATE_BODY" "Lcom/example/colophon/colophon/Rda$Relationship;" (.ref w4)) (S_VARIANT_ACCESS_POINT_FOR_FAMILY : Sta Z h0 "com/example/colophon/colophon/Rda$Relationship" "VARIANT_ACCESS_POINT_FOR_FAMILY" "Lcom/example/colophon/colophon/Rda$Relationship;" (.ref w6)) (hd0 : w8 = (1 : Int32)) (E_a1 : Exa Z h0 a1 "com/example/colophon/colophon/Rda$Entity") (F_ordinal_a1 : Fld Z h0 a1 "java/lang/Enum" "ordinal" "I" (.int w8)) :
    MetFree l (⟨"com/example/colophon/colophon/Rda$Relationship", "variantAccessPoint", "(Lcom/example/colophon/colophon/Rda$Entity;)Lcom/example/colophon/colophon/Rda$Relationship;"⟩ : MethodName) (head1 (Jvm.Cond.code (⟨"com/example/colophon/colophon/Rda$Relationship", "variantAccessPoint", "(Lcom/example/colophon/colophon/Rda$Entity;)Lcom/example/colophon/colophon/Rda$Relationship;"⟩ : MethodName) prog_12_method_5_code 1 (some (.object "com/example/colophon/colophon/Rda$Relationship")) :: ws) ({ frames := 2, cells := 0, slots := 0, locals := 27 } : Room)) (fun a U => a = #[(.ref a1)] ∧ Z.Warmed39 U.vm ∧ U.heap = h0) (fun _ _ _ _ _ => True) (fun _ U o U' => ∃ v L, o = .returned v ∧ Qm1_t Z a1 w2 w4 w6 w8 h0 n0 v U'.heap L ∧ FrameEnd U o U' L ({ frames := 2, cells := 0, slots := 0, locals := 27 } : Room).cells ({ frames := 2, cells := 0, slots := 0, locals := 27 } : Room).slots) := by
  refine MetFree.of_bodySF (plainFor_of_name pn_1) hisR ?_
  intro p e s m args below meth c s₁ Bd hml0 hP hK
  obtain ⟨rfl, hZ, hh⟩ := hP
  have hx := Bd.exec
  have hby := Bd.bytes
  have hml : c.maxLocals = 1 := hml0
  have hown : s.vm.findClass "com/example/colophon/colophon/Rda$Relationship" = some m.cls := findClass_of_methodNamed Bd.named
  have hnm := (name_of_methodNamed Bd.named Bd.method).1
  have X0 : Stand p l e ({ frames := 2, cells := 0, slots := 0, locals := 27 } : Room) s m #[(.ref a1)] below meth c s₁ [] 0 0 := Stand.of_body Bd
  have e0 : s₁.heap = h0 := by rw [← hh, Bd.state]; rfl
  have N0 := Fr.nil n0
  refine Go.en (ef_1 m a1) ?_
  show Go p e below _ (s₁.setTop (mkF m 0 #[.val (.ref a1)] []))
  refine Go.st (fun _ kk => XS.aloadN X0.here hx rfl (hb hby d1_0) rfl rfl  kk) ?_
  show Go p e below _ (s₁.setTop (mkF m 1 #[.val (.ref a1)] [(.ref a1)]))
  obtain ⟨T3, X3, e3, st3⟩ := getS2 X0 hx hZ hown (host := "") (Or.inl (hw _ (List.mem_of_getElem? (i := 10) rfl))) Via.refl e0 S_VARIANT_ACCESS_POINT_FOR_PERSON (g := (mkF m 1 #[.val (.ref a1)] [(.ref a1)])) rfl (hb hby d1_1)
  refine Go.st st3 ?_
  show Go p e below _ (T3.setTop (mkF m 4 #[.val (.ref a1)] [(.ref w2), (.ref a1)]))
  obtain ⟨T5, X5, e5, st5⟩ := getS2 X3 hx hZ hown (host := "") (Or.inl (hw _ (List.mem_of_getElem? (i := 11) rfl))) Via.refl e3 S_VARIANT_ACCESS_POINT_FOR_CORPORATE_BODY (g := (mkF m 4 #[.val (.ref a1)] [(.ref w2), (.ref a1)])) rfl (hb hby d1_4)
  refine Go.st st5 ?_
  show Go p e below _ (T5.setTop (mkF m 7 #[.val (.ref a1)] [(.ref w4), (.ref w2), (.ref a1)]))
  obtain ⟨T7, X7, e7, st7⟩ := getS2 X5 hx hZ hown (host := "") (Or.inl (hw _ (List.mem_of_getElem? (i := 13) rfl))) Via.refl e5 S_VARIANT_ACCESS_POINT_FOR_FAMILY (g := (mkF m 7 #[.val (.ref a1)] [(.ref w4), (.ref w2), (.ref a1)])) rfl (hb hby d1_7)
  refine Go.st st7 ?_
  show Go p e below _ (T7.setTop (mkF m 10 #[.val (.ref a1)] [(.ref w6), (.ref w4), (.ref w2), (.ref a1)]))
  obtain ⟨_, _, ⟨T9, L9, k9, n9⟩, -, X9, ⟨Lc9, hQ9, l9, y9, z9⟩, st9⟩ := Jvm.LawKit.callS X7 hx (y := (⟨"com/example/colophon/colophon/Rda$Relationship", "ofAgent", "(Lcom/example/colophon/colophon/Rda$Entity;Lcom/example/colophon/colophon/Rda$Relationship;Lcom/example/colophon/colophon/Rda$Relationship;Lcom/example/colophon/colophon/Rda$Relationship;)Lcom/example/colophon/colophon/Rda$Relationship;"⟩ : MethodName)) hown (mvT hZ (hw _ (List.mem_of_getElem? (i := 15) rfl))) (mvT hZ (hw _ (List.mem_of_getElem? (i := 16) rfl))) (mvT hZ (hw _ (List.mem_of_getElem? (i := 5) rfl))) (mvT hZ (hw _ (List.mem_of_getElem? (i := 17) rfl))) (by decide) (backOf (W := 0) (rm2_t l Z a0 hw [] a1 w2 w4 w6 w8 h0 n0 Z0 E_a1 F_ordinal_a1 hd0) hZ (hw _ (List.mem_of_getElem? (i := 17) rfl)) (hw _ (List.mem_of_getElem? (i := 5) rfl)) (by decide) (by decide)) (g := (mkF m 10 #[.val (.ref a1)] [(.ref w6), (.ref w4), (.ref w2), (.ref a1)])) rfl (by rw [hml]; rfl) (argsL := [(.ref a1), (.ref w2), (.ref w4), (.ref w6)]) (rest := []) (lenOf pd_1 rfl) rfl (by show 2 * 0 + _ ≤ _; exact Nat.le_of_eq rfl) (hb hby d1_10) (fun _ _ => ⟨rfl, e7, (by decide : 0 + 0 ≤ _), (by decide : 0 + 0 ≤ _)⟩)
  dsimp only [Pt.U, Pt.locs, Pt.cells, Pt.slots] at X9 l9 y9 z9 st9 hQ9
  subst l9 y9 z9
  obtain ⟨rfl, N9q, eq9⟩ := hQ9
  have N9 := Fr.app N0 N9q
  refine Go.st st9 ?_
  show Go p e below _ (T9.setTop (mkF m 13 #[.val (.ref a1)] [(.ref w2)]))
  exact Go.ret (Q := Qm1_t Z a1 w2 w4 w6 w8 h0 n0) X9 (v := some (.ref w2)) (fun h => by rw [Bd.returns] at h; cases h) Bd.notSynchronized (fun fs hr => retOut X9 hx Bd.returns rfl (Or.inr (Or.inr (Or.inr (Or.inr ⟨rfl, rfl, rfl⟩)))) (hb hby d1_13) hr) eq9 ⟨rfl, N9, rfl⟩ (by decide) (by decide)
def Qm1_ft (Z : State) (a1 : Addr) (w2 : Addr) (w4 : Addr) (w6 : Addr) (w8 : Int32) (h0 : Heap) (n0 : Nat) (v : Option Value) (h : Heap) (L : List Loc) : Prop := v = some (.ref w4) ∧ Fr n0 L ∧ h = h0
set_option maxRecDepth 65536 in
set_option maxHeartbeats 40000000 in
theorem rm1_ft (l : Launch) (Z : State) (a0 : Array Value) (hw : ∀ d ∈ tables_1, d.before a0 Z = true) (ws : List Jvm.Cond) (a1 : Addr) (w2 : Addr) (w4 : Addr) (w6 : Addr) (w8 : Int32) (h0 : Heap) (n0 : Nat) (Z0 : n0 ≤ h0.size) (S_VARIANT_ACCESS_POINT_FOR_PERSON : Sta Z h0 "com/example/colophon/colophon/Rda$Relationship" "VARIANT_ACCESS_POINT_FOR_PERSON" "Lcom/example/colophon/colophon/Rda$Relationship;" (.ref w2)) (S_VARIANT_ACCESS_POINT_FOR_CORPORATE_BODY : Sta Z h0 "com/example/colophon/colophon/Rda$Relationship" "VARIANT_ACCESS_POINT_FOR_CORPORATE_BODY" "Lcom/example/colophon/colophon/Rda$Relationship;" (.ref w4)) (S_VARIANT_ACCESS_POINT_FOR_FAMILY : Sta Z h0 "com/example/colophon/colophon/Rda$Relationship" "VARIANT_ACCESS_POINT_FOR_FAMILY" "Lcom/example/colophon/colophon/Rda$Relationship;" (.ref w6)) (hd0 : ¬ (w8 = (1 : Int32))) (hd1 : w8 = (2 : Int32)) (E_a1 : Exa Z h0 a1 "com/example/colophon/colophon/Rda$Entity") (F_ordinal_a1 : Fld Z h0 a1 "java/lang/Enum" "ordinal" "I" (.int w8)) :
    MetFree l (⟨"com/example/colophon/colophon/Rda$Relationship", "variantAccessPoint", "(Lcom/example/colophon/colophon/Rda$Entity;)Lcom/example/colophon/colophon/Rda$Relationship;"⟩ : MethodName) (head1 (Jvm.Cond.code (⟨"com/example/colophon/colophon/Rda$Relationship", "variantAccessPoint", "(Lcom/example/colophon/colophon/Rda$Entity;)Lcom/example/colophon/colophon/Rda$Relationship;"⟩ : MethodName) prog_12_method_5_code 1 (some (.object "com/example/colophon/colophon/Rda$Relationship")) :: ws) ({ frames := 2, cells := 0, slots := 0, locals := 27 } : Room)) (fun a U => a = #[(.ref a1)] ∧ Z.Warmed39 U.vm ∧ U.heap = h0) (fun _ _ _ _ _ => True) (fun _ U o U' => ∃ v L, o = .returned v ∧ Qm1_ft Z a1 w2 w4 w6 w8 h0 n0 v U'.heap L ∧ FrameEnd U o U' L ({ frames := 2, cells := 0, slots := 0, locals := 27 } : Room).cells ({ frames := 2, cells := 0, slots := 0, locals := 27 } : Room).slots) := by
  refine MetFree.of_bodySF (plainFor_of_name pn_1) hisR ?_
  intro p e s m args below meth c s₁ Bd hml0 hP hK
  obtain ⟨rfl, hZ, hh⟩ := hP
  have hx := Bd.exec
  have hby := Bd.bytes
  have hml : c.maxLocals = 1 := hml0
  have hown : s.vm.findClass "com/example/colophon/colophon/Rda$Relationship" = some m.cls := findClass_of_methodNamed Bd.named
  have hnm := (name_of_methodNamed Bd.named Bd.method).1
  have X0 : Stand p l e ({ frames := 2, cells := 0, slots := 0, locals := 27 } : Room) s m #[(.ref a1)] below meth c s₁ [] 0 0 := Stand.of_body Bd
  have e0 : s₁.heap = h0 := by rw [← hh, Bd.state]; rfl
  have N0 := Fr.nil n0
  refine Go.en (ef_1 m a1) ?_
  show Go p e below _ (s₁.setTop (mkF m 0 #[.val (.ref a1)] []))
  refine Go.st (fun _ kk => XS.aloadN X0.here hx rfl (hb hby d1_0) rfl rfl  kk) ?_
  show Go p e below _ (s₁.setTop (mkF m 1 #[.val (.ref a1)] [(.ref a1)]))
  obtain ⟨T3, X3, e3, st3⟩ := getS2 X0 hx hZ hown (host := "") (Or.inl (hw _ (List.mem_of_getElem? (i := 10) rfl))) Via.refl e0 S_VARIANT_ACCESS_POINT_FOR_PERSON (g := (mkF m 1 #[.val (.ref a1)] [(.ref a1)])) rfl (hb hby d1_1)
  refine Go.st st3 ?_
  show Go p e below _ (T3.setTop (mkF m 4 #[.val (.ref a1)] [(.ref w2), (.ref a1)]))
  obtain ⟨T5, X5, e5, st5⟩ := getS2 X3 hx hZ hown (host := "") (Or.inl (hw _ (List.mem_of_getElem? (i := 11) rfl))) Via.refl e3 S_VARIANT_ACCESS_POINT_FOR_CORPORATE_BODY (g := (mkF m 4 #[.val (.ref a1)] [(.ref w2), (.ref a1)])) rfl (hb hby d1_4)
  refine Go.st st5 ?_
  show Go p e below _ (T5.setTop (mkF m 7 #[.val (.ref a1)] [(.ref w4), (.ref w2), (.ref a1)]))
  obtain ⟨T7, X7, e7, st7⟩ := getS2 X5 hx hZ hown (host := "") (Or.inl (hw _ (List.mem_of_getElem? (i := 13) rfl))) Via.refl e5 S_VARIANT_ACCESS_POINT_FOR_FAMILY (g := (mkF m 7 #[.val (.ref a1)] [(.ref w4), (.ref w2), (.ref a1)])) rfl (hb hby d1_7)
  refine Go.st st7 ?_
  show Go p e below _ (T7.setTop (mkF m 10 #[.val (.ref a1)] [(.ref w6), (.ref w4), (.ref w2), (.ref a1)]))
  obtain ⟨_, _, ⟨T9, L9, k9, n9⟩, -, X9, ⟨Lc9, hQ9, l9, y9, z9⟩, st9⟩ := Jvm.LawKit.callS X7 hx (y := (⟨"com/example/colophon/colophon/Rda$Relationship", "ofAgent", "(Lcom/example/colophon/colophon/Rda$Entity;Lcom/example/colophon/colophon/Rda$Relationship;Lcom/example/colophon/colophon/Rda$Relationship;Lcom/example/colophon/colophon/Rda$Relationship;)Lcom/example/colophon/colophon/Rda$Relationship;"⟩ : MethodName)) hown (mvT hZ (hw _ (List.mem_of_getElem? (i := 15) rfl))) (mvT hZ (hw _ (List.mem_of_getElem? (i := 16) rfl))) (mvT hZ (hw _ (List.mem_of_getElem? (i := 5) rfl))) (mvT hZ (hw _ (List.mem_of_getElem? (i := 17) rfl))) (by decide) (backOf (W := 0) (rm2_ft l Z a0 hw [] a1 w2 w4 w6 w8 h0 n0 Z0 E_a1 F_ordinal_a1 hd0 hd1) hZ (hw _ (List.mem_of_getElem? (i := 17) rfl)) (hw _ (List.mem_of_getElem? (i := 5) rfl)) (by decide) (by decide)) (g := (mkF m 10 #[.val (.ref a1)] [(.ref w6), (.ref w4), (.ref w2), (.ref a1)])) rfl (by rw [hml]; rfl) (argsL := [(.ref a1), (.ref w2), (.ref w4), (.ref w6)]) (rest := []) (lenOf pd_1 rfl) rfl (by show 2 * 0 + _ ≤ _; exact Nat.le_of_eq rfl) (hb hby d1_10) (fun _ _ => ⟨rfl, e7, (by decide : 0 + 0 ≤ _), (by decide : 0 + 0 ≤ _)⟩)
  dsimp only [Pt.U, Pt.locs, Pt.cells, Pt.slots] at X9 l9 y9 z9 st9 hQ9
  subst l9 y9 z9
  obtain ⟨rfl, N9q, eq9⟩ := hQ9
  have N9 := Fr.app N0 N9q
  refine Go.st st9 ?_
  show Go p e below _ (T9.setTop (mkF m 13 #[.val (.ref a1)] [(.ref w4)]))
  exact Go.ret (Q := Qm1_ft Z a1 w2 w4 w6 w8 h0 n0) X9 (v := some (.ref w4)) (fun h => by rw [Bd.returns] at h; cases h) Bd.notSynchronized (fun fs hr => retOut X9 hx Bd.returns rfl (Or.inr (Or.inr (Or.inr (Or.inr ⟨rfl, rfl, rfl⟩)))) (hb hby d1_13) hr) eq9 ⟨rfl, N9, rfl⟩ (by decide) (by decide)
def Qm1_fffft (Z : State) (a1 : Addr) (w2 : Addr) (w4 : Addr) (w6 : Addr) (w8 : Int32) (h0 : Heap) (n0 : Nat) (v : Option Value) (h : Heap) (L : List Loc) : Prop := v = some (.ref w6) ∧ Fr n0 L ∧ h = h0
set_option maxRecDepth 65536 in
set_option maxHeartbeats 40000000 in
theorem rm1_fffft (l : Launch) (Z : State) (a0 : Array Value) (hw : ∀ d ∈ tables_1, d.before a0 Z = true) (ws : List Jvm.Cond) (a1 : Addr) (w2 : Addr) (w4 : Addr) (w6 : Addr) (w8 : Int32) (h0 : Heap) (n0 : Nat) (Z0 : n0 ≤ h0.size) (S_VARIANT_ACCESS_POINT_FOR_PERSON : Sta Z h0 "com/example/colophon/colophon/Rda$Relationship" "VARIANT_ACCESS_POINT_FOR_PERSON" "Lcom/example/colophon/colophon/Rda$Relationship;" (.ref w2)) (S_VARIANT_ACCESS_POINT_FOR_CORPORATE_BODY : Sta Z h0 "com/example/colophon/colophon/Rda$Relationship" "VARIANT_ACCESS_POINT_FOR_CORPORATE_BODY" "Lcom/example/colophon/colophon/Rda$Relationship;" (.ref w4)) (S_VARIANT_ACCESS_POINT_FOR_FAMILY : Sta Z h0 "com/example/colophon/colophon/Rda$Relationship" "VARIANT_ACCESS_POINT_FOR_FAMILY" "Lcom/example/colophon/colophon/Rda$Relationship;" (.ref w6)) (hd0 : ¬ (w8 = (1 : Int32))) (hd1 : ¬ (w8 = (2 : Int32))) (hd2 : ¬ (w8 = (3 : Int32))) (hd3 : ¬ (w8 = (4 : Int32))) (hd4 : w8 = (5 : Int32)) (E_a1 : Exa Z h0 a1 "com/example/colophon/colophon/Rda$Entity") (F_ordinal_a1 : Fld Z h0 a1 "java/lang/Enum" "ordinal" "I" (.int w8)) :
    MetFree l (⟨"com/example/colophon/colophon/Rda$Relationship", "variantAccessPoint", "(Lcom/example/colophon/colophon/Rda$Entity;)Lcom/example/colophon/colophon/Rda$Relationship;"⟩ : MethodName) (head1 (Jvm.Cond.code (⟨"com/example/colophon/colophon/Rda$Relationship", "variantAccessPoint", "(Lcom/example/colophon/colophon/Rda$Entity;)Lcom/example/colophon/colophon/Rda$Relationship;"⟩ : MethodName) prog_12_method_5_code 1 (some (.object "com/example/colophon/colophon/Rda$Relationship")) :: ws) ({ frames := 2, cells := 0, slots := 0, locals := 27 } : Room)) (fun a U => a = #[(.ref a1)] ∧ Z.Warmed39 U.vm ∧ U.heap = h0) (fun _ _ _ _ _ => True) (fun _ U o U' => ∃ v L, o = .returned v ∧ Qm1_fffft Z a1 w2 w4 w6 w8 h0 n0 v U'.heap L ∧ FrameEnd U o U' L ({ frames := 2, cells := 0, slots := 0, locals := 27 } : Room).cells ({ frames := 2, cells := 0, slots := 0, locals := 27 } : Room).slots) := by
  refine MetFree.of_bodySF (plainFor_of_name pn_1) hisR ?_
  intro p e s m args below meth c s₁ Bd hml0 hP hK
  obtain ⟨rfl, hZ, hh⟩ := hP
  have hx := Bd.exec
  have hby := Bd.bytes
  have hml : c.maxLocals = 1 := hml0
  have hown : s.vm.findClass "com/example/colophon/colophon/Rda$Relationship" = some m.cls := findClass_of_methodNamed Bd.named
  have hnm := (name_of_methodNamed Bd.named Bd.method).1
  have X0 : Stand p l e ({ frames := 2, cells := 0, slots := 0, locals := 27 } : Room) s m #[(.ref a1)] below meth c s₁ [] 0 0 := Stand.of_body Bd
  have e0 : s₁.heap = h0 := by rw [← hh, Bd.state]; rfl
  have N0 := Fr.nil n0
  refine Go.en (ef_1 m a1) ?_
  show Go p e below _ (s₁.setTop (mkF m 0 #[.val (.ref a1)] []))
  refine Go.st (fun _ kk => XS.aloadN X0.here hx rfl (hb hby d1_0) rfl rfl  kk) ?_
  show Go p e below _ (s₁.setTop (mkF m 1 #[.val (.ref a1)] [(.ref a1)]))
  obtain ⟨T3, X3, e3, st3⟩ := getS2 X0 hx hZ hown (host := "") (Or.inl (hw _ (List.mem_of_getElem? (i := 10) rfl))) Via.refl e0 S_VARIANT_ACCESS_POINT_FOR_PERSON (g := (mkF m 1 #[.val (.ref a1)] [(.ref a1)])) rfl (hb hby d1_1)
  refine Go.st st3 ?_
  show Go p e below _ (T3.setTop (mkF m 4 #[.val (.ref a1)] [(.ref w2), (.ref a1)]))
  obtain ⟨T5, X5, e5, st5⟩ := getS2 X3 hx hZ hown (host := "") (Or.inl (hw _ (List.mem_of_getElem? (i := 11) rfl))) Via.refl e3 S_VARIANT_ACCESS_POINT_FOR_CORPORATE_BODY (g := (mkF m 4 #[.val (.ref a1)] [(.ref w2), (.ref a1)])) rfl (hb hby d1_4)
  refine Go.st st5 ?_
  show Go p e below _ (T5.setTop (mkF m 7 #[.val (.ref a1)] [(.ref w4), (.ref w2), (.ref a1)]))
  obtain ⟨T7, X7, e7, st7⟩ := getS2 X5 hx hZ hown (host := "") (Or.inl (hw _ (List.mem_of_getElem? (i := 13) rfl))) Via.refl e5 S_VARIANT_ACCESS_POINT_FOR_FAMILY (g := (mkF m 7 #[.val (.ref a1)] [(.ref w4), (.ref w2), (.ref a1)])) rfl (hb hby d1_7)
  refine Go.st st7 ?_
  show Go p e below _ (T7.setTop (mkF m 10 #[.val (.ref a1)] [(.ref w6), (.ref w4), (.ref w2), (.ref a1)]))
  obtain ⟨_, _, ⟨T9, L9, k9, n9⟩, -, X9, ⟨Lc9, hQ9, l9, y9, z9⟩, st9⟩ := Jvm.LawKit.callS X7 hx (y := (⟨"com/example/colophon/colophon/Rda$Relationship", "ofAgent", "(Lcom/example/colophon/colophon/Rda$Entity;Lcom/example/colophon/colophon/Rda$Relationship;Lcom/example/colophon/colophon/Rda$Relationship;Lcom/example/colophon/colophon/Rda$Relationship;)Lcom/example/colophon/colophon/Rda$Relationship;"⟩ : MethodName)) hown (mvT hZ (hw _ (List.mem_of_getElem? (i := 15) rfl))) (mvT hZ (hw _ (List.mem_of_getElem? (i := 16) rfl))) (mvT hZ (hw _ (List.mem_of_getElem? (i := 5) rfl))) (mvT hZ (hw _ (List.mem_of_getElem? (i := 17) rfl))) (by decide) (backOf (W := 0) (rm2_fffft l Z a0 hw [] a1 w2 w4 w6 w8 h0 n0 Z0 E_a1 F_ordinal_a1 hd0 hd1 hd2 hd3 hd4) hZ (hw _ (List.mem_of_getElem? (i := 17) rfl)) (hw _ (List.mem_of_getElem? (i := 5) rfl)) (by decide) (by decide)) (g := (mkF m 10 #[.val (.ref a1)] [(.ref w6), (.ref w4), (.ref w2), (.ref a1)])) rfl (by rw [hml]; rfl) (argsL := [(.ref a1), (.ref w2), (.ref w4), (.ref w6)]) (rest := []) (lenOf pd_1 rfl) rfl (by show 2 * 0 + _ ≤ _; exact Nat.le_of_eq rfl) (hb hby d1_10) (fun _ _ => ⟨rfl, e7, (by decide : 0 + 0 ≤ _), (by decide : 0 + 0 ≤ _)⟩)
  dsimp only [Pt.U, Pt.locs, Pt.cells, Pt.slots] at X9 l9 y9 z9 st9 hQ9
  subst l9 y9 z9
  obtain ⟨rfl, N9q, eq9⟩ := hQ9
  have N9 := Fr.app N0 N9q
  refine Go.st st9 ?_
  show Go p e below _ (T9.setTop (mkF m 13 #[.val (.ref a1)] [(.ref w6)]))
  exact Go.ret (Q := Qm1_fffft Z a1 w2 w4 w6 w8 h0 n0) X9 (v := some (.ref w6)) (fun h => by rw [Bd.returns] at h; cases h) Bd.notSynchronized (fun fs hr => retOut X9 hx Bd.returns rfl (Or.inr (Or.inr (Or.inr (Or.inr ⟨rfl, rfl, rfl⟩)))) (hb hby d1_13) hr) eq9 ⟨rfl, N9, rfl⟩ (by decide) (by decide)
def Q0 (n0 : Nat) (v : Option Value) (h : Heap) (L : List Loc) : Prop := v = some (.int (1 : Int32)) ∧ Fr n0 L
set_option maxRecDepth 65536 in
set_option maxHeartbeats 40000000 in
theorem rm0 (l : Launch) (Z : State) (a0 : Array Value) (hw : ∀ d ∈ tables_1, d.before a0 Z = true) (ws : List Jvm.Cond) (p1 : Int32) (w_PERSON : Addr) (w_VARIANT_ACCESS_POINT_FOR_PERSON : Addr) (w_VARIANT_ACCESS_POINT_FOR_CORPORATE_BODY : Addr) (w_VARIANT_ACCESS_POINT_FOR_FAMILY : Addr) (w_FAMILY : Addr) (w_CORPORATE_BODY : Addr) (h0 : Heap) (n0 : Nat) (Z0 : n0 ≤ h0.size) (S_PERSON : Sta Z h0 "com/example/colophon/colophon/Rda$Entity" "PERSON" "Lcom/example/colophon/colophon/Rda$Entity;" (.ref w_PERSON)) (E_w_PERSON : Exa Z h0 w_PERSON "com/example/colophon/colophon/Rda$Entity") (S_VARIANT_ACCESS_POINT_FOR_PERSON : Sta Z h0 "com/example/colophon/colophon/Rda$Relationship" "VARIANT_ACCESS_POINT_FOR_PERSON" "Lcom/example/colophon/colophon/Rda$Relationship;" (.ref w_VARIANT_ACCESS_POINT_FOR_PERSON)) (E_w_VARIANT_ACCESS_POINT_FOR_PERSON : Exa Z h0 w_VARIANT_ACCESS_POINT_FOR_PERSON "com/example/colophon/colophon/Rda$Relationship") (S_VARIANT_ACCESS_POINT_FOR_CORPORATE_BODY : Sta Z h0 "com/example/colophon/colophon/Rda$Relationship" "VARIANT_ACCESS_POINT_FOR_CORPORATE_BODY" "Lcom/example/colophon/colophon/Rda$Relationship;" (.ref w_VARIANT_ACCESS_POINT_FOR_CORPORATE_BODY)) (E_w_VARIANT_ACCESS_POINT_FOR_CORPORATE_BODY : Exa Z h0 w_VARIANT_ACCESS_POINT_FOR_CORPORATE_BODY "com/example/colophon/colophon/Rda$Relationship") (S_VARIANT_ACCESS_POINT_FOR_FAMILY : Sta Z h0 "com/example/colophon/colophon/Rda$Relationship" "VARIANT_ACCESS_POINT_FOR_FAMILY" "Lcom/example/colophon/colophon/Rda$Relationship;" (.ref w_VARIANT_ACCESS_POINT_FOR_FAMILY)) (E_w_VARIANT_ACCESS_POINT_FOR_FAMILY : Exa Z h0 w_VARIANT_ACCESS_POINT_FOR_FAMILY "com/example/colophon/colophon/Rda$Relationship") (S_FAMILY : Sta Z h0 "com/example/colophon/colophon/Rda$Entity" "FAMILY" "Lcom/example/colophon/colophon/Rda$Entity;" (.ref w_FAMILY)) (E_w_FAMILY : Exa Z h0 w_FAMILY "com/example/colophon/colophon/Rda$Entity") (S_CORPORATE_BODY : Sta Z h0 "com/example/colophon/colophon/Rda$Entity" "CORPORATE_BODY" "Lcom/example/colophon/colophon/Rda$Entity;" (.ref w_CORPORATE_BODY)) (E_w_CORPORATE_BODY : Exa Z h0 w_CORPORATE_BODY "com/example/colophon/colophon/Rda$Entity") (F_ordinal_w_PERSON : Fld Z h0 w_PERSON "java/lang/Enum" "ordinal" "I" (.int (1 : Int32))) (F_ordinal_w_FAMILY : Fld Z h0 w_FAMILY "java/lang/Enum" "ordinal" "I" (.int (5 : Int32))) (F_ordinal_w_CORPORATE_BODY : Fld Z h0 w_CORPORATE_BODY "java/lang/Enum" "ordinal" "I" (.int (2 : Int32))) :
    MetFree l x (head1 (Jvm.Cond.code x code maxLocals ret :: ws) room_1) (fun a U => a = #[(.int p1)] ∧ Z.Warmed39 U.vm ∧ U.heap = h0) (fun _ _ _ _ _ => True) (fun _ U o U' => ∃ v L, o = .returned v ∧ Q0 n0 v U'.heap L ∧ FrameEnd U o U' L room_1.cells room_1.slots) := by
  refine MetFree.of_bodySF (plainFor_of_name pn_0) hisR ?_
  intro p e s m args below meth c s₁ Bd hml0 hP hK
  obtain ⟨rfl, hZ, hh⟩ := hP
  have hx := Bd.exec
  have hby := Bd.bytes
  have hml : c.maxLocals = 4 := hml0
  have hown : s.vm.findClass "com/example/colophon/colophon/RelationshipVariantAccessPointPinLaw" = some m.cls := findClass_of_methodNamed Bd.named
  have hnm := (name_of_methodNamed Bd.named Bd.method).1
  have X0 : Stand p l e room_1 s m #[(.int p1)] below meth c s₁ [] 0 0 := Stand.of_body Bd
  have e0 : s₁.heap = h0 := by rw [← hh, Bd.state]; rfl
  have N0 := Fr.nil n0
  refine Go.en (ef_0 m p1) ?_
  show Go p e below _ (s₁.setTop (mkF m 0 #[.val (.int p1), .unset, .unset, .unset] []))
  refine Go.st (fun _ kk => XS.iloadN X0.here hx rfl (hb hby at_0) rfl  kk) ?_
  show Go p e below _ (s₁.setTop (mkF m 1 #[.val (.int p1), .unset, .unset, .unset] [(.int p1)]))
  refine Go.st (fun _ kk => X0.ldcInt hx hown (mvT hZ (hw _ (List.mem_of_getElem? (i := 0) rfl))) (g := (mkF m 1 #[.val (.int p1), .unset, .unset, .unset] [(.int p1)])) rfl (hb hby at_1) _ kk) ?_
  show Go p e below _ (s₁.setTop (mkF m 3 #[.val (.int p1), .unset, .unset, .unset] [(.int (2147483647 : Int32)), (.int p1)]))
  refine Go.st (fun _ kk => XS.iand X0.here hx rfl (hb hby at_3) rfl kk) ?_
  show Go p e below _ (s₁.setTop (mkF m 4 #[.val (.int p1), .unset, .unset, .unset] [(.int (p1 &&& (2147483647 : Int32)))]))
  refine Go.st (fun _ kk => XS.iconst X0.here hx rfl (hb hby at_4) kk) ?_
  show Go p e below _ (s₁.setTop (mkF m 5 #[.val (.int p1), .unset, .unset, .unset] [(.int (3 : Int32)), (.int (p1 &&& (2147483647 : Int32)))]))
  refine Go.st (fun _ kk => iremM (g := (mkF m 5 #[.val (.int p1), .unset, .unset, .unset] [(.int (3 : Int32)), (.int (p1 &&& (2147483647 : Int32)))])) X0 hx rfl (hb hby at_5) rfl (by decide : ¬ ((3 : Int32) = (0 : Int32))) kk) ?_
  show Go p e below _ (s₁.setTop (mkF m 6 #[.val (.int p1), .unset, .unset, .unset] [(.int ((p1 &&& (2147483647 : Int32)) % (3 : Int32)))]))
  rcases (own_k p1 : ((p1 &&& (2147483647 : Int32)) % (3 : Int32)) = (0 : Int32) ∨ ((p1 &&& (2147483647 : Int32)) % (3 : Int32)) = (1 : Int32) ∨ ((p1 &&& (2147483647 : Int32)) % (3 : Int32)) = (2 : Int32)) with hk2 | hk3 | hk4
  · skip
    rw [hk2]
    show Go p e below _ (s₁.setTop (mkF m 6 #[.val (.int p1), .unset, .unset, .unset] [(.int (0 : Int32))]))
    refine Go.st (fun _ kk => XS.istoreN X0.here hx rfl (hb hby at_6) rfl (l' := #[.val (.int p1), .val (.int (0 : Int32)), .unset, .unset]) rfl kk) ?_
    show Go p e below _ (s₁.setTop (mkF m 7 #[.val (.int p1), .val (.int (0 : Int32)), .unset, .unset] []))
    refine Go.st (fun _ kk => XS.iloadN X0.here hx rfl (hb hby at_7) rfl  kk) ?_
    show Go p e below _ (s₁.setTop (mkF m 8 #[.val (.int p1), .val (.int (0 : Int32)), .unset, .unset] [(.int (0 : Int32))]))
    refine Go.st (fun _ kk => XS.ifNo X0.here hx rfl (hb hby at_8) rfl ((if0 _ _).trans (teq (by decide : ((0 : Int32) = (0 : Int32)))).2) kk) ?_
    show Go p e below _ (s₁.setTop (mkF m 11 #[.val (.int p1), .val (.int (0 : Int32)), .unset, .unset] []))
    obtain ⟨T5, X5, e5, st5⟩ := getS2 X0 hx hZ hown (host := "") (Or.inl (hw _ (List.mem_of_getElem? (i := 1) rfl))) Via.refl e0 S_PERSON (g := (mkF m 11 #[.val (.int p1), .val (.int (0 : Int32)), .unset, .unset] [])) rfl (hb hby at_11)
    refine Go.st st5 ?_
    show Go p e below _ (T5.setTop (mkF m 14 #[.val (.int p1), .val (.int (0 : Int32)), .unset, .unset] [(.ref w_PERSON)]))
    refine Go.st (fun _ kk => XS.astoreN X5.here hx rfl (hb hby at_14) rfl rfl (l' := #[.val (.int p1), .val (.int (0 : Int32)), .val (.ref w_PERSON), .unset]) rfl kk) ?_
    show Go p e below _ (T5.setTop (mkF m 15 #[.val (.int p1), .val (.int (0 : Int32)), .val (.ref w_PERSON), .unset] []))
    obtain ⟨T6, X6, e6, st6⟩ := getS2 X5 hx hZ hown (host := "") (Or.inl (hw _ (List.mem_of_getElem? (i := 4) rfl))) Via.refl e5 S_VARIANT_ACCESS_POINT_FOR_PERSON (g := (mkF m 15 #[.val (.int p1), .val (.int (0 : Int32)), .val (.ref w_PERSON), .unset] [])) rfl (hb hby at_15)
    refine Go.st st6 ?_
    show Go p e below _ (T6.setTop (mkF m 18 #[.val (.int p1), .val (.int (0 : Int32)), .val (.ref w_PERSON), .unset] [(.ref w_VARIANT_ACCESS_POINT_FOR_PERSON)]))
    refine Go.st (fun _ kk => XS.astoreN X6.here hx rfl (hb hby at_18) rfl rfl (l' := #[.val (.int p1), .val (.int (0 : Int32)), .val (.ref w_PERSON), .val (.ref w_VARIANT_ACCESS_POINT_FOR_PERSON)]) rfl kk) ?_
    show Go p e below _ (T6.setTop (mkF m 19 #[.val (.int p1), .val (.int (0 : Int32)), .val (.ref w_PERSON), .val (.ref w_VARIANT_ACCESS_POINT_FOR_PERSON)] []))
    refine Go.st (fun _ kk => XS.goto X6.here hx rfl (pc0 := 19) (pc' := 46) rfl (hb hby at_19) (by decide) (by decide) kk) ?_
    show Go p e below _ (T6.setTop (mkF m 46 #[.val (.int p1), .val (.int (0 : Int32)), .val (.ref w_PERSON), .val (.ref w_VARIANT_ACCESS_POINT_FOR_PERSON)] []))
    refine Go.st (fun _ kk => XS.aloadN X6.here hx rfl (hb hby at_46) rfl rfl  kk) ?_
    show Go p e below _ (T6.setTop (mkF m 47 #[.val (.int p1), .val (.int (0 : Int32)), .val (.ref w_PERSON), .val (.ref w_VARIANT_ACCESS_POINT_FOR_PERSON)] [(.ref w_PERSON)]))
    obtain ⟨_, _, ⟨T7, L7, k7, n7⟩, -, X7, ⟨Lc7, hQ7, l7, y7, z7⟩, st7⟩ := Jvm.LawKit.callS X6 hx (y := (⟨"com/example/colophon/colophon/Rda$Relationship", "variantAccessPoint", "(Lcom/example/colophon/colophon/Rda$Entity;)Lcom/example/colophon/colophon/Rda$Relationship;"⟩ : MethodName)) hown (mvT hZ (hw _ (List.mem_of_getElem? (i := 7) rfl))) (mvT hZ (hw _ (List.mem_of_getElem? (i := 8) rfl))) (mvT hZ (hw _ (List.mem_of_getElem? (i := 5) rfl))) (mvT hZ (hw _ (List.mem_of_getElem? (i := 9) rfl))) (by decide) (backOf (W := 0) (rm1_t l Z a0 hw [] w_PERSON w_VARIANT_ACCESS_POINT_FOR_PERSON w_VARIANT_ACCESS_POINT_FOR_CORPORATE_BODY w_VARIANT_ACCESS_POINT_FOR_FAMILY (1 : Int32) h0 n0 Z0 S_VARIANT_ACCESS_POINT_FOR_PERSON S_VARIANT_ACCESS_POINT_FOR_CORPORATE_BODY S_VARIANT_ACCESS_POINT_FOR_FAMILY (by decide : ((1 : Int32) = (1 : Int32))) E_w_PERSON F_ordinal_w_PERSON) hZ (hw _ (List.mem_of_getElem? (i := 9) rfl)) (hw _ (List.mem_of_getElem? (i := 5) rfl)) (by decide) (by decide)) (g := (mkF m 47 #[.val (.int p1), .val (.int (0 : Int32)), .val (.ref w_PERSON), .val (.ref w_VARIANT_ACCESS_POINT_FOR_PERSON)] [(.ref w_PERSON)])) rfl (by rw [hml]; rfl) (argsL := [(.ref w_PERSON)]) (rest := []) (lenOf pd_2 rfl) rfl (by show 2 * 0 + _ ≤ _; exact Nat.le_of_eq rfl) (hb hby at_47) (fun _ _ => ⟨rfl, e6, (by decide : 0 + 0 ≤ _), (by decide : 0 + 0 ≤ _)⟩)
    dsimp only [Pt.U, Pt.locs, Pt.cells, Pt.slots] at X7 l7 y7 z7 st7 hQ7
    subst l7 y7 z7
    obtain ⟨rfl, N7q, eq7⟩ := hQ7
    have N7 := Fr.app N0 N7q
    refine Go.st st7 ?_
    show Go p e below _ (T7.setTop (mkF m 50 #[.val (.int p1), .val (.int (0 : Int32)), .val (.ref w_PERSON), .val (.ref w_VARIANT_ACCESS_POINT_FOR_PERSON)] [(.ref w_VARIANT_ACCESS_POINT_FOR_PERSON)]))
    refine Go.st (fun _ kk => XS.aloadN X7.here hx rfl (hb hby at_50) rfl rfl  kk) ?_
    show Go p e below _ (T7.setTop (mkF m 51 #[.val (.int p1), .val (.int (0 : Int32)), .val (.ref w_PERSON), .val (.ref w_VARIANT_ACCESS_POINT_FOR_PERSON)] [(.ref w_VARIANT_ACCESS_POINT_FOR_PERSON), (.ref w_VARIANT_ACCESS_POINT_FOR_PERSON)]))
    refine Go.st (fun _ kk => Jvm.RoadKit.acmp (g := (mkF m 51 #[.val (.int p1), .val (.int (0 : Int32)), .val (.ref w_PERSON), .val (.ref w_VARIANT_ACCESS_POINT_FOR_PERSON)] [(.ref w_VARIANT_ACCESS_POINT_FOR_PERSON), (.ref w_VARIANT_ACCESS_POINT_FOR_PERSON)])) X7 hx rfl rfl rfl (pc0 := 51) (pc' := 54) (same := true) rfl (hb hby at_51) rfl (decide_eq_true (congrArg Value.ref (rfl : w_VARIANT_ACCESS_POINT_FOR_PERSON = w_VARIANT_ACCESS_POINT_FOR_PERSON))) (by decide) (by decide) kk) ?_
    show Go p e below _ (T7.setTop (mkF m 54 #[.val (.int p1), .val (.int (0 : Int32)), .val (.ref w_PERSON), .val (.ref w_VARIANT_ACCESS_POINT_FOR_PERSON)] []))
    refine Go.st (fun _ kk => XS.iconst X7.here hx rfl (hb hby at_54) kk) ?_
    show Go p e below _ (T7.setTop (mkF m 55 #[.val (.int p1), .val (.int (0 : Int32)), .val (.ref w_PERSON), .val (.ref w_VARIANT_ACCESS_POINT_FOR_PERSON)] [(.int (1 : Int32))]))
    refine Go.st (fun _ kk => XS.goto X7.here hx rfl (pc0 := 55) (pc' := 59) rfl (hb hby at_55) (by decide) (by decide) kk) ?_
    show Go p e below _ (T7.setTop (mkF m 59 #[.val (.int p1), .val (.int (0 : Int32)), .val (.ref w_PERSON), .val (.ref w_VARIANT_ACCESS_POINT_FOR_PERSON)] [(.int (1 : Int32))]))
    exact Go.ret (Q := Q0 n0) X7 (v := some (.int (1 : Int32))) (fun h => by rw [Bd.returns] at h; cases h) Bd.notSynchronized (fun fs hr => retN X7 hx (t := .boolean) Bd.returns (by simp) (hb hby at_59) hr) eq7 ⟨rfl, N7⟩ (by decide) (by decide)
  · skip
    rw [hk3]
    show Go p e below _ (s₁.setTop (mkF m 6 #[.val (.int p1), .unset, .unset, .unset] [(.int (1 : Int32))]))
    refine Go.st (fun _ kk => XS.istoreN X0.here hx rfl (hb hby at_6) rfl (l' := #[.val (.int p1), .val (.int (1 : Int32)), .unset, .unset]) rfl kk) ?_
    show Go p e below _ (s₁.setTop (mkF m 7 #[.val (.int p1), .val (.int (1 : Int32)), .unset, .unset] []))
    refine Go.st (fun _ kk => XS.iloadN X0.here hx rfl (hb hby at_7) rfl  kk) ?_
    show Go p e below _ (s₁.setTop (mkF m 8 #[.val (.int p1), .val (.int (1 : Int32)), .unset, .unset] [(.int (1 : Int32))]))
    refine Go.st (fun _ kk => XS.ifYes X0.here hx rfl (pc0 := 8) (pc' := 22) rfl (hb hby at_8) rfl ((if0 _ _).trans (feq (by decide : ¬ ((1 : Int32) = (0 : Int32)))).2) (by decide) (by decide) kk) ?_
    show Go p e below _ (s₁.setTop (mkF m 22 #[.val (.int p1), .val (.int (1 : Int32)), .unset, .unset] []))
    refine Go.st (fun _ kk => XS.iloadN X0.here hx rfl (hb hby at_22) rfl  kk) ?_
    show Go p e below _ (s₁.setTop (mkF m 23 #[.val (.int p1), .val (.int (1 : Int32)), .unset, .unset] [(.int (1 : Int32))]))
    refine Go.st (fun _ kk => XS.iconst X0.here hx rfl (hb hby at_23) kk) ?_
    show Go p e below _ (s₁.setTop (mkF m 24 #[.val (.int p1), .val (.int (1 : Int32)), .unset, .unset] [(.int (1 : Int32)), (.int (1 : Int32))]))
    refine Go.st (fun _ kk => XS.icmpNo X0.here hx rfl (hb hby at_24) rfl (teq (by decide : ((1 : Int32) = (1 : Int32)))).2 kk) ?_
    show Go p e below _ (s₁.setTop (mkF m 27 #[.val (.int p1), .val (.int (1 : Int32)), .unset, .unset] []))
    obtain ⟨T8, X8, e8, st8⟩ := getS2 X0 hx hZ hown (host := "") (Or.inl (hw _ (List.mem_of_getElem? (i := 30) rfl))) Via.refl e0 S_CORPORATE_BODY (g := (mkF m 27 #[.val (.int p1), .val (.int (1 : Int32)), .unset, .unset] [])) rfl (hb hby at_27)
    refine Go.st st8 ?_
    show Go p e below _ (T8.setTop (mkF m 30 #[.val (.int p1), .val (.int (1 : Int32)), .unset, .unset] [(.ref w_CORPORATE_BODY)]))
    refine Go.st (fun _ kk => XS.astoreN X8.here hx rfl (hb hby at_30) rfl rfl (l' := #[.val (.int p1), .val (.int (1 : Int32)), .val (.ref w_CORPORATE_BODY), .unset]) rfl kk) ?_
    show Go p e below _ (T8.setTop (mkF m 31 #[.val (.int p1), .val (.int (1 : Int32)), .val (.ref w_CORPORATE_BODY), .unset] []))
    obtain ⟨T9, X9, e9, st9⟩ := getS2 X8 hx hZ hown (host := "") (Or.inl (hw _ (List.mem_of_getElem? (i := 32) rfl))) Via.refl e8 S_VARIANT_ACCESS_POINT_FOR_CORPORATE_BODY (g := (mkF m 31 #[.val (.int p1), .val (.int (1 : Int32)), .val (.ref w_CORPORATE_BODY), .unset] [])) rfl (hb hby at_31)
    refine Go.st st9 ?_
    show Go p e below _ (T9.setTop (mkF m 34 #[.val (.int p1), .val (.int (1 : Int32)), .val (.ref w_CORPORATE_BODY), .unset] [(.ref w_VARIANT_ACCESS_POINT_FOR_CORPORATE_BODY)]))
    refine Go.st (fun _ kk => XS.astoreN X9.here hx rfl (hb hby at_34) rfl rfl (l' := #[.val (.int p1), .val (.int (1 : Int32)), .val (.ref w_CORPORATE_BODY), .val (.ref w_VARIANT_ACCESS_POINT_FOR_CORPORATE_BODY)]) rfl kk) ?_
    show Go p e below _ (T9.setTop (mkF m 35 #[.val (.int p1), .val (.int (1 : Int32)), .val (.ref w_CORPORATE_BODY), .val (.ref w_VARIANT_ACCESS_POINT_FOR_CORPORATE_BODY)] []))
    refine Go.st (fun _ kk => XS.goto X9.here hx rfl (pc0 := 35) (pc' := 46) rfl (hb hby at_35) (by decide) (by decide) kk) ?_
    show Go p e below _ (T9.setTop (mkF m 46 #[.val (.int p1), .val (.int (1 : Int32)), .val (.ref w_CORPORATE_BODY), .val (.ref w_VARIANT_ACCESS_POINT_FOR_CORPORATE_BODY)] []))
    refine Go.st (fun _ kk => XS.aloadN X9.here hx rfl (hb hby at_46) rfl rfl  kk) ?_
    show Go p e below _ (T9.setTop (mkF m 47 #[.val (.int p1), .val (.int (1 : Int32)), .val (.ref w_CORPORATE_BODY), .val (.ref w_VARIANT_ACCESS_POINT_FOR_CORPORATE_BODY)] [(.ref w_CORPORATE_BODY)]))
    obtain ⟨_, _, ⟨T10, L10, k10, n10⟩, -, X10, ⟨Lc10, hQ10, l10, y10, z10⟩, st10⟩ := Jvm.LawKit.callS X9 hx (y := (⟨"com/example/colophon/colophon/Rda$Relationship", "variantAccessPoint", "(Lcom/example/colophon/colophon/Rda$Entity;)Lcom/example/colophon/colophon/Rda$Relationship;"⟩ : MethodName)) hown (mvT hZ (hw _ (List.mem_of_getElem? (i := 7) rfl))) (mvT hZ (hw _ (List.mem_of_getElem? (i := 8) rfl))) (mvT hZ (hw _ (List.mem_of_getElem? (i := 5) rfl))) (mvT hZ (hw _ (List.mem_of_getElem? (i := 9) rfl))) (by decide) (backOf (W := 0) (rm1_ft l Z a0 hw [] w_CORPORATE_BODY w_VARIANT_ACCESS_POINT_FOR_PERSON w_VARIANT_ACCESS_POINT_FOR_CORPORATE_BODY w_VARIANT_ACCESS_POINT_FOR_FAMILY (2 : Int32) h0 n0 Z0 S_VARIANT_ACCESS_POINT_FOR_PERSON S_VARIANT_ACCESS_POINT_FOR_CORPORATE_BODY S_VARIANT_ACCESS_POINT_FOR_FAMILY (by decide : ¬ ((2 : Int32) = (1 : Int32))) (by decide : ((2 : Int32) = (2 : Int32))) E_w_CORPORATE_BODY F_ordinal_w_CORPORATE_BODY) hZ (hw _ (List.mem_of_getElem? (i := 9) rfl)) (hw _ (List.mem_of_getElem? (i := 5) rfl)) (by decide) (by decide)) (g := (mkF m 47 #[.val (.int p1), .val (.int (1 : Int32)), .val (.ref w_CORPORATE_BODY), .val (.ref w_VARIANT_ACCESS_POINT_FOR_CORPORATE_BODY)] [(.ref w_CORPORATE_BODY)])) rfl (by rw [hml]; rfl) (argsL := [(.ref w_CORPORATE_BODY)]) (rest := []) (lenOf pd_2 rfl) rfl (by show 2 * 0 + _ ≤ _; exact Nat.le_of_eq rfl) (hb hby at_47) (fun _ _ => ⟨rfl, e9, (by decide : 0 + 0 ≤ _), (by decide : 0 + 0 ≤ _)⟩)
    dsimp only [Pt.U, Pt.locs, Pt.cells, Pt.slots] at X10 l10 y10 z10 st10 hQ10
    subst l10 y10 z10
    obtain ⟨rfl, N10q, eq10⟩ := hQ10
    have N10 := Fr.app N0 N10q
    refine Go.st st10 ?_
    show Go p e below _ (T10.setTop (mkF m 50 #[.val (.int p1), .val (.int (1 : Int32)), .val (.ref w_CORPORATE_BODY), .val (.ref w_VARIANT_ACCESS_POINT_FOR_CORPORATE_BODY)] [(.ref w_VARIANT_ACCESS_POINT_FOR_CORPORATE_BODY)]))
    refine Go.st (fun _ kk => XS.aloadN X10.here hx rfl (hb hby at_50) rfl rfl  kk) ?_
    show Go p e below _ (T10.setTop (mkF m 51 #[.val (.int p1), .val (.int (1 : Int32)), .val (.ref w_CORPORATE_BODY), .val (.ref w_VARIANT_ACCESS_POINT_FOR_CORPORATE_BODY)] [(.ref w_VARIANT_ACCESS_POINT_FOR_CORPORATE_BODY), (.ref w_VARIANT_ACCESS_POINT_FOR_CORPORATE_BODY)]))
    refine Go.st (fun _ kk => Jvm.RoadKit.acmp (g := (mkF m 51 #[.val (.int p1), .val (.int (1 : Int32)), .val (.ref w_CORPORATE_BODY), .val (.ref w_VARIANT_ACCESS_POINT_FOR_CORPORATE_BODY)] [(.ref w_VARIANT_ACCESS_POINT_FOR_CORPORATE_BODY), (.ref w_VARIANT_ACCESS_POINT_FOR_CORPORATE_BODY)])) X10 hx rfl rfl rfl (pc0 := 51) (pc' := 54) (same := true) rfl (hb hby at_51) rfl (decide_eq_true (congrArg Value.ref (rfl : w_VARIANT_ACCESS_POINT_FOR_CORPORATE_BODY = w_VARIANT_ACCESS_POINT_FOR_CORPORATE_BODY))) (by decide) (by decide) kk) ?_
    show Go p e below _ (T10.setTop (mkF m 54 #[.val (.int p1), .val (.int (1 : Int32)), .val (.ref w_CORPORATE_BODY), .val (.ref w_VARIANT_ACCESS_POINT_FOR_CORPORATE_BODY)] []))
    refine Go.st (fun _ kk => XS.iconst X10.here hx rfl (hb hby at_54) kk) ?_
    show Go p e below _ (T10.setTop (mkF m 55 #[.val (.int p1), .val (.int (1 : Int32)), .val (.ref w_CORPORATE_BODY), .val (.ref w_VARIANT_ACCESS_POINT_FOR_CORPORATE_BODY)] [(.int (1 : Int32))]))
    refine Go.st (fun _ kk => XS.goto X10.here hx rfl (pc0 := 55) (pc' := 59) rfl (hb hby at_55) (by decide) (by decide) kk) ?_
    show Go p e below _ (T10.setTop (mkF m 59 #[.val (.int p1), .val (.int (1 : Int32)), .val (.ref w_CORPORATE_BODY), .val (.ref w_VARIANT_ACCESS_POINT_FOR_CORPORATE_BODY)] [(.int (1 : Int32))]))
    exact Go.ret (Q := Q0 n0) X10 (v := some (.int (1 : Int32))) (fun h => by rw [Bd.returns] at h; cases h) Bd.notSynchronized (fun fs hr => retN X10 hx (t := .boolean) Bd.returns (by simp) (hb hby at_59) hr) eq10 ⟨rfl, N10⟩ (by decide) (by decide)
  · skip
    rw [hk4]
    show Go p e below _ (s₁.setTop (mkF m 6 #[.val (.int p1), .unset, .unset, .unset] [(.int (2 : Int32))]))
    refine Go.st (fun _ kk => XS.istoreN X0.here hx rfl (hb hby at_6) rfl (l' := #[.val (.int p1), .val (.int (2 : Int32)), .unset, .unset]) rfl kk) ?_
    show Go p e below _ (s₁.setTop (mkF m 7 #[.val (.int p1), .val (.int (2 : Int32)), .unset, .unset] []))
    refine Go.st (fun _ kk => XS.iloadN X0.here hx rfl (hb hby at_7) rfl  kk) ?_
    show Go p e below _ (s₁.setTop (mkF m 8 #[.val (.int p1), .val (.int (2 : Int32)), .unset, .unset] [(.int (2 : Int32))]))
    refine Go.st (fun _ kk => XS.ifYes X0.here hx rfl (pc0 := 8) (pc' := 22) rfl (hb hby at_8) rfl ((if0 _ _).trans (feq (by decide : ¬ ((2 : Int32) = (0 : Int32)))).2) (by decide) (by decide) kk) ?_
    show Go p e below _ (s₁.setTop (mkF m 22 #[.val (.int p1), .val (.int (2 : Int32)), .unset, .unset] []))
    refine Go.st (fun _ kk => XS.iloadN X0.here hx rfl (hb hby at_22) rfl  kk) ?_
    show Go p e below _ (s₁.setTop (mkF m 23 #[.val (.int p1), .val (.int (2 : Int32)), .unset, .unset] [(.int (2 : Int32))]))
    refine Go.st (fun _ kk => XS.iconst X0.here hx rfl (hb hby at_23) kk) ?_
    show Go p e below _ (s₁.setTop (mkF m 24 #[.val (.int p1), .val (.int (2 : Int32)), .unset, .unset] [(.int (1 : Int32)), (.int (2 : Int32))]))
    refine Go.st (fun _ kk => XS.icmpYes X0.here hx rfl (pc0 := 24) (pc' := 38) rfl (hb hby at_24) rfl (feq (by decide : ¬ ((2 : Int32) = (1 : Int32)))).2 (by decide) (by decide) kk) ?_
    show Go p e below _ (s₁.setTop (mkF m 38 #[.val (.int p1), .val (.int (2 : Int32)), .unset, .unset] []))
    obtain ⟨T11, X11, e11, st11⟩ := getS2 X0 hx hZ hown (host := "") (Or.inl (hw _ (List.mem_of_getElem? (i := 27) rfl))) Via.refl e0 S_FAMILY (g := (mkF m 38 #[.val (.int p1), .val (.int (2 : Int32)), .unset, .unset] [])) rfl (hb hby at_38)
    refine Go.st st11 ?_
    show Go p e below _ (T11.setTop (mkF m 41 #[.val (.int p1), .val (.int (2 : Int32)), .unset, .unset] [(.ref w_FAMILY)]))
    refine Go.st (fun _ kk => XS.astoreN X11.here hx rfl (hb hby at_41) rfl rfl (l' := #[.val (.int p1), .val (.int (2 : Int32)), .val (.ref w_FAMILY), .unset]) rfl kk) ?_
    show Go p e below _ (T11.setTop (mkF m 42 #[.val (.int p1), .val (.int (2 : Int32)), .val (.ref w_FAMILY), .unset] []))
    obtain ⟨T12, X12, e12, st12⟩ := getS2 X11 hx hZ hown (host := "") (Or.inl (hw _ (List.mem_of_getElem? (i := 29) rfl))) Via.refl e11 S_VARIANT_ACCESS_POINT_FOR_FAMILY (g := (mkF m 42 #[.val (.int p1), .val (.int (2 : Int32)), .val (.ref w_FAMILY), .unset] [])) rfl (hb hby at_42)
    refine Go.st st12 ?_
    show Go p e below _ (T12.setTop (mkF m 45 #[.val (.int p1), .val (.int (2 : Int32)), .val (.ref w_FAMILY), .unset] [(.ref w_VARIANT_ACCESS_POINT_FOR_FAMILY)]))
    refine Go.st (fun _ kk => XS.astoreN X12.here hx rfl (hb hby at_45) rfl rfl (l' := #[.val (.int p1), .val (.int (2 : Int32)), .val (.ref w_FAMILY), .val (.ref w_VARIANT_ACCESS_POINT_FOR_FAMILY)]) rfl kk) ?_
    show Go p e below _ (T12.setTop (mkF m 46 #[.val (.int p1), .val (.int (2 : Int32)), .val (.ref w_FAMILY), .val (.ref w_VARIANT_ACCESS_POINT_FOR_FAMILY)] []))
    refine Go.st (fun _ kk => XS.aloadN X12.here hx rfl (hb hby at_46) rfl rfl  kk) ?_
    show Go p e below _ (T12.setTop (mkF m 47 #[.val (.int p1), .val (.int (2 : Int32)), .val (.ref w_FAMILY), .val (.ref w_VARIANT_ACCESS_POINT_FOR_FAMILY)] [(.ref w_FAMILY)]))
    obtain ⟨_, _, ⟨T13, L13, k13, n13⟩, -, X13, ⟨Lc13, hQ13, l13, y13, z13⟩, st13⟩ := Jvm.LawKit.callS X12 hx (y := (⟨"com/example/colophon/colophon/Rda$Relationship", "variantAccessPoint", "(Lcom/example/colophon/colophon/Rda$Entity;)Lcom/example/colophon/colophon/Rda$Relationship;"⟩ : MethodName)) hown (mvT hZ (hw _ (List.mem_of_getElem? (i := 7) rfl))) (mvT hZ (hw _ (List.mem_of_getElem? (i := 8) rfl))) (mvT hZ (hw _ (List.mem_of_getElem? (i := 5) rfl))) (mvT hZ (hw _ (List.mem_of_getElem? (i := 9) rfl))) (by decide) (backOf (W := 0) (rm1_fffft l Z a0 hw [] w_FAMILY w_VARIANT_ACCESS_POINT_FOR_PERSON w_VARIANT_ACCESS_POINT_FOR_CORPORATE_BODY w_VARIANT_ACCESS_POINT_FOR_FAMILY (5 : Int32) h0 n0 Z0 S_VARIANT_ACCESS_POINT_FOR_PERSON S_VARIANT_ACCESS_POINT_FOR_CORPORATE_BODY S_VARIANT_ACCESS_POINT_FOR_FAMILY (by decide : ¬ ((5 : Int32) = (1 : Int32))) (by decide : ¬ ((5 : Int32) = (2 : Int32))) (by decide : ¬ ((5 : Int32) = (3 : Int32))) (by decide : ¬ ((5 : Int32) = (4 : Int32))) (by decide : ((5 : Int32) = (5 : Int32))) E_w_FAMILY F_ordinal_w_FAMILY) hZ (hw _ (List.mem_of_getElem? (i := 9) rfl)) (hw _ (List.mem_of_getElem? (i := 5) rfl)) (by decide) (by decide)) (g := (mkF m 47 #[.val (.int p1), .val (.int (2 : Int32)), .val (.ref w_FAMILY), .val (.ref w_VARIANT_ACCESS_POINT_FOR_FAMILY)] [(.ref w_FAMILY)])) rfl (by rw [hml]; rfl) (argsL := [(.ref w_FAMILY)]) (rest := []) (lenOf pd_2 rfl) rfl (by show 2 * 0 + _ ≤ _; exact Nat.le_of_eq rfl) (hb hby at_47) (fun _ _ => ⟨rfl, e12, (by decide : 0 + 0 ≤ _), (by decide : 0 + 0 ≤ _)⟩)
    dsimp only [Pt.U, Pt.locs, Pt.cells, Pt.slots] at X13 l13 y13 z13 st13 hQ13
    subst l13 y13 z13
    obtain ⟨rfl, N13q, eq13⟩ := hQ13
    have N13 := Fr.app N0 N13q
    refine Go.st st13 ?_
    show Go p e below _ (T13.setTop (mkF m 50 #[.val (.int p1), .val (.int (2 : Int32)), .val (.ref w_FAMILY), .val (.ref w_VARIANT_ACCESS_POINT_FOR_FAMILY)] [(.ref w_VARIANT_ACCESS_POINT_FOR_FAMILY)]))
    refine Go.st (fun _ kk => XS.aloadN X13.here hx rfl (hb hby at_50) rfl rfl  kk) ?_
    show Go p e below _ (T13.setTop (mkF m 51 #[.val (.int p1), .val (.int (2 : Int32)), .val (.ref w_FAMILY), .val (.ref w_VARIANT_ACCESS_POINT_FOR_FAMILY)] [(.ref w_VARIANT_ACCESS_POINT_FOR_FAMILY), (.ref w_VARIANT_ACCESS_POINT_FOR_FAMILY)]))
    refine Go.st (fun _ kk => Jvm.RoadKit.acmp (g := (mkF m 51 #[.val (.int p1), .val (.int (2 : Int32)), .val (.ref w_FAMILY), .val (.ref w_VARIANT_ACCESS_POINT_FOR_FAMILY)] [(.ref w_VARIANT_ACCESS_POINT_FOR_FAMILY), (.ref w_VARIANT_ACCESS_POINT_FOR_FAMILY)])) X13 hx rfl rfl rfl (pc0 := 51) (pc' := 54) (same := true) rfl (hb hby at_51) rfl (decide_eq_true (congrArg Value.ref (rfl : w_VARIANT_ACCESS_POINT_FOR_FAMILY = w_VARIANT_ACCESS_POINT_FOR_FAMILY))) (by decide) (by decide) kk) ?_
    show Go p e below _ (T13.setTop (mkF m 54 #[.val (.int p1), .val (.int (2 : Int32)), .val (.ref w_FAMILY), .val (.ref w_VARIANT_ACCESS_POINT_FOR_FAMILY)] []))
    refine Go.st (fun _ kk => XS.iconst X13.here hx rfl (hb hby at_54) kk) ?_
    show Go p e below _ (T13.setTop (mkF m 55 #[.val (.int p1), .val (.int (2 : Int32)), .val (.ref w_FAMILY), .val (.ref w_VARIANT_ACCESS_POINT_FOR_FAMILY)] [(.int (1 : Int32))]))
    refine Go.st (fun _ kk => XS.goto X13.here hx rfl (pc0 := 55) (pc' := 59) rfl (hb hby at_55) (by decide) (by decide) kk) ?_
    show Go p e below _ (T13.setTop (mkF m 59 #[.val (.int p1), .val (.int (2 : Int32)), .val (.ref w_FAMILY), .val (.ref w_VARIANT_ACCESS_POINT_FOR_FAMILY)] [(.int (1 : Int32))]))
    exact Go.ret (Q := Q0 n0) X13 (v := some (.int (1 : Int32))) (fun h => by rw [Bd.returns] at h; cases h) Bd.notSynchronized (fun fs hr => retN X13 hx (t := .boolean) Bd.returns (by simp) (hb hby at_59) hr) eq13 ⟨rfl, N13⟩ (by decide) (by decide)
set_option maxRecDepth 65536 in
set_option maxHeartbeats 40000000 in
theorem comes_1 {Post : Tables → Env → Array Value → State → Outcome → State → Prop} (hpost : ∀ tb e args s v u, (limb_1_1.after args s (.returned v) u = true ∧ limb_1_2.after args s (.returned v) u = true ∧ True) → FrameEnd s (.returned v) u (Jvm.fieldLocs frame_1_writes args s ++ Jvm.arrayLocs frame_1_arrays args s ++ Jvm.staticLocs frame_1_statics s) 0 0 → Post tb e args s (.returned v) u) :
    ArmFor flags0 classFile x code maxLocals ret World_1 tables_1 room_1 Calls_1 rest_1 Pre_1 Post := by
  intro l hfl _ _ p e ha hc hk s m args below hf hA hF happ hP
  obtain ⟨hcalls, hrest, hpre⟩ := hP
  obtain ⟨-, -, -, hnamed, -, -, -, hat⟩ := (Spec.applies_iff hf).mp happ
  obtain ⟨hg, hn⟩ := and_e (Cond.before_iff.mp (show (Jvm.Cond.and given_1 narrow_1).before args s = true from hpre))
  obtain ⟨hcount, hg⟩ := and_e hg
  have hg0 := hg
  obtain ⟨w0, rfl⟩ : ∃ w0 : Value, args = #[w0] := by
    have hs : args.size = 1 := by simpa [Cond.value, given_1] using hcount
    obtain ⟨L⟩ := args
    match L, hs with
    | [w0], _ => exact ⟨w0, rfl⟩
  have hw := fun d (hd : d ∈ tables_1) => atoms_spec (ws := Jvm.Cond.code x code maxLocals ret :: tables_1) hat d (List.mem_cons_of_mem _ hd)
  have hfit : Fit s := fun {y c} hc i hi => by
    obtain ⟨ha, rfl⟩ := Array.getElem?_eq_some_iff.mp hc
    have q := List.all_eq_true.mp ((Array.all_eq_true_iff_forall_mem.mp hF) _ (Array.getElem_mem ha)) i (List.mem_range.mpr hi)
    simpa [Array.getElem?_eq_getElem hi] using q
  obtain ⟨i0, ei0⟩ := is_v hg0
  obtain rfl : w0 = (.int i0) := Option.some.inj ei0
  obtain ⟨hn0, hn⟩ := and_e hn
  obtain ⟨hn1, hn⟩ := and_e hn
  obtain ⟨hn2, hn⟩ := and_e hn
  obtain ⟨hn3, hn⟩ := and_e hn
  obtain ⟨hn4, hn⟩ := and_e hn
  obtain ⟨hn5, hn⟩ := and_e hn
  obtain ⟨hn6, hn⟩ := and_e hn
  obtain ⟨hn7, hn⟩ := and_e hn
  have hn8 := hn
  obtain ⟨w_PERSON, ev_PERSON⟩ := exa_v hn0
  have S_PERSON := Sta.start ev_PERSON (Or.inr ⟨(hw _ (List.mem_of_getElem? (i := 2) rfl)), (hw _ (List.mem_of_getElem? (i := 3) rfl))⟩)
  have E_w_PERSON := Exa.start ev_PERSON hn0
  obtain ⟨w_VARIANT_ACCESS_POINT_FOR_PERSON, ev_VARIANT_ACCESS_POINT_FOR_PERSON⟩ := exa_v hn1
  have S_VARIANT_ACCESS_POINT_FOR_PERSON := Sta.start ev_VARIANT_ACCESS_POINT_FOR_PERSON (Or.inr ⟨(hw _ (List.mem_of_getElem? (i := 5) rfl)), (hw _ (List.mem_of_getElem? (i := 6) rfl))⟩)
  have E_w_VARIANT_ACCESS_POINT_FOR_PERSON := Exa.start ev_VARIANT_ACCESS_POINT_FOR_PERSON hn1
  obtain ⟨w_VARIANT_ACCESS_POINT_FOR_CORPORATE_BODY, ev_VARIANT_ACCESS_POINT_FOR_CORPORATE_BODY⟩ := exa_v hn2
  have S_VARIANT_ACCESS_POINT_FOR_CORPORATE_BODY := Sta.start ev_VARIANT_ACCESS_POINT_FOR_CORPORATE_BODY (Or.inr ⟨(hw _ (List.mem_of_getElem? (i := 5) rfl)), (hw _ (List.mem_of_getElem? (i := 12) rfl))⟩)
  have E_w_VARIANT_ACCESS_POINT_FOR_CORPORATE_BODY := Exa.start ev_VARIANT_ACCESS_POINT_FOR_CORPORATE_BODY hn2
  obtain ⟨w_VARIANT_ACCESS_POINT_FOR_FAMILY, ev_VARIANT_ACCESS_POINT_FOR_FAMILY⟩ := exa_v hn3
  have S_VARIANT_ACCESS_POINT_FOR_FAMILY := Sta.start ev_VARIANT_ACCESS_POINT_FOR_FAMILY (Or.inr ⟨(hw _ (List.mem_of_getElem? (i := 5) rfl)), (hw _ (List.mem_of_getElem? (i := 14) rfl))⟩)
  have E_w_VARIANT_ACCESS_POINT_FOR_FAMILY := Exa.start ev_VARIANT_ACCESS_POINT_FOR_FAMILY hn3
  obtain ⟨w_FAMILY, ev_FAMILY⟩ := exa_v hn5
  have S_FAMILY := Sta.start ev_FAMILY (Or.inr ⟨(hw _ (List.mem_of_getElem? (i := 2) rfl)), (hw _ (List.mem_of_getElem? (i := 28) rfl))⟩)
  have E_w_FAMILY := Exa.start ev_FAMILY hn5
  obtain ⟨w_CORPORATE_BODY, ev_CORPORATE_BODY⟩ := exa_v hn7
  have S_CORPORATE_BODY := Sta.start ev_CORPORATE_BODY (Or.inr ⟨(hw _ (List.mem_of_getElem? (i := 2) rfl)), (hw _ (List.mem_of_getElem? (i := 31) rfl))⟩)
  have E_w_CORPORATE_BODY := Exa.start ev_CORPORATE_BODY hn7
  have F_ordinal_w_PERSON := fldStart ev_PERSON hn4
  have F_ordinal_w_FAMILY := fldStart ev_FAMILY hn6
  have F_ordinal_w_CORPORATE_BODY := fldStart ev_CORPORATE_BODY hn8
  obtain ⟨n, o, h1, h2, h3, _, L, rfl, ⟨rfl, N⟩, hq⟩ := rm0 l s _ hw tables_1 i0 w_PERSON w_VARIANT_ACCESS_POINT_FOR_PERSON w_VARIANT_ACCESS_POINT_FOR_CORPORATE_BODY w_VARIANT_ACCESS_POINT_FOR_FAMILY w_FAMILY w_CORPORATE_BODY s.heap s.heap.size (Nat.le_refl _) S_PERSON E_w_PERSON S_VARIANT_ACCESS_POINT_FOR_PERSON E_w_VARIANT_ACCESS_POINT_FOR_PERSON S_VARIANT_ACCESS_POINT_FOR_CORPORATE_BODY E_w_VARIANT_ACCESS_POINT_FOR_CORPORATE_BODY S_VARIANT_ACCESS_POINT_FOR_FAMILY E_w_VARIANT_ACCESS_POINT_FOR_FAMILY S_FAMILY E_w_FAMILY S_CORPORATE_BODY E_w_CORPORATE_BODY F_ordinal_w_PERSON F_ordinal_w_FAMILY F_ordinal_w_CORPORATE_BODY p e ha hc hk s m _ below hf ((Spec.applies_iff_loose hf).mp happ).1 ⟨rfl, State.Warmed39.refl s, rfl⟩ trivial
  refine ⟨n, _, h1, h2, h3, hpost _ _ _ _ _ _ ⟨Cond.after_iff.mpr rfl, Cond.after_iff.mpr (eq_i res_at (Term.int_eval (1)) rfl), trivial⟩ ⟨hq.1, hq.2.1, (hq.2.2.sift fun y hy => Or.inr (N y hy)).mono (by decide) (by decide)⟩⟩
theorem main_1_1 : Claimed_1_1 := comes_1 fun _ _ _ _ _ _ h hF => ⟨h.1, hF⟩
theorem main_1_2 : Claimed_1_2 := comes_1 fun _ _ _ _ _ _ h hF => ⟨h.2.1, hF⟩
end Jvm.Pilot.@@N@@
namespace Jvm.Pilot.@@N@@
open Jvm Jvm.ClassFile Sem Op Lib Jvm.Free Jvm.Stand Jvm.Pilot.@@N@@.Jvm.D
/-! MADE BY PROGRAM (witnessworld.py) out of the Statement's table words and the real class files: 13 classes; the members and pool entries that the words name. The judged class is class 1, her method 1. -/
namespace start1
open Jvm.ClassFile
def u (s : String) : CpInfo := .utf8 (stringToUtf16 s)
/-- a pool by its gaps: so many unusable entries, then the entry; so many at the end -/
def gap : Nat → List CpInfo → List CpInfo
  | 0, r => r
  | n + 1, r => .unusable :: gap n r
def poolList (es : List (Nat × CpInfo)) (last : Nat) : List CpInfo := es.foldr (fun e r => gap e.1 (e.2 :: r)) (gap last [])
def pool (es : List (Nat × CpInfo)) (last : Nat) : Array CpInfo := ⟨poolList es last⟩
def fileOf (pool : Array CpInfo) (this : Nat) (attrs : Array Attribute := #[]) (ms : Array MethodInfo := #[]) (fl : Nat := 33) (sup : Nat := 0) (ifs : Array Nat := #[]) (fds : Array FieldInfo := #[]) : ClassFile where
  minorVersion := 0
  majorVersion := 65
  constantPool := pool
  accessFlags := fl
  thisClass := this
  superClass := sup
  interfaces := ifs
  fields := fds
  methods := ms
  attributes := attrs
def plain (name : String) (sup : Option ClassId) : Class where
  name := name
  kind := .ordinary
  loader := none
  accessFlags := 33
  super := sup
  interfaces := #[]
  cf := none
  fields := #[]
  methods := #[]
  instanceTypes := #[]
  staticTypes := #[]
  resolved := #[]
  callSites := []
  init := .initialized
  statics := none
  mirror := none

def pool0 : Array CpInfo := pool [(5, u "<init>"), (0, u "()V"), (1, .class_ 10), (1, u "java/lang/Object")] 113

def k0m0 : Method := { name := "<init>", desc := "()V", sig := { parameters := [], returnType := none }, accessFlags := 1, code := none }
/-- java/lang/Object -/
def k0 : Class := { plain "java/lang/Object" none with
  accessFlags := 33
  interfaces := #[]
  cf := some (fileOf pool0 8 #[] #[{ accessFlags := 1, nameIndex := 5, descriptorIndex := 6, attributes := #[] }] 33 0 #[] #[])
  fields := #[]
  methods := #[k0m0]
  instanceTypes := #[]
  staticTypes := #[]
  resolved := Array.replicate 124 none
  statics := none }

def pool1 : Array CpInfo := pool [(2, .class_ 4), (1, u "java/lang/Object"), (0, u "<init>"), (0, u "()V"), (0, .integer 2147483647), (0, .fieldref 9 10), (0, .class_ 11), (0, .nameAndType 12 13), (0, u "com/example/colophon/colophon/Rda$Entity"), (0, u "PERSON"), (0, u "Lcom/example/colophon/colophon/Rda$Entity;"), (0, .fieldref 15 16), (0, .class_ 17), (0, .nameAndType 18 19), (0, u "com/example/colophon/colophon/Rda$Relationship"), (0, u "VARIANT_ACCESS_POINT_FOR_PERSON"), (0, u "Lcom/example/colophon/colophon/Rda$Relationship;"), (0, .fieldref 9 21), (0, .nameAndType 22 13), (0, u "CORPORATE_BODY"), (0, .fieldref 15 24), (0, .nameAndType 25 19), (0, u "VARIANT_ACCESS_POINT_FOR_CORPORATE_BODY"), (0, .fieldref 9 27), (0, .nameAndType 28 13), (0, u "FAMILY"), (0, .fieldref 15 30), (0, .nameAndType 31 19), (0, u "VARIANT_ACCESS_POINT_FOR_FAMILY"), (0, .methodref 15 33), (0, .nameAndType 34 35), (0, u "variantAccessPoint"), (0, u "(Lcom/example/colophon/colophon/Rda$Entity;)Lcom/example/colophon/colophon/Rda$Relationship;"), (0, .class_ 37), (0, u "com/example/colophon/colophon/RelationshipVariantAccessPointPinLaw"), (2, u "law"), (0, u "(I)Z")] 8

def k1m0 : Method := { name := "<init>", desc := "()V", sig := { parameters := [], returnType := none }, accessFlags := 2, code := none }
def k1c1 : Code := { maxStack := 2, maxLocals := 4, code := code, exceptionTable := #[], attributes := #[] }
def k1m1 : Method := { name := "law", desc := "(I)Z", sig := { parameters := [.int], returnType := some .boolean }, accessFlags := 9, code := some k1c1 }
/-- com/example/colophon/colophon/RelationshipVariantAccessPointPinLaw -/
def k1 : Class := { plain "com/example/colophon/colophon/RelationshipVariantAccessPointPinLaw" (some 0) with
  accessFlags := 49
  interfaces := #[]
  cf := some (fileOf pool1 36 #[] #[{ accessFlags := 2, nameIndex := 5, descriptorIndex := 6, attributes := #[] }, { accessFlags := 9, nameIndex := 40, descriptorIndex := 41, attributes := #[] }] 49 2 #[] #[])
  fields := #[]
  methods := #[k1m0, k1m1]
  instanceTypes := #[]
  staticTypes := #[]
  resolved := Array.replicate 50 none
  statics := none }

def pool2 : Array CpInfo := pool [(1, .class_ 2), (0, u "java/lang/constant/Constable"), (0, .class_ 4), (0, u "java/lang/Object")] 6

/-- java/lang/constant/Constable -/
def k2 : Class := { plain "java/lang/constant/Constable" (some 0) with
  accessFlags := 1537
  interfaces := #[]
  cf := some (fileOf pool2 1 #[] #[] 1537 3 #[] #[])
  fields := #[]
  methods := #[]
  instanceTypes := #[]
  staticTypes := #[]
  resolved := Array.replicate 11 none
  statics := none }

def pool3 : Array CpInfo := pool [(1, .class_ 2), (0, u "java/lang/Comparable"), (0, .class_ 4), (0, u "java/lang/Object")] 7

/-- java/lang/Comparable -/
def k3 : Class := { plain "java/lang/Comparable" (some 0) with
  accessFlags := 1537
  interfaces := #[]
  cf := some (fileOf pool3 1 #[] #[] 1537 3 #[] #[])
  fields := #[]
  methods := #[]
  instanceTypes := #[]
  staticTypes := #[]
  resolved := Array.replicate 12 none
  statics := none }

def pool4 : Array CpInfo := pool [(1, .class_ 2), (0, u "java/io/Serializable"), (0, .class_ 4), (0, u "java/lang/Object")] 2

/-- java/io/Serializable -/
def k4 : Class := { plain "java/io/Serializable" (some 0) with
  accessFlags := 1537
  interfaces := #[]
  cf := some (fileOf pool4 1 #[] #[] 1537 3 #[] #[])
  fields := #[]
  methods := #[]
  instanceTypes := #[]
  staticTypes := #[]
  resolved := Array.replicate 7 none
  statics := none }

def pool5 : Array CpInfo := pool [(2, .class_ 4), (1, u "java/lang/Enum"), (0, u "name"), (0, u "Ljava/lang/String;"), (0, .fieldref 2 8), (0, .nameAndType 9 10), (0, u "ordinal"), (0, u "I"), (1, .class_ 14), (1, u "java/lang/Object"), (4, u "hash"), (86, .class_ 108), (1, u "java/lang/Enum$EnumDesc"), (2, .class_ 112), (0, u "java/lang/constant/Constable"), (0, .class_ 114), (0, u "java/lang/Comparable"), (0, .class_ 116), (0, u "java/io/Serializable"), (9, u "()I")] 77

def k5c0 : Code := { maxStack := 1, maxLocals := 1, code := jdk_37_method_2_code, exceptionTable := #[], attributes := #[] }
def k5m0 : Method := { name := "ordinal", desc := "()I", sig := { parameters := [], returnType := some .int }, accessFlags := 17, code := some k5c0 }
/-- java/lang/Enum -/
def k5 : Class := { plain "java/lang/Enum" (some 0) with
  accessFlags := 1057
  interfaces := #[2, 3, 4]
  cf := some (fileOf pool5 2 #[.nestMembers #[106]] #[{ accessFlags := 17, nameIndex := 9, descriptorIndex := 126, attributes := #[] }] 1057 12 #[111, 113, 115] #[{ accessFlags := 18, nameIndex := 5, descriptorIndex := 6, attributes := #[] }, { accessFlags := 18, nameIndex := 9, descriptorIndex := 10, attributes := #[] }, { accessFlags := 2, nameIndex := 19, descriptorIndex := 10, attributes := #[] }])
  fields := #[{ name := "name", type := (.object "java/lang/String"), accessFlags := 18, slot := 0, constantValue := 0 }, { name := "ordinal", type := .int, accessFlags := 18, slot := 1, constantValue := 0 }, { name := "hash", type := .int, accessFlags := 2, slot := 2, constantValue := 0 }]
  methods := #[k5m0]
  instanceTypes := #[(.object "java/lang/String"), .int, .int]
  staticTypes := #[]
  resolved := Array.replicate 204 none
  statics := none }

def pool6 : Array CpInfo := pool [(1, .class_ 2), (0, u "com/example/colophon/colophon/Rda$Entity"), (2, u "WORK"), (0, u "Lcom/example/colophon/colophon/Rda$Entity;"), (2, u "PERSON"), (2, u "CORPORATE_BODY"), (2, u "EXPRESSION"), (2, u "MANIFESTATION"), (2, u "FAMILY"), (2, u "NOMEN"), (2, u "$VALUES"), (0, u "[Lcom/example/colophon/colophon/Rda$Entity;"), (6, .class_ 37), (1, u "java/lang/Enum"), (19, u "term"), (0, u "Lcom/example/colophon/colophon/Rda$Term;"), (50, u "AGENTS"), (0, u "Ljava/util/List;"), (14, .class_ 126), (0, u "com/example/colophon/colophon/Rda")] 3

/-- com/example/colophon/colophon/Rda$Entity -/
def k6 : Class := { plain "com/example/colophon/colophon/Rda$Entity" (some 5) with
  accessFlags := 16432
  interfaces := #[]
  cf := some (fileOf pool6 1 #[.nestHost 125] #[] 16432 35 #[] #[{ accessFlags := 16409, nameIndex := 5, descriptorIndex := 6, attributes := #[] }, { accessFlags := 16409, nameIndex := 9, descriptorIndex := 6, attributes := #[] }, { accessFlags := 16409, nameIndex := 12, descriptorIndex := 6, attributes := #[] }, { accessFlags := 16409, nameIndex := 15, descriptorIndex := 6, attributes := #[] }, { accessFlags := 16409, nameIndex := 18, descriptorIndex := 6, attributes := #[] }, { accessFlags := 16409, nameIndex := 21, descriptorIndex := 6, attributes := #[] }, { accessFlags := 16409, nameIndex := 24, descriptorIndex := 6, attributes := #[] }, { accessFlags := 24, nameIndex := 109, descriptorIndex := 110, attributes := #[] }, { accessFlags := 16, nameIndex := 57, descriptorIndex := 58, attributes := #[] }, { accessFlags := 4122, nameIndex := 27, descriptorIndex := 28, attributes := #[] }])
  fields := #[{ name := "WORK", type := (.object "com/example/colophon/colophon/Rda$Entity"), accessFlags := 16409, slot := 0, constantValue := 0 }, { name := "PERSON", type := (.object "com/example/colophon/colophon/Rda$Entity"), accessFlags := 16409, slot := 1, constantValue := 0 }, { name := "CORPORATE_BODY", type := (.object "com/example/colophon/colophon/Rda$Entity"), accessFlags := 16409, slot := 2, constantValue := 0 }, { name := "EXPRESSION", type := (.object "com/example/colophon/colophon/Rda$Entity"), accessFlags := 16409, slot := 3, constantValue := 0 }, { name := "MANIFESTATION", type := (.object "com/example/colophon/colophon/Rda$Entity"), accessFlags := 16409, slot := 4, constantValue := 0 }, { name := "FAMILY", type := (.object "com/example/colophon/colophon/Rda$Entity"), accessFlags := 16409, slot := 5, constantValue := 0 }, { name := "NOMEN", type := (.object "com/example/colophon/colophon/Rda$Entity"), accessFlags := 16409, slot := 6, constantValue := 0 }, { name := "AGENTS", type := (.object "java/util/List"), accessFlags := 24, slot := 7, constantValue := 0 }, { name := "term", type := (.object "com/example/colophon/colophon/Rda$Term"), accessFlags := 16, slot := 3, constantValue := 0 }, { name := "$VALUES", type := (.array (.object "com/example/colophon/colophon/Rda$Entity")), accessFlags := 4122, slot := 8, constantValue := 0 }]
  methods := #[]
  instanceTypes := #[(.object "java/lang/String"), .int, .int, (.object "com/example/colophon/colophon/Rda$Term")]
  staticTypes := #[(.object "com/example/colophon/colophon/Rda$Entity"), (.object "com/example/colophon/colophon/Rda$Entity"), (.object "com/example/colophon/colophon/Rda$Entity"), (.object "com/example/colophon/colophon/Rda$Entity"), (.object "com/example/colophon/colophon/Rda$Entity"), (.object "com/example/colophon/colophon/Rda$Entity"), (.object "com/example/colophon/colophon/Rda$Entity"), (.object "java/util/List"), (.array (.object "com/example/colophon/colophon/Rda$Entity"))]
  resolved := Array.replicate 130 none
  statics := some 0 }

def pool7 : Array CpInfo := pool [(1, .class_ 2), (0, u "com/example/colophon/colophon/Rda$Relationship"), (2, u "EXPRESSION_MANIFESTED"), (0, u "Lcom/example/colophon/colophon/Rda$Relationship;"), (2, u "WORK_MANIFESTED"), (2, u "WORK_EXPRESSED"), (2, u "AUTHORIZED_ACCESS_POINT_FOR_PERSON"), (2, u "AUTHORIZED_ACCESS_POINT_FOR_CORPORATE_BODY"), (2, u "AUTHORIZED_ACCESS_POINT_FOR_FAMILY"), (0, .fieldref 1 23), (0, .nameAndType 24 6), (0, u "VARIANT_ACCESS_POINT_FOR_PERSON"), (0, .fieldref 1 26), (0, .nameAndType 27 6), (0, u "VARIANT_ACCESS_POINT_FOR_CORPORATE_BODY"), (0, .fieldref 1 29), (0, .nameAndType 30 6), (0, u "VARIANT_ACCESS_POINT_FOR_FAMILY"), (2, u "SUBJECT_AGENT"), (2, u "$VALUES"), (0, u "[Lcom/example/colophon/colophon/Rda$Relationship;"), (6, .class_ 46), (1, u "java/lang/Enum"), (8, u "term"), (0, u "Lcom/example/colophon/colophon/Rda$Term;"), (2, u "inverse"), (0, .methodref 1 61), (0, .nameAndType 62 63), (0, u "ofAgent"), (0, u "(Lcom/example/colophon/colophon/Rda$Entity;Lcom/example/colophon/colophon/Rda$Relationship;Lcom/example/colophon/colophon/Rda$Relationship;Lcom/example/colophon/colophon/Rda$Relationship;)Lcom/example/colophon/colophon/Rda$Relationship;"), (0, .methodref 65 66), (0, .class_ 67), (0, .nameAndType 68 69), (0, u "com/example/colophon/colophon/Rda$Entity"), (0, u "ordinal"), (0, u "()I"), (142, u "(Lcom/example/colophon/colophon/Rda$Entity;)Lcom/example/colophon/colophon/Rda$Relationship;"), (0, u "variantAccessPoint"), (7, .class_ 222), (0, u "com/example/colophon/colophon/Rda")] 18

def k7c0 : Code := { maxStack := 4, maxLocals := 1, code := prog_12_method_5_code, exceptionTable := #[], attributes := #[] }
def k7m0 : Method := { name := "variantAccessPoint", desc := "(Lcom/example/colophon/colophon/Rda$Entity;)Lcom/example/colophon/colophon/Rda$Relationship;", sig := { parameters := [(.object "com/example/colophon/colophon/Rda$Entity")], returnType := some (.object "com/example/colophon/colophon/Rda$Relationship") }, accessFlags := 8, code := some k7c0 }
def k7c1 : Code := { maxStack := 3, maxLocals := 4, code := prog_12_method_6_code, exceptionTable := #[], attributes := #[] }
def k7m1 : Method := { name := "ofAgent", desc := "(Lcom/example/colophon/colophon/Rda$Entity;Lcom/example/colophon/colophon/Rda$Relationship;Lcom/example/colophon/colophon/Rda$Relationship;Lcom/example/colophon/colophon/Rda$Relationship;)Lcom/example/colophon/colophon/Rda$Relationship;", sig := { parameters := [(.object "com/example/colophon/colophon/Rda$Entity"), (.object "com/example/colophon/colophon/Rda$Relationship"), (.object "com/example/colophon/colophon/Rda$Relationship"), (.object "com/example/colophon/colophon/Rda$Relationship")], returnType := some (.object "com/example/colophon/colophon/Rda$Relationship") }, accessFlags := 10, code := some k7c1 }
/-- com/example/colophon/colophon/Rda$Relationship -/
def k7 : Class := { plain "com/example/colophon/colophon/Rda$Relationship" (some 5) with
  accessFlags := 16432
  interfaces := #[]
  cf := some (fileOf pool7 1 #[.nestHost 221] #[{ accessFlags := 8, nameIndex := 213, descriptorIndex := 212, attributes := #[] }, { accessFlags := 10, nameIndex := 62, descriptorIndex := 63, attributes := #[] }] 16432 44 #[] #[{ accessFlags := 16409, nameIndex := 5, descriptorIndex := 6, attributes := #[] }, { accessFlags := 16409, nameIndex := 9, descriptorIndex := 6, attributes := #[] }, { accessFlags := 16409, nameIndex := 12, descriptorIndex := 6, attributes := #[] }, { accessFlags := 16409, nameIndex := 15, descriptorIndex := 6, attributes := #[] }, { accessFlags := 16409, nameIndex := 18, descriptorIndex := 6, attributes := #[] }, { accessFlags := 16409, nameIndex := 21, descriptorIndex := 6, attributes := #[] }, { accessFlags := 16409, nameIndex := 24, descriptorIndex := 6, attributes := #[] }, { accessFlags := 16409, nameIndex := 27, descriptorIndex := 6, attributes := #[] }, { accessFlags := 16409, nameIndex := 30, descriptorIndex := 6, attributes := #[] }, { accessFlags := 16409, nameIndex := 33, descriptorIndex := 6, attributes := #[] }, { accessFlags := 16, nameIndex := 55, descriptorIndex := 56, attributes := #[] }, { accessFlags := 16, nameIndex := 59, descriptorIndex := 56, attributes := #[] }, { accessFlags := 4122, nameIndex := 36, descriptorIndex := 37, attributes := #[] }])
  fields := #[{ name := "EXPRESSION_MANIFESTED", type := (.object "com/example/colophon/colophon/Rda$Relationship"), accessFlags := 16409, slot := 0, constantValue := 0 }, { name := "WORK_MANIFESTED", type := (.object "com/example/colophon/colophon/Rda$Relationship"), accessFlags := 16409, slot := 1, constantValue := 0 }, { name := "WORK_EXPRESSED", type := (.object "com/example/colophon/colophon/Rda$Relationship"), accessFlags := 16409, slot := 2, constantValue := 0 }, { name := "AUTHORIZED_ACCESS_POINT_FOR_PERSON", type := (.object "com/example/colophon/colophon/Rda$Relationship"), accessFlags := 16409, slot := 3, constantValue := 0 }, { name := "AUTHORIZED_ACCESS_POINT_FOR_CORPORATE_BODY", type := (.object "com/example/colophon/colophon/Rda$Relationship"), accessFlags := 16409, slot := 4, constantValue := 0 }, { name := "AUTHORIZED_ACCESS_POINT_FOR_FAMILY", type := (.object "com/example/colophon/colophon/Rda$Relationship"), accessFlags := 16409, slot := 5, constantValue := 0 }, { name := "VARIANT_ACCESS_POINT_FOR_PERSON", type := (.object "com/example/colophon/colophon/Rda$Relationship"), accessFlags := 16409, slot := 6, constantValue := 0 }, { name := "VARIANT_ACCESS_POINT_FOR_CORPORATE_BODY", type := (.object "com/example/colophon/colophon/Rda$Relationship"), accessFlags := 16409, slot := 7, constantValue := 0 }, { name := "VARIANT_ACCESS_POINT_FOR_FAMILY", type := (.object "com/example/colophon/colophon/Rda$Relationship"), accessFlags := 16409, slot := 8, constantValue := 0 }, { name := "SUBJECT_AGENT", type := (.object "com/example/colophon/colophon/Rda$Relationship"), accessFlags := 16409, slot := 9, constantValue := 0 }, { name := "term", type := (.object "com/example/colophon/colophon/Rda$Term"), accessFlags := 16, slot := 3, constantValue := 0 }, { name := "inverse", type := (.object "com/example/colophon/colophon/Rda$Term"), accessFlags := 16, slot := 4, constantValue := 0 }, { name := "$VALUES", type := (.array (.object "com/example/colophon/colophon/Rda$Relationship")), accessFlags := 4122, slot := 10, constantValue := 0 }]
  methods := #[k7m0, k7m1]
  instanceTypes := #[(.object "java/lang/String"), .int, .int, (.object "com/example/colophon/colophon/Rda$Term"), (.object "com/example/colophon/colophon/Rda$Term")]
  staticTypes := #[(.object "com/example/colophon/colophon/Rda$Relationship"), (.object "com/example/colophon/colophon/Rda$Relationship"), (.object "com/example/colophon/colophon/Rda$Relationship"), (.object "com/example/colophon/colophon/Rda$Relationship"), (.object "com/example/colophon/colophon/Rda$Relationship"), (.object "com/example/colophon/colophon/Rda$Relationship"), (.object "com/example/colophon/colophon/Rda$Relationship"), (.object "com/example/colophon/colophon/Rda$Relationship"), (.object "com/example/colophon/colophon/Rda$Relationship"), (.object "com/example/colophon/colophon/Rda$Relationship"), (.array (.object "com/example/colophon/colophon/Rda$Relationship"))]
  resolved := Array.replicate 241 none
  statics := some 1 }

def pool8 : Array CpInfo := pool [(1, u "java/lang/Cloneable"), (0, .class_ 1), (0, u "java/lang/Object"), (0, .class_ 3)] 3

/-- java/lang/Cloneable -/
def k8 : Class := { plain "java/lang/Cloneable" (some 0) with
  accessFlags := 1537
  interfaces := #[]
  cf := some (fileOf pool8 2 #[] #[] 1537 4 #[] #[])
  fields := #[]
  methods := #[]
  instanceTypes := #[]
  staticTypes := #[]
  resolved := Array.replicate 8 none
  statics := none }

/-- the primitive byte -/
def k9 : Class := { plain "byte" none with kind := .primitive 'B', accessFlags := 0x411 }
/-- [B -/
def k10 : Class := { plain "[B" (some 0) with kind := .array 9 .byte, interfaces := #[8, 4], accessFlags := 1041 }

/-- the primitive int -/
def k11 : Class := { plain "int" none with kind := .primitive 'I', accessFlags := 0x411 }
/-- [I -/
def k12 : Class := { plain "[I" (some 0) with kind := .array 11 .int, interfaces := #[8, 4], accessFlags := 1041 }

def heap : Heap := #[{ cls := 6, slots := #[.null, .ref 2, .ref 7, .null, .null, .ref 6, .null, .null, .null], vm := .statics 6 },
  { cls := 7, slots := #[.null, .null, .null, .null, .null, .null, .ref 3, .ref 4, .ref 5, .null, .null], vm := .statics 7 },
  { cls := 6, slots := #[.null, .int 1, .int 0, .null], vm := .none },
  { cls := 7, slots := #[.null, .int 0, .int 0, .null, .null], vm := .none },
  { cls := 7, slots := #[.null, .int 0, .int 0, .null, .null], vm := .none },
  { cls := 7, slots := #[.null, .int 0, .int 0, .null, .null], vm := .none },
  { cls := 6, slots := #[.null, .int 5, .int 0, .null], vm := .none },
  { cls := 6, slots := #[.null, .int 2, .int 0, .null], vm := .none }]
def classes : Array Class := #[k0, k1, k2, k3, k4, k5, k6, k7, k8, k9, k10, k11, k12]
def interned : List (Array UInt16 × Addr) := []
def slotsUsed : Nat := 47
def theMethod : MethodId := ⟨1, 1⟩
def args0 : Array Value := #[.int 5]
def aboutOver (below : List Frame) : State where
  vm := { classes := classes, interned := interned.toArray }
  heap := heap
  slotsUsed := slotsUsed
  threads := #[{ frames := .invoking theMethod args0 :: below }]
def below0 : List Frame := [.native { method := ⟨0, 0⟩, args := #[] }]
def about1 : State := aboutOver below0
def p0 : Program := .bare "" "" ""
def e0 : Env := launch0.env 0 0 0
theorem w_frames : about1.frames = Frame.invoking theMethod args0 :: below0 := rfl
set_option maxRecDepth 65536 in
theorem w_args : argsFit about1.vm theMethod args0 = true := by decide +kernel
set_option maxRecDepth 65536 in
theorem w_heap : heapFits about1 = true := by decide +kernel
set_option maxRecDepth 65536 in
theorem w_runnable : about1.curStatus? = some .runnable := by decide +kernel
set_option maxRecDepth 65536 in
theorem w_alone : about1.alone = true := by decide +kernel
set_option maxRecDepth 65536 in
theorem w_named : about1.methodNamed? x = some theMethod := by decide +kernel
set_option maxRecDepth 65536 in
theorem w_hears : about1.hears theMethod below0 = true := by decide +kernel
set_option maxRecDepth 65536 in
theorem w_ripe : about1.ripe theMethod args0 below0 = true := by decide +kernel
theorem w_running : about1.status = .running := rfl
set_option maxRecDepth 65536 in
theorem w_room : about1.hasRoom e0.platform room_1 = true :=
  launch0.hasRoom_least _ room_1 (by decide +kernel) (by decide +kernel) (by decide +kernel) (by decide +kernel) (by decide +kernel) (by decide +kernel)
theorem allAtoms_all (ts : List Jvm.Cond) (a : Array Jvm.Value) (st : Jvm.State) : (allAtoms ts).before a st = ts.all (fun c => c.before a st) := by
  induction ts with
  | nil => rfl
  | cons c t ih =>
    show (Jvm.Cond.and c (allAtoms t)).before a st = _
    rw [Jvm.Cond.before_and, ih, List.all_cons]
def words1 : List Jvm.Cond := Jvm.Cond.code x code maxLocals ret :: tables_1
/-- a 'code' word, met by the world's own term for the bytes: nothing is compared byte by byte -/
theorem code_word {y : MethodName} {bytes : ByteArray} {mx : Nat} {rt : Option FieldType} {a : Array Value} {s : State} {m : MethodId} {meth : Method} {c : Code} (h1 : s.methodNamed? y = some m) (h2 : s.vm.method? m = some meth) (h3 : meth.code = some c) (h4 : c.code = bytes)
    (h5 : (c.maxLocals == mx && c.exceptionTable.isEmpty && decide (c.maxStack ≤ mostOperands) && decide (meth.sig.returnType = rt) && !meth.locks && decide (parseMethodDescriptor y.desc = some meth.sig)) = true) : (Jvm.Cond.code y bytes mx rt).before a s = true := by
  simp only [Bool.and_eq_true, beq_iff_eq, Bool.not_eq_true', decide_eq_true_eq] at h5
  obtain ⟨⟨⟨⟨⟨g1, g2⟩, g3⟩, g4⟩, g5⟩, g6⟩ := h5
  simp [Cond.before, Cond.holds, Cond.value, h1, h2, h3, h4, g1, g2, g3, g4, g5, g6]
def isCode : Jvm.Cond → Bool
  | .code _ _ _ _ => true
  | _ => false
theorem all_split {L : List Jvm.Cond} {P : Jvm.Cond → Bool} (h1 : L.all (fun c => isCode c || P c) = true) (h2 : ∀ c ∈ L.filter isCode, P c = true) : L.all P = true := by
  refine List.all_eq_true.mpr fun c hc => ?_
  have h := List.all_eq_true.mp h1 c hc
  rcases Bool.eq_false_or_eq_true (isCode c) with hi | hi
  · exact h2 c (List.mem_filter.mpr ⟨hc, hi⟩)
  · simpa [hi] using h
set_option maxRecDepth 65536 in
theorem w_c0 : (Jvm.Cond.code x code maxLocals ret).before args0 about1 = true := code_word (m := ⟨1, 1⟩) (meth := k1m1) (c := k1c1) (by decide +kernel) rfl rfl rfl (by decide +kernel)
set_option maxRecDepth 65536 in
theorem w_c1 : (Jvm.Cond.code ({ cls := "com/example/colophon/colophon/Rda$Relationship", name := "variantAccessPoint", desc := "(Lcom/example/colophon/colophon/Rda$Entity;)Lcom/example/colophon/colophon/Rda$Relationship;" } : Jvm.MethodName) prog_12_method_5_code (1 : Nat) (Option.some (Jvm.ClassFile.FieldType.object "com/example/colophon/colophon/Rda$Relationship"))).before args0 about1 = true := code_word (m := ⟨7, 0⟩) (meth := k7m0) (c := k7c0) (by decide +kernel) rfl rfl rfl (by decide +kernel)
set_option maxRecDepth 65536 in
theorem w_c2 : (Jvm.Cond.code ({ cls := "com/example/colophon/colophon/Rda$Relationship", name := "ofAgent", desc := "(Lcom/example/colophon/colophon/Rda$Entity;Lcom/example/colophon/colophon/Rda$Relationship;Lcom/example/colophon/colophon/Rda$Relationship;Lcom/example/colophon/colophon/Rda$Relationship;)Lcom/example/colophon/colophon/Rda$Relationship;" } : Jvm.MethodName) prog_12_method_6_code (4 : Nat) (Option.some (Jvm.ClassFile.FieldType.object "com/example/colophon/colophon/Rda$Relationship"))).before args0 about1 = true := code_word (m := ⟨7, 1⟩) (meth := k7m1) (c := k7c1) (by decide +kernel) rfl rfl rfl (by decide +kernel)
set_option maxRecDepth 65536 in
theorem w_c3 : (Jvm.Cond.code ({ cls := "java/lang/Enum", name := "ordinal", desc := "()I" } : Jvm.MethodName) jdk_37_method_2_code (1 : Nat) (Option.some Jvm.ClassFile.FieldType.int)).before args0 about1 = true := code_word (m := ⟨5, 0⟩) (meth := k5m0) (c := k5c0) (by decide +kernel) rfl rfl rfl (by decide +kernel)
def codes1 : List Jvm.Cond := [Jvm.Cond.code x code maxLocals ret, Jvm.Cond.code ({ cls := "com/example/colophon/colophon/Rda$Relationship", name := "variantAccessPoint", desc := "(Lcom/example/colophon/colophon/Rda$Entity;)Lcom/example/colophon/colophon/Rda$Relationship;" } : Jvm.MethodName) prog_12_method_5_code (1 : Nat) (Option.some (Jvm.ClassFile.FieldType.object "com/example/colophon/colophon/Rda$Relationship")), Jvm.Cond.code ({ cls := "com/example/colophon/colophon/Rda$Relationship", name := "ofAgent", desc := "(Lcom/example/colophon/colophon/Rda$Entity;Lcom/example/colophon/colophon/Rda$Relationship;Lcom/example/colophon/colophon/Rda$Relationship;Lcom/example/colophon/colophon/Rda$Relationship;)Lcom/example/colophon/colophon/Rda$Relationship;" } : Jvm.MethodName) prog_12_method_6_code (4 : Nat) (Option.some (Jvm.ClassFile.FieldType.object "com/example/colophon/colophon/Rda$Relationship")), Jvm.Cond.code ({ cls := "java/lang/Enum", name := "ordinal", desc := "()I" } : Jvm.MethodName) jdk_37_method_2_code (1 : Nat) (Option.some Jvm.ClassFile.FieldType.int)]
set_option maxRecDepth 65536 in
theorem codes_eq : words1.filter isCode = codes1 := rfl
theorem w_codes : ∀ c ∈ words1.filter isCode, c.before args0 about1 = true := by
  rw [codes_eq]
  intro c hc
  simp only [codes1, List.mem_cons, List.not_mem_nil, or_false] at hc
  rcases hc with rfl | rfl | rfl | rfl
  · exact w_c0
  · exact w_c1
  · exact w_c2
  · exact w_c3
set_option maxRecDepth 65536 in
theorem w_t1 : (words1.take 24).all (fun c => isCode c || c.before args0 about1) = true := by decide +kernel
set_option maxRecDepth 65536 in
theorem w_t2 : (words1.drop 24).all (fun c => isCode c || c.before args0 about1) = true := by decide +kernel
theorem w_tables : (allAtoms (Jvm.Cond.code x code maxLocals ret :: tables_1)).before args0 about1 = true := by
  rw [allAtoms_all]
  show words1.all (fun c => c.before args0 about1) = true
  refine all_split ?_ w_codes
  rw [← List.take_append_drop 24 words1, List.all_append, w_t1, w_t2]
  rfl
set_option maxRecDepth 65536 in
theorem w_case : (Jvm.Cond.and given_1 narrow_1).before args0 about1 = true := by decide +kernel
theorem w_applies : (headSpec (Jvm.Cond.code x code maxLocals ret :: tables_1) room_1).applies x e0.platform about1 = true :=
  (Spec.applies_iff w_frames).mpr ⟨w_running, w_runnable, w_alone, w_named, w_hears, w_ripe, w_room, w_tables⟩
theorem atStart : AtStart classFile x code maxLocals ret World_1 tables_1 room_1 Calls_1 rest_1 Pre_1 launch0 p0 e0 about1 theMethod args0 below0 :=
  ⟨lists_1, trivial, launch0.admits_env _ _ _, launch0.least_env, fairChoices_fair.cas, fairChoices_fair.clock, w_frames, w_args, w_heap, w_applies, trivial, trivial, w_case⟩
end start1
theorem witness_1 : WitnessClaimed_1 := ⟨start1.p0, start1.e0, start1.about1, start1.theMethod, start1.args0, start1.below0, start1.atStart⟩
end Jvm.Pilot.@@N@@
