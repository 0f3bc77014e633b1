import JvmDerived
import JvmDerived.Pilot.@@N@@Statement
import JvmDerived.Pilot.@@N@@Code
set_option linter.unusedVariables false
set_option linter.unusedSimpArgs false
namespace Jvm.RoadKit
open Sem ClassFile Op Lib Jvm.Stand Jvm.Free Jvm.LawKit
section Own
variable {p : Program} {l : Launch} {e : Env} {R : Room} {s : State} {m : MethodId} {args : Array Value} {below : List Frame} {meth : Method} {c : Code} {T : State} {locs : List Loc} {cells slots : Nat} {Z : State} {h h' : Heap}
/-- from U the run comes to an end that G allows -/
def Go (p : Program) (e : Env) (below : List Frame) (G : Outcome → State → Prop) (U : State) : Prop := ∃ s₂ o, Steps p.tables e below U s₂ ∧ s₂.status = .running ∧ Ended s₂ below o ∧ G o s₂
theorem Go.st {G : Outcome → State → Prop} {U V : State} (h : ∀ t, Steps p.tables e below V t → Steps p.tables e below U t) (k : Go p e below G V) : Go p e below G U := by
  obtain ⟨s₂, o, a, r⟩ := k; exact ⟨s₂, o, h _ a, r⟩
theorem Go.tr {G : Outcome → State → Prop} {U V : State} (h : Steps p.tables e below U V) (k : Go p e below G V) : Go p e below G U := by
  obtain ⟨s₂, o, a, r⟩ := k; exact ⟨s₂, o, h.trans a, r⟩
theorem Go.en {G : Outcome → State → Prop} {g g' : JFrame} (q : g = g') (k : Go p e below G (T.setTop g')) : Go p e below G (T.setTop g) := q ▸ k
theorem Go.ret {Q : Option Value → Heap → List Loc → Prop} {K N : Nat} {U : State} (X : Stand p l e R s m args below meth c T locs cells slots) {v : Option Value} (hv : meth.sig.returnType = none → v = none) (hlk : meth.locks = false)
    (st : ∀ fs, (∀ (f : JFrame) (acts : List Action), f.method = m → f.locked = none → f.entered = [] → (doReturn e (T.setTop f) acts v).1 = T.setFrames fs) → Steps p.tables e below U (T.setFrames fs)) (eT : T.heap = h) (hQ : Q v h locs) (hk : cells ≤ K) (hn : slots ≤ N) :
    Go p e below (fun o s₂ => ∃ v L, o = .returned v ∧ Q v s₂.heap L ∧ FrameEnd s o s₂ L K N) U := by
  subst eT
  obtain ⟨fs, hr, hrun, hended, hW, hsame⟩ := X.leave hv hlk
  exact ⟨_, _, st fs hr, hrun, hended, _, _, rfl, hQ, ⟨_, rfl⟩, hW, hsame.mono hk hn⟩
theorem Go.retW {Q : Option Value → Heap → List Loc → Prop} {K N k0 : Nat} {U : State} {vm0 : Vm} (hS : s.Since vm0 k0) (hk0 : k0 ≤ h.size) (X : Stand p l e R (s.setVm vm0) m args below meth c T locs cells slots) {v : Option Value} (hv : meth.sig.returnType = none → v = none) (hlk : meth.locks = false)
    (st : ∀ fs, (∀ (f : JFrame) (acts : List Action), f.method = m → f.locked = none → f.entered = [] → (doReturn e (T.setTop f) acts v).1 = T.setFrames fs) → Steps p.tables e below U (T.setFrames fs)) (eT : T.heap = h) (hQ : Q v h locs) (hk : cells ≤ K) (hn : slots ≤ N) :
    Go p e below (fun o s₂ => ∃ v L, o = .returned v ∧ Q v s₂.heap L ∧ ReturnedEndW s o s₂ L K N) U := by
  subst eT
  obtain ⟨fs, hr, hrun, hended, hR⟩ := X.leaveW hS hk0 hv hlk
  exact ⟨_, _, st fs hr, hrun, hended, _, _, rfl, hQ, hR.1, hR.2.1, hR.2.2.1, hR.2.2.2.mono hk hn⟩
/-- RoadKit's backOfS for a callee that is told what the constants hold -/
theorem backOfSC {y : MethodName} {bytes : ByteArray} {maxL : Nat} {ret : Option FieldType} {rm : Room} {len W : Nat} {as' : Array Value} {Q : Option Value → Heap → List Loc → Prop} {EL : List (String × Nat)} {vm0 : Vm} {a0 : Array Value}
    (hM : MetFree l y (head1 [Cond.code y bytes maxL ret] rm) (fun a U => a = as' ∧ Z.Warmed39 U.vm ∧ U.heap = h ∧ CHv Z EL U.vm h) (fun _ _ _ _ _ => True) (fun _ U o U' => ∃ v L, o = .returned v ∧ Q v U'.heap L ∧ ReturnedEndW U o U' L rm.cells rm.slots))
    (hZ : Z.Warmed39 vm0) (wc : (Cond.code y bytes maxL ret).before a0 Z = true) (wz : (Cond.initialized y.cls).before a0 Z = true) (hf : rm.frames + 1 ≤ R.frames) (hl : W + (maxL + 11) + rm.locals ≤ R.locals) (hEL : EW Z a0 EL) (H : CHv Z EL vm0 h) :
    BackS l R p e below (s.setVm vm0) args y len W (fun A a => a = as' ∧ A.U.heap = h ∧ A.cells + rm.cells ≤ R.cells ∧ A.slots + rm.slots ≤ R.slots)
      (fun A _ v B => ∃ L, Q v B.U.heap L ∧ B.locs = A.locs ++ L ∧ B.cells = A.cells + rm.cells ∧ B.slots = A.slots + rm.slots) :=
  BackS.of_freeW (bytes := bytes) (maxL := maxL) (ret := ret) (E := fun _ _ o t L k n => k = rm.cells ∧ n = rm.slots ∧ ∃ v, o = .returned v ∧ Q v t.heap L) hM hf hl
    (fun m meth c A a Y hp => by
      have hU : Z.Warmed39 A.U.vm := wtrans (s := s.setVm vm0) hZ Y.warmed
      exact ⟨by show (Cond.and _ .tt).before a A.U = true; rw [Cond.before_and, mv hU wc]; rfl, mv hU wc, mv hU wz, hp.2.2.1, hp.2.2.2⟩)
    (fun m meth c A a g mk Y hp => ⟨hp.1, wtrans (s := s.setVm vm0) hZ Y.warmed, hp.2.1, (CHv.at Y hZ hEL H).1⟩) (fun _ _ _ _ _ _ _ _ _ => trivial)
    (fun _ _ _ _ ⟨v, L, h1, h2, h3⟩ => ⟨L, _, _, h3, rfl, rfl, v, h1, h2⟩)
    (fun m meth c A a g mk v t L k n Y hp _ _ ⟨e1, e2, v', e3, e4⟩ => by cases e3; subst e1 e2; exact ⟨L, e4, rfl, rfl, rfl⟩)
theorem staKeep0 {C n d : String} {v : Value} (F : Sta Z h C n d v) (K : Keep h h' []) : Sta Z h' C n d v := by
  obtain ⟨cf, i, k, f, st, cell, h1, h2, h3, h4, h5, r⟩ := F
  exact ⟨cf, i, k, f, st, cell, h1, h2, h3, h4, K.2.1 _ _ h5 nin0, r⟩
theorem staKeepE {C n d O : String} {v : Value} {a : Addr} (F : Sta Z h C n d v) (K : Keep h h' [a]) (E : Exa Z h a O) : Sta Z h' C n d v := by
  obtain ⟨cf, i, k, f, st, cell, h1, h2, h3, h4, h5, h6, r⟩ := F
  obtain ⟨c', k', e1, -, -, e4, -⟩ := E
  have ne : st ≠ a := fun q => by subst q; cases h5.symm.trans e1; rw [h6] at e4; cases e4
  exact ⟨cf, i, k, f, st, cell, h1, h2, h3, h4, K.2.1 _ _ h5 (ninS ne nin0), h6, r⟩
/-- getfield where the sheet says the reference resolved -/
theorem getFR (X : Stand p l e R s m args below meth c T locs cells slots) (hx : p.tables.exec = Jvm.exec) (hZ : Z.Warmed39 s.vm) {a0 : Array Value} {own O n d : String} {index : Nat} (hown : s.vm.findClass own = some m.cls) (w : (Cond.fieldRef own index O n d).before a0 Z = true)
    (eT : T.heap = h) {a : Addr} {v : Value} (F : Fld Z h a O n d v) {g : JFrame} (hg : g.method = m) {rest : List Value} (hs : g.stack = .ref a :: rest) (hd : decode c.code g.pc = .ok (.getfield index, 3)) :
    ∀ target, Steps p.tables e below (T.setTop { g with pc := g.pc + 3, stack := v :: rest }) target → Steps p.tables e below (T.setTop g) target := by
  intro target hrest
  obtain ⟨cell, cf, k, i, f, h1, h2, h3, h4, -, -, h7⟩ := F
  have hW : Z.Warmed39 T.vm := wtrans hZ X.warmed
  have q := Cond.fieldRef_warmed39 hW w
  have hcur : (Z.setVm T.vm).vm.findClass own = some m.cls := by
    show T.vm.findClass own = some m.cls
    rw [X.warmed.alike.findClass]; exact hown
  obtain ⟨c', k', i', f', hi, hready⟩ := Cond.fieldRef_spec hcur q
  obtain ⟨k2, hi2, -⟩ := State.fieldFound?_setVm (s := Z) hW.alike h2
  have q3 : (Z.setVm T.vm).fieldFound? O n d = some (cf, k2, i, f) := hi2
  cases hi.symm.trans q3
  subst hg
  jvm_step X.here [hx, hd, getfield.wp_ready (e := e) (s := T) (f := g) X.here.top hready h3 hs (by rw [eT]; exact h1) h4 h7]
  exact hrest
/-- an array of that kind and length, whatever it holds -/
def Arn (Z : State) (h : Heap) (a : Addr) (ty : FieldType) (z : Int32) : Prop := ∃ c : Cell, Arr Z h a c ty ∧ c.slots.size = z.toNatClampNeg ∧ ¬ z < 0
section Arn
variable {a b : Addr} {ty : FieldType} {z : Int32} {sl : Nat} {v : Value} {ws : List Addr}
theorem Arn.lt (F : Arn Z h a ty z) : a < h.size := by obtain ⟨c, A, -⟩ := F; exact A.lt
theorem Arn.nn (F : Arn Z h a ty z) : ¬ z < 0 := by obtain ⟨c, -, -, q⟩ := F; exact q
theorem Arn.ext (F : Arn Z h a ty z) (E : Ext h h') : Arn Z h' a ty z := by obtain ⟨c, A, r⟩ := F; exact ⟨c, A.ext E, r⟩
theorem Arn.other (F : Arn Z h b ty z) (W : Wr h h' a sl v) (q : b ≠ a) : Arn Z h' b ty z := by obtain ⟨c, A, r⟩ := F; exact ⟨c, A.other W q, r⟩
theorem Arn.keep (F : Arn Z h a ty z) (K : Keep h h' ws) (q : a ∉ ws) : Arn Z h' a ty z := by obtain ⟨c, A, r⟩ := F; exact ⟨c, ⟨K.2.1 a c A.1 q, A.2⟩, r⟩
theorem Arn.set {c : Cell} (A : Arr Z h a c ty) (S : c.slots.size = z.toNatClampNeg) (q : ¬ z < 0) (W : Wr h h' a sl v) : Arn Z h' a ty z := ⟨_, A.same W, by rw [sz_set]; exact S, q⟩
theorem Arv.arn {k : ClassId} {vs : List Value} {dv : Value} (F : Arv Z h a k ty z vs dv) : Arn Z h a ty z := by obtain ⟨c, A, -, S, q, -⟩ := F; exact ⟨c, A, S, q⟩
end Arn
theorem staKeepA {C n d : String} {v : Value} {a : Addr} {ty : FieldType} {z : Int32} (F : Sta Z h C n d v) (K : Keep h h' [a]) (E : Arn Z h a ty z) : Sta Z h' C n d v := by
  obtain ⟨cf, i, k, f, st, cell, h1, h2, h3, h4, h5, h6, r⟩ := F
  obtain ⟨c', A, -⟩ := E
  have e4 := A.plain
  have ne : st ≠ a := fun q => by subst q; cases h5.symm.trans A.1; rw [h6] at e4; cases e4
  exact ⟨cf, i, k, f, st, cell, h1, h2, h3, h4, K.2.1 _ _ h5 (ninS ne nin0), h6, r⟩
theorem own_nn {n : Int32} (h : 0 ≤ n.toInt) : ¬ n < 0 := by rw [Int32.lt_iff_toInt_lt]; show ¬ n.toInt < 0; omega
theorem own_cap {n : Int32} {k : Nat} (h : n.toInt ≤ k) : n.toNatClampNeg ≤ k := by simp only [Int32.toNatClampNeg]; omega
theorem own_inc {i z : Int32} (h0 : ¬ i < 0) (h : i < z) : ¬ (i + 1) < 0 ∧ (i + 1).toInt = i.toInt + 1 := by
  have h1 := c_iadd i 1; have h2 := rng32 z; have h3 := rng32 i; have h4 := rng32 (i + 1)
  rw [Int32.lt_iff_toInt_lt] at h0 h ⊢
  have e0 : (0 : Int32).toInt = 0 := rfl
  have e1 : (1 : Int32).toInt = 1 := rfl
  rw [e0] at h0 ⊢; rw [e1] at h1
  omega
theorem own_ge {i z : Int32} (h : z.toInt ≤ i.toInt) : ¬ i < z := by rw [Int32.lt_iff_toInt_lt]; omega
theorem staInt {args : Array Value} {C n d : String} {k : Int32} (h : (Cond.eq (.static C n d) (.int k)).value args Z none Z [] = some true) (hi : (Cond.initializedFor C n d).before args Z = true ∨ ((Cond.initialized C).before args Z = true ∧ (Cond.laysStatic C n d).before args Z = true)) : Sta Z Z.heap C n d (.int k) := by
  obtain ⟨x, y, e1, e2, k1, -⟩ := cmp_v (Or.inl h)
  have e3 : (Term.int k).eval args Z none [] Z = some (.int k) := Term.int_eval k
  cases e2.symm.trans e3
  cases x with
  | int z =>
    have q : (Cond.eq (.static C n d) (.int k)).value args Z none Z [] = some (decide (z = k)) := by simp [Cond.value, e1, e3]
    exact (gotT q h) ▸ Sta.start e1 hi
  | _ => simp [Kin, Value.isRef] at k1
theorem fldNull {args : Array Value} {t : Term} {C n d : String} {a : Addr} (ev : t.eval args Z none [] Z = some (.ref a)) (h : (Cond.eq (.field t C n d) .null).value args Z none Z [] = some true) : Fld Z Z.heap a C n d .null := by
  have e1 := null_v h
  rw [fld_at ev] at e1
  exact Fld.start e1
theorem fldStart {args : Array Value} {t : Term} {C n d : String} {a : Addr} {k : Int32} (ev : t.eval args Z none [] Z = some (.ref a)) (h : (Cond.eq (.field t C n d) (.int k)).value args Z none Z [] = some true) : Fld Z Z.heap a C n d (.int k) := by
  obtain ⟨x, y, e1, e2, k1, -⟩ := cmp_v (Or.inl h)
  rw [fld_at ev] at e1
  have e3 : (Term.int k).eval args Z none [] Z = some (.int k) := Term.int_eval k
  cases e2.symm.trans e3
  cases x with
  | int z =>
    have q : (Cond.eq (.field t C n d) (.int k)).value args Z none Z [] = some (decide (z = k)) := by simp [Cond.value, (fld_at ev).trans e1, e3]
    exact (gotT q h) ▸ Fld.start e1
  | _ => simp [Kin, Value.isRef] at k1
end Own
end Jvm.RoadKit
namespace Jvm.Pilot.@@N@@
open Jvm Jvm.ClassFile Sem Op Lib Jvm.Free Jvm.Stand Jvm.LawKit Jvm.RoadKit Bundle Jvm.Pilot.@@N@@.Jvm.D
theorem own_ge1 {x : Int32} (h : 1 ≤ x.toInt) : ¬ x < (1 : Int32) := by
  rw [Int32.lt_iff_toInt_lt]
  have e1 : (1 : Int32).toInt = 1 := rfl
  rw [e1]
  omega
theorem own_f4 {x : Int32} (h : 1 ≤ x.toInt ∧ x.toInt ≤ 4) : x = 1 ∨ x = 2 ∨ x = 3 ∨ x = 4 := by
  have h3 : x.toInt = 1 ∨ x.toInt = 2 ∨ x.toInt = 3 ∨ x.toInt = 4 := by omega
  rcases h3 with h | h | h | h
  · exact Or.inl (Int32.toInt_inj.mp (h.trans (by decide)))
  · exact Or.inr (Or.inl (Int32.toInt_inj.mp (h.trans (by decide))))
  · exact Or.inr (Or.inr (Or.inl (Int32.toInt_inj.mp (h.trans (by decide)))))
  · exact Or.inr (Or.inr (Or.inr (Int32.toInt_inj.mp (h.trans (by decide)))))
theorem own_z4 {x y : Int32} (h0 : ¬ x < 0) (h : x < y) (hy : y.toInt ≤ 4) : x = 0 ∨ x = 1 ∨ x = 2 ∨ x = 3 := by
  rw [Int32.lt_iff_toInt_lt] at h0 h
  have e0 : (0 : Int32).toInt = 0 := rfl
  rw [e0] at h0
  have h3 : x.toInt = 0 ∨ x.toInt = 1 ∨ x.toInt = 2 ∨ x.toInt = 3 := by omega
  rcases h3 with h | h | h | h
  · exact Or.inl (Int32.toInt_inj.mp (h.trans (by decide)))
  · exact Or.inr (Or.inl (Int32.toInt_inj.mp (h.trans (by decide))))
  · exact Or.inr (Or.inr (Or.inl (Int32.toInt_inj.mp (h.trans (by decide)))))
  · exact Or.inr (Or.inr (Or.inr (Int32.toInt_inj.mp (h.trans (by decide)))))
theorem own_14 (x : Int32) : 1 ≤ ((1 : Int32) + (x &&& (3 : Int32))).toInt ∧ ((1 : Int32) + (x &&& (3 : Int32))).toInt ≤ 4 := by
  have h2 := c_mask x (3 : Int32) 2 (by decide) (by decide)
  have h3 := c_iadd (1 : Int32) (x &&& (3 : Int32))
  have h4 := rng32 ((1 : Int32) + (x &&& (3 : Int32)))
  have e1 : (1 : Int32).toInt = 1 := rfl
  rw [e1] at h3
  omega
theorem own_nz {x : Int32} (h : 1 ≤ x.toInt ∧ x.toInt ≤ 4) : ¬ x = 0 := fun q => by subst q; exact absurd h (by decide)
theorem own_big {a b : Int32} (ha : 1 ≤ a.toInt ∧ a.toInt ≤ 4) (hb : 1 ≤ b.toInt ∧ b.toInt ≤ 4) : ¬ ((0 : Int32) < lcmpW ((a.toInt64 * b.toInt64) * (8 : Int32).toInt64) (2147483647 : Int64)) := by
  rcases own_f4 ha with rfl | rfl | rfl | rfl <;> rcases own_f4 hb with rfl | rfl | rfl | rfl <;> decide
theorem own_128 {a b : Int32} (ha : 1 ≤ a.toInt ∧ a.toInt ≤ 4) (hb : 1 ≤ b.toInt ∧ b.toInt ≤ 4) : 0 ≤ ((8 : Int32) * (a * b)).toInt ∧ ((8 : Int32) * (a * b)).toInt ≤ 128 := by
  rcases own_f4 ha with rfl | rfl | rfl | rfl <;> rcases own_f4 hb with rfl | rfl | rfl | rfl <;> decide
theorem own_116 {a b : Int32} (ha : 1 ≤ a.toInt ∧ a.toInt ≤ 4) (hb : 1 ≤ b.toInt ∧ b.toInt ≤ 4) : 1 ≤ (a * b).toInt ∧ (a * b).toInt ≤ 16 := by
  rcases own_f4 ha with rfl | rfl | rfl | rfl <;> rcases own_f4 hb with rfl | rfl | rfl | rfl <;> decide
theorem own_ix {o s : Int32} (ho : 0 ≤ o.toInt ∧ o.toInt ≤ 7) (hs : 1 ≤ s.toInt ∧ s.toInt ≤ 16) : ∀ i : Int32, ¬ i < 0 → i < s → ¬ ((o * s) + i) < 0 ∧ ((o * s) + i) < ((8 : Int32) * s) := by
  intro i h0 h
  have h1 := c_imul o s; have h2 := c_iadd (o * s) i; have h3 := c_imul (8 : Int32) s
  have r1 := rng32 (o * s); have r2 := rng32 ((o * s) + i); have r3 := rng32 ((8 : Int32) * s)
  have e8 : (8 : Int32).toInt = 8 := rfl
  have e0 : (0 : Int32).toInt = 0 := rfl
  have p0 : 0 ≤ o.toInt * s.toInt := Int.mul_nonneg ho.1 (by omega)
  have p1 : o.toInt * s.toInt ≤ 7 * s.toInt := Int.mul_le_mul_of_nonneg_right ho.2 (by omega)
  generalize o.toInt * s.toInt = P at *
  rw [Int32.lt_iff_toInt_lt] at h0 h ⊢
  rw [Int32.lt_iff_toInt_lt]
  rw [e8] at h3; rw [e0] at h0 ⊢
  omega
theorem own_site {rows cols k r : Int32} (hR : 1 ≤ rows.toInt ∧ rows.toInt ≤ 4) (hC : 1 ≤ cols.toInt ∧ cols.toInt ≤ 4) (h1 : ¬ k < 0) (h2 : k < cols) (h3 : ¬ r < 0) (h4 : r < rows) : ¬ ((r * cols) + k) < 0 ∧ ((r * cols) + k) < (rows * cols) ∧ ((r * cols) + k) % cols = k ∧ ((r * cols) + k) / cols = r := by
  rcases own_z4 h1 h2 hC.2 with rfl | rfl | rfl | rfl <;> rcases own_z4 h3 h4 hR.2 with rfl | rfl | rfl | rfl <;> rcases own_f4 hC with rfl | rfl | rfl | rfl <;> first | (exact absurd h2 (by decide)) | (rcases own_f4 hR with rfl | rfl | rfl | rfl <;> first | (exact absurd h4 (by decide)) | decide)
theorem own_fitc {Z : State} {h0 h : Heap} {ws : List Addr} {a : Addr} {c : Cell} {ty : FieldType} (K : Keep h0 h ws) (q : a ∉ ws) (A : Arr Z h0 a c ty) (F : ∀ cl : Cell, h0[a]? = some cl → FitC Z cl) : ∀ cl : Cell, h[a]? = some cl → FitC Z cl := fun cl hc => by
  have := K.2.1 _ _ A.1 q
  cases this.symm.trans hc
  exact F _ A.1
theorem own_len {s : State} {args : Array Value} {t : Term} {a : Addr} {c : Cell} {ty : FieldType} {k : Int32} (ev : t.eval args s none [] s = some (.ref a)) (A : Arr s s.heap a c ty) (h : (Jvm.Cond.eq (.length t) (.int k)).value args s none s [] = some true) : c.slots.size < 2 ^ 31 ∧ c.slots.size.toInt32 = k := by
  have ha : s.arrayAt? a = some c := A.fin (Vm.Alike.refl _)
  obtain ⟨x, y, e1, e2, -⟩ := cmp_v (Or.inl h)
  have hl : c.slots.size < 2 ^ 31 := by
    by_cases q : c.slots.size < 2 ^ 31
    · exact q
    · simp [Term.eval, ev, ha, q] at e1
  have e3 := len_f ev ha hl
  have e4 : (Term.int k).eval args s none [] s = some (.int k) := Term.int_eval k
  have q : (Jvm.Cond.eq (.length t) (.int k)).value args s none s [] = some (decide (c.slots.size.toInt32 = k)) := by simp [Cond.value, e3, e4]
  exact ⟨hl, gotT q h⟩
theorem own_elem {s : State} {args : Array Value} {t u : Term} {a b : Addr} {c : Cell} {ty : FieldType} {k : Int32} (ev : t.eval args s none [] s = some (.ref a)) (A : Arr s s.heap a c ty) (eu : u.eval args s none [] s = some (.ref b)) (h : (Jvm.Cond.eq (.elem t (.int k)) u).value args s none s [] = some true) : c.slots[k.toNatClampNeg]? = some (.ref b) := by
  obtain ⟨x, y, e1, e2, -⟩ := cmp_v (Or.inl h)
  cases eu.symm.trans e2
  have e4 : (Term.int k).eval args s none [] s = some (.int k) := Term.int_eval k
  have e5 := (elem_in e1 ev e4 A.1).2
  cases x with
  | ref z =>
    have q : (Jvm.Cond.eq (.elem t (.int k)) u).value args s none s [] = some (decide (Value.ref z = Value.ref b)) := eq_R e1 eu rfl rfl
    rw [e5, gotT q h]
  | null =>
    have q : (Jvm.Cond.eq (.elem t (.int k)) u).value args s none s [] = some (decide (Value.null = Value.ref b)) := eq_R e1 eu rfl rfl
    exact absurd (gotT q h) (by simp)
  | _ => simp [Cond.value, e1, eu] at h

theorem pn_0 : plainName "com/example/tabulon/tabulon/game/BoardSiteAtPinLaw" = true := by first | (simp [plainName, overriddenIn]; done) | decide +kernel
theorem ef_0 (m : MethodId) (x0 : Int32) (x1 : Int32) (x2 : Int32) (x3 : Int32) (x4 : Int32) : entryFrame m #[(.int x0), (.int x1), (.int x2), (.int x3), (.int x4)] maxLocals = mkF m 0 #[.val (.int x0), .val (.int x1), .val (.int x2), .val (.int x3), .val (.int x4), .unset, .unset, .unset, .unset, .unset, .unset, .unset, .unset] [] := by first | (simp [entryFrame, mkF, argsToLocals, Value.category, maxLocals]; done) | rfl
theorem d1_0 : decode prog_45_method_1_code 0 = .ok (.aload_n 0, 1) := by decide +kernel
theorem d1_1 : decode prog_45_method_1_code 1 = .ok (.invokespecial 1, 3) := by decide +kernel
theorem d1_4 : decode prog_45_method_1_code 4 = .ok (.iload_n 2, 1) := by decide +kernel
theorem d1_5 : decode prog_45_method_1_code 5 = .ok (.iconst 1, 1) := by decide +kernel
theorem d1_6 : decode prog_45_method_1_code 6 = .ok (.if_icmp .lt 8, 3) := by decide +kernel
theorem d1_9 : decode prog_45_method_1_code 9 = .ok (.iload_n 3, 1) := by decide +kernel
theorem d1_10 : decode prog_45_method_1_code 10 = .ok (.iconst 1, 1) := by decide +kernel
theorem d1_11 : decode prog_45_method_1_code 11 = .ok (.if_icmp .ge 13, 3) := by decide +kernel
theorem d1_24 : decode prog_45_method_1_code 24 = .ok (.iload_n 2, 1) := by decide +kernel
theorem d1_25 : decode prog_45_method_1_code 25 = .ok (.i2l, 1) := by decide +kernel
theorem d1_26 : decode prog_45_method_1_code 26 = .ok (.iload_n 3, 1) := by decide +kernel
theorem d1_27 : decode prog_45_method_1_code 27 = .ok (.i2l, 1) := by decide +kernel
theorem d1_28 : decode prog_45_method_1_code 28 = .ok (.lmul, 1) := by decide +kernel
theorem d1_29 : decode prog_45_method_1_code 29 = .ok (.invokestatic 14, 3) := by decide +kernel
theorem d1_32 : decode prog_45_method_1_code 32 = .ok (.arraylength, 1) := by decide +kernel
theorem d1_33 : decode prog_45_method_1_code 33 = .ok (.i2l, 1) := by decide +kernel
theorem d1_34 : decode prog_45_method_1_code 34 = .ok (.lmul, 1) := by decide +kernel
theorem d1_35 : decode prog_45_method_1_code 35 = .ok (.ldc2_w 22, 3) := by decide +kernel
theorem d1_38 : decode prog_45_method_1_code 38 = .ok (.lcmp, 1) := by decide +kernel
theorem d1_39 : decode prog_45_method_1_code 39 = .ok (.ifCond .le 18, 3) := by decide +kernel
theorem d1_57 : decode prog_45_method_1_code 57 = .ok (.aload_n 0, 1) := by decide +kernel
theorem d1_58 : decode prog_45_method_1_code 58 = .ok (.aload_n 1, 1) := by decide +kernel
theorem d1_59 : decode prog_45_method_1_code 59 = .ok (.putfield 28, 3) := by decide +kernel
theorem d1_62 : decode prog_45_method_1_code 62 = .ok (.aload_n 0, 1) := by decide +kernel
theorem d1_63 : decode prog_45_method_1_code 63 = .ok (.iload_n 2, 1) := by decide +kernel
theorem d1_64 : decode prog_45_method_1_code 64 = .ok (.putfield 34, 3) := by decide +kernel
theorem d1_67 : decode prog_45_method_1_code 67 = .ok (.aload_n 0, 1) := by decide +kernel
theorem d1_68 : decode prog_45_method_1_code 68 = .ok (.iload_n 3, 1) := by decide +kernel
theorem d1_69 : decode prog_45_method_1_code 69 = .ok (.putfield 38, 3) := by decide +kernel
theorem d1_72 : decode prog_45_method_1_code 72 = .ok (.iload_n 2, 1) := by decide +kernel
theorem d1_73 : decode prog_45_method_1_code 73 = .ok (.iload_n 3, 1) := by decide +kernel
theorem d1_74 : decode prog_45_method_1_code 74 = .ok (.imul, 1) := by decide +kernel
theorem d1_75 : decode prog_45_method_1_code 75 = .ok (.istore 4, 2) := by decide +kernel
theorem d1_77 : decode prog_45_method_1_code 77 = .ok (.aload_n 0, 1) := by decide +kernel
theorem d1_78 : decode prog_45_method_1_code 78 = .ok (.invokestatic 14, 3) := by decide +kernel
theorem d1_81 : decode prog_45_method_1_code 81 = .ok (.arraylength, 1) := by decide +kernel
theorem d1_82 : decode prog_45_method_1_code 82 = .ok (.iload 4, 2) := by decide +kernel
theorem d1_84 : decode prog_45_method_1_code 84 = .ok (.imul, 1) := by decide +kernel
theorem d1_85 : decode prog_45_method_1_code 85 = .ok (.newarray .int, 2) := by decide +kernel
theorem d1_87 : decode prog_45_method_1_code 87 = .ok (.putfield 41, 3) := by decide +kernel
theorem d1_90 : decode prog_45_method_1_code 90 = .ok (.invokestatic 14, 3) := by decide +kernel
theorem d1_93 : decode prog_45_method_1_code 93 = .ok (.astore 5, 2) := by decide +kernel
theorem d1_95 : decode prog_45_method_1_code 95 = .ok (.aload 5, 2) := by decide +kernel
theorem d1_97 : decode prog_45_method_1_code 97 = .ok (.arraylength, 1) := by decide +kernel
theorem d1_98 : decode prog_45_method_1_code 98 = .ok (.istore 6, 2) := by decide +kernel
theorem d1_100 : decode prog_45_method_1_code 100 = .ok (.iconst 0, 1) := by decide +kernel
theorem d1_101 : decode prog_45_method_1_code 101 = .ok (.istore 7, 2) := by decide +kernel
theorem d1_103 : decode prog_45_method_1_code 103 = .ok (.iload 7, 2) := by decide +kernel
theorem d1_105 : decode prog_45_method_1_code 105 = .ok (.iload 6, 2) := by decide +kernel
theorem d1_107 : decode prog_45_method_1_code 107 = .ok (.if_icmp .ge 64, 3) := by decide +kernel
theorem d1_110 : decode prog_45_method_1_code 110 = .ok (.aload 5, 2) := by decide +kernel
theorem d1_112 : decode prog_45_method_1_code 112 = .ok (.iload 7, 2) := by decide +kernel
theorem d1_114 : decode prog_45_method_1_code 114 = .ok (.aaload, 1) := by decide +kernel
theorem d1_115 : decode prog_45_method_1_code 115 = .ok (.astore 8, 2) := by decide +kernel
theorem d1_117 : decode prog_45_method_1_code 117 = .ok (.iconst 0, 1) := by decide +kernel
theorem d1_118 : decode prog_45_method_1_code 118 = .ok (.istore 9, 2) := by decide +kernel
theorem d1_120 : decode prog_45_method_1_code 120 = .ok (.iload 9, 2) := by decide +kernel
theorem d1_122 : decode prog_45_method_1_code 122 = .ok (.iload 4, 2) := by decide +kernel
theorem d1_124 : decode prog_45_method_1_code 124 = .ok (.if_icmp .ge 41, 3) := by decide +kernel
theorem d1_127 : decode prog_45_method_1_code 127 = .ok (.aload_n 0, 1) := by decide +kernel
theorem d1_128 : decode prog_45_method_1_code 128 = .ok (.getfield 41, 3) := by decide +kernel
theorem d1_131 : decode prog_45_method_1_code 131 = .ok (.aload 8, 2) := by decide +kernel
theorem d1_133 : decode prog_45_method_1_code 133 = .ok (.invokevirtual 45, 3) := by decide +kernel
theorem d1_136 : decode prog_45_method_1_code 136 = .ok (.iload 4, 2) := by decide +kernel
theorem d1_138 : decode prog_45_method_1_code 138 = .ok (.imul, 1) := by decide +kernel
theorem d1_139 : decode prog_45_method_1_code 139 = .ok (.iload 9, 2) := by decide +kernel
theorem d1_141 : decode prog_45_method_1_code 141 = .ok (.iadd, 1) := by decide +kernel
theorem d1_142 : decode prog_45_method_1_code 142 = .ok (.aload_n 0, 1) := by decide +kernel
theorem d1_143 : decode prog_45_method_1_code 143 = .ok (.iload 9, 2) := by decide +kernel
theorem d1_145 : decode prog_45_method_1_code 145 = .ok (.aload 8, 2) := by decide +kernel
theorem d1_147 : decode prog_45_method_1_code 147 = .ok (.getfield 49, 3) := by decide +kernel
theorem d1_150 : decode prog_45_method_1_code 150 = .ok (.aload 8, 2) := by decide +kernel
theorem d1_152 : decode prog_45_method_1_code 152 = .ok (.getfield 52, 3) := by decide +kernel
theorem d1_155 : decode prog_45_method_1_code 155 = .ok (.invokevirtual 55, 3) := by decide +kernel
theorem d1_158 : decode prog_45_method_1_code 158 = .ok (.iastore, 1) := by decide +kernel
theorem d1_159 : decode prog_45_method_1_code 159 = .ok (.iinc 9 1, 3) := by decide +kernel
theorem d1_162 : decode prog_45_method_1_code 162 = .ok (.goto (-42), 3) := by decide +kernel
theorem d1_165 : decode prog_45_method_1_code 165 = .ok (.iinc 7 1, 3) := by decide +kernel
theorem d1_168 : decode prog_45_method_1_code 168 = .ok (.goto (-65), 3) := by decide +kernel
theorem d1_171 : decode prog_45_method_1_code 171 = .ok (.return_, 1) := by decide +kernel
theorem pn_1 : plainName "com/example/tabulon/tabulon/game/Board" = true := by first | (simp [plainName, overriddenIn]; done) | decide +kernel
theorem ef_1 (m : MethodId) (x0 : Addr) (x1 : Addr) (x2 : Int32) (x3 : Int32) : entryFrame m #[(.ref x0), (.ref x1), (.int x2), (.int x3)] 10 = mkF m 0 #[.val (.ref x0), .val (.ref x1), .val (.int x2), .val (.int x3), .unset, .unset, .unset, .unset, .unset, .unset] [] := by first | (simp [entryFrame, mkF, argsToLocals, Value.category]; done) | rfl
theorem d3_0 : decode prog_47_method_1_code 0 = .ok (.getstatic 28, 3) := by decide +kernel
theorem d3_3 : decode prog_47_method_1_code 3 = .ok (.invokevirtual 32, 3) := by decide +kernel
theorem d3_6 : decode prog_47_method_1_code 6 = .ok (.checkcast 33, 3) := by decide +kernel
theorem d3_9 : decode prog_47_method_1_code 9 = .ok (.areturn, 1) := by decide +kernel
theorem pn_3 : plainName "com/example/tabulon/tabulon/game/Board$Direction" = true := by first | (simp [plainName, overriddenIn]; done) | decide +kernel
theorem ef_3 (m : MethodId)  : entryFrame m #[] 0 = mkF m 0 #[] [] := by first | (simp [entryFrame, mkF, argsToLocals, Value.category]; done) | rfl
theorem d4_0 : decode jdk_37_method_2_code 0 = .ok (.aload_n 0, 1) := by decide +kernel
theorem d4_1 : decode jdk_37_method_2_code 1 = .ok (.getfield 7, 3) := by decide +kernel
theorem d4_4 : decode jdk_37_method_2_code 4 = .ok (.ireturn, 1) := by decide +kernel
theorem pn_4 : plainName "java/lang/Enum" = true := by first | (simp [plainName, overriddenIn]; done) | decide +kernel
theorem ef_4 (m : MethodId) (x0 : Addr) : entryFrame m #[(.ref x0)] 1 = mkF m 0 #[.val (.ref x0)] [] := by first | (simp [entryFrame, mkF, argsToLocals, Value.category]; done) | rfl
theorem d5_0 : decode prog_45_method_13_code 0 = .ok (.aload_n 0, 1) := by decide +kernel
theorem d5_1 : decode prog_45_method_13_code 1 = .ok (.iload_n 1, 1) := by decide +kernel
theorem d5_2 : decode prog_45_method_13_code 2 = .ok (.invokevirtual 59, 3) := by decide +kernel
theorem d5_5 : decode prog_45_method_13_code 5 = .ok (.i2l, 1) := by decide +kernel
theorem d5_6 : decode prog_45_method_13_code 6 = .ok (.iload_n 2, 1) := by decide +kernel
theorem d5_7 : decode prog_45_method_13_code 7 = .ok (.i2l, 1) := by decide +kernel
theorem d5_8 : decode prog_45_method_13_code 8 = .ok (.ladd, 1) := by decide +kernel
theorem d5_9 : decode prog_45_method_13_code 9 = .ok (.lstore 4, 2) := by decide +kernel
theorem d5_11 : decode prog_45_method_13_code 11 = .ok (.aload_n 0, 1) := by decide +kernel
theorem d5_12 : decode prog_45_method_13_code 12 = .ok (.iload_n 1, 1) := by decide +kernel
theorem d5_13 : decode prog_45_method_13_code 13 = .ok (.invokevirtual 68, 3) := by decide +kernel
theorem d5_16 : decode prog_45_method_13_code 16 = .ok (.i2l, 1) := by decide +kernel
theorem d5_17 : decode prog_45_method_13_code 17 = .ok (.iload_n 3, 1) := by decide +kernel
theorem d5_18 : decode prog_45_method_13_code 18 = .ok (.i2l, 1) := by decide +kernel
theorem d5_19 : decode prog_45_method_13_code 19 = .ok (.ladd, 1) := by decide +kernel
theorem d5_20 : decode prog_45_method_13_code 20 = .ok (.lstore 6, 2) := by decide +kernel
theorem d5_22 : decode prog_45_method_13_code 22 = .ok (.lload 4, 2) := by decide +kernel
theorem d5_24 : decode prog_45_method_13_code 24 = .ok (.lconst 0, 1) := by decide +kernel
theorem d5_25 : decode prog_45_method_13_code 25 = .ok (.lcmp, 1) := by decide +kernel
theorem d5_26 : decode prog_45_method_13_code 26 = .ok (.ifCond .lt 36, 3) := by decide +kernel
theorem d5_29 : decode prog_45_method_13_code 29 = .ok (.lload 4, 2) := by decide +kernel
theorem d5_31 : decode prog_45_method_13_code 31 = .ok (.aload_n 0, 1) := by decide +kernel
theorem d5_32 : decode prog_45_method_13_code 32 = .ok (.getfield 38, 3) := by decide +kernel
theorem d5_35 : decode prog_45_method_13_code 35 = .ok (.i2l, 1) := by decide +kernel
theorem d5_36 : decode prog_45_method_13_code 36 = .ok (.lcmp, 1) := by decide +kernel
theorem d5_37 : decode prog_45_method_13_code 37 = .ok (.ifCond .ge 25, 3) := by decide +kernel
theorem d5_40 : decode prog_45_method_13_code 40 = .ok (.lload 6, 2) := by decide +kernel
theorem d5_42 : decode prog_45_method_13_code 42 = .ok (.lconst 0, 1) := by decide +kernel
theorem d5_43 : decode prog_45_method_13_code 43 = .ok (.lcmp, 1) := by decide +kernel
theorem d5_44 : decode prog_45_method_13_code 44 = .ok (.ifCond .lt 18, 3) := by decide +kernel
theorem d5_47 : decode prog_45_method_13_code 47 = .ok (.lload 6, 2) := by decide +kernel
theorem d5_49 : decode prog_45_method_13_code 49 = .ok (.aload_n 0, 1) := by decide +kernel
theorem d5_50 : decode prog_45_method_13_code 50 = .ok (.getfield 34, 3) := by decide +kernel
theorem d5_53 : decode prog_45_method_13_code 53 = .ok (.i2l, 1) := by decide +kernel
theorem d5_54 : decode prog_45_method_13_code 54 = .ok (.lcmp, 1) := by decide +kernel
theorem d5_55 : decode prog_45_method_13_code 55 = .ok (.ifCond .ge 7, 3) := by decide +kernel
theorem d5_58 : decode prog_45_method_13_code 58 = .ok (.iconst 1, 1) := by decide +kernel
theorem d5_59 : decode prog_45_method_13_code 59 = .ok (.goto 4, 3) := by decide +kernel
theorem d5_62 : decode prog_45_method_13_code 62 = .ok (.iconst 0, 1) := by decide +kernel
theorem d5_63 : decode prog_45_method_13_code 63 = .ok (.istore 8, 2) := by decide +kernel
theorem d5_65 : decode prog_45_method_13_code 65 = .ok (.iload 8, 2) := by decide +kernel
theorem d5_67 : decode prog_45_method_13_code 67 = .ok (.ifCond .eq 18, 3) := by decide +kernel
theorem d5_70 : decode prog_45_method_13_code 70 = .ok (.lload 6, 2) := by decide +kernel
theorem d5_72 : decode prog_45_method_13_code 72 = .ok (.aload_n 0, 1) := by decide +kernel
theorem d5_73 : decode prog_45_method_13_code 73 = .ok (.getfield 38, 3) := by decide +kernel
theorem d5_76 : decode prog_45_method_13_code 76 = .ok (.i2l, 1) := by decide +kernel
theorem d5_77 : decode prog_45_method_13_code 77 = .ok (.lmul, 1) := by decide +kernel
theorem d5_78 : decode prog_45_method_13_code 78 = .ok (.lload 4, 2) := by decide +kernel
theorem d5_80 : decode prog_45_method_13_code 80 = .ok (.ladd, 1) := by decide +kernel
theorem d5_81 : decode prog_45_method_13_code 81 = .ok (.l2i, 1) := by decide +kernel
theorem d5_82 : decode prog_45_method_13_code 82 = .ok (.goto 4, 3) := by decide +kernel
theorem d5_85 : decode prog_45_method_13_code 85 = .ok (.iconst (-1), 1) := by decide +kernel
theorem d5_86 : decode prog_45_method_13_code 86 = .ok (.ireturn, 1) := by decide +kernel
theorem pn_5 : plainName "com/example/tabulon/tabulon/game/Board" = true := by first | (simp [plainName, overriddenIn]; done) | decide +kernel
theorem ef_5 (m : MethodId) (x0 : Addr) (x1 : Int32) (x2 : Int32) (x3 : Int32) : entryFrame m #[(.ref x0), (.int x1), (.int x2), (.int x3)] 9 = mkF m 0 #[.val (.ref x0), .val (.int x1), .val (.int x2), .val (.int x3), .unset, .unset, .unset, .unset, .unset] [] := by first | (simp [entryFrame, mkF, argsToLocals, Value.category]; done) | rfl
theorem d6_0 : decode prog_45_method_10_code 0 = .ok (.iload_n 1, 1) := by decide +kernel
theorem d6_1 : decode prog_45_method_10_code 1 = .ok (.aload_n 0, 1) := by decide +kernel
theorem d6_2 : decode prog_45_method_10_code 2 = .ok (.getfield 38, 3) := by decide +kernel
theorem d6_5 : decode prog_45_method_10_code 5 = .ok (.irem, 1) := by decide +kernel
theorem d6_6 : decode prog_45_method_10_code 6 = .ok (.ireturn, 1) := by decide +kernel
theorem pn_6 : plainName "com/example/tabulon/tabulon/game/Board" = true := by first | (simp [plainName, overriddenIn]; done) | decide +kernel
theorem ef_6 (m : MethodId) (x0 : Addr) (x1 : Int32) : entryFrame m #[(.ref x0), (.int x1)] 2 = mkF m 0 #[.val (.ref x0), .val (.int x1)] [] := by first | (simp [entryFrame, mkF, argsToLocals, Value.category]; done) | rfl
theorem d7_0 : decode prog_45_method_11_code 0 = .ok (.iload_n 1, 1) := by decide +kernel
theorem d7_1 : decode prog_45_method_11_code 1 = .ok (.aload_n 0, 1) := by decide +kernel
theorem d7_2 : decode prog_45_method_11_code 2 = .ok (.getfield 38, 3) := by decide +kernel
theorem d7_5 : decode prog_45_method_11_code 5 = .ok (.idiv, 1) := by decide +kernel
theorem d7_6 : decode prog_45_method_11_code 6 = .ok (.ireturn, 1) := by decide +kernel
theorem pn_7 : plainName "com/example/tabulon/tabulon/game/Board" = true := by first | (simp [plainName, overriddenIn]; done) | decide +kernel
theorem ef_7 (m : MethodId) (x0 : Addr) (x1 : Int32) : entryFrame m #[(.ref x0), (.int x1)] 2 = mkF m 0 #[.val (.ref x0), .val (.int x1)] [] := by first | (simp [entryFrame, mkF, argsToLocals, Value.category]; done) | rfl
theorem d8_0 : decode prog_45_method_12_code 0 = .ok (.iload_n 1, 1) := by decide +kernel
theorem d8_1 : decode prog_45_method_12_code 1 = .ok (.ifCond .lt 27, 3) := by decide +kernel
theorem d8_4 : decode prog_45_method_12_code 4 = .ok (.iload_n 1, 1) := by decide +kernel
theorem d8_5 : decode prog_45_method_12_code 5 = .ok (.aload_n 0, 1) := by decide +kernel
theorem d8_6 : decode prog_45_method_12_code 6 = .ok (.getfield 38, 3) := by decide +kernel
theorem d8_9 : decode prog_45_method_12_code 9 = .ok (.if_icmp .ge 19, 3) := by decide +kernel
theorem d8_12 : decode prog_45_method_12_code 12 = .ok (.iload_n 2, 1) := by decide +kernel
theorem d8_13 : decode prog_45_method_12_code 13 = .ok (.ifCond .lt 15, 3) := by decide +kernel
theorem d8_16 : decode prog_45_method_12_code 16 = .ok (.iload_n 2, 1) := by decide +kernel
theorem d8_17 : decode prog_45_method_12_code 17 = .ok (.aload_n 0, 1) := by decide +kernel
theorem d8_18 : decode prog_45_method_12_code 18 = .ok (.getfield 34, 3) := by decide +kernel
theorem d8_21 : decode prog_45_method_12_code 21 = .ok (.if_icmp .ge 7, 3) := by decide +kernel
theorem d8_24 : decode prog_45_method_12_code 24 = .ok (.iconst 1, 1) := by decide +kernel
theorem d8_25 : decode prog_45_method_12_code 25 = .ok (.goto 4, 3) := by decide +kernel
theorem d8_28 : decode prog_45_method_12_code 28 = .ok (.iconst 0, 1) := by decide +kernel
theorem d8_29 : decode prog_45_method_12_code 29 = .ok (.istore_n 3, 1) := by decide +kernel
theorem d8_30 : decode prog_45_method_12_code 30 = .ok (.iload_n 3, 1) := by decide +kernel
theorem d8_31 : decode prog_45_method_12_code 31 = .ok (.ifCond .eq 14, 3) := by decide +kernel
theorem d8_34 : decode prog_45_method_12_code 34 = .ok (.iload_n 2, 1) := by decide +kernel
theorem d8_35 : decode prog_45_method_12_code 35 = .ok (.aload_n 0, 1) := by decide +kernel
theorem d8_36 : decode prog_45_method_12_code 36 = .ok (.getfield 38, 3) := by decide +kernel
theorem d8_39 : decode prog_45_method_12_code 39 = .ok (.imul, 1) := by decide +kernel
theorem d8_40 : decode prog_45_method_12_code 40 = .ok (.iload_n 1, 1) := by decide +kernel
theorem d8_41 : decode prog_45_method_12_code 41 = .ok (.iadd, 1) := by decide +kernel
theorem d8_42 : decode prog_45_method_12_code 42 = .ok (.goto 4, 3) := by decide +kernel
theorem d8_45 : decode prog_45_method_12_code 45 = .ok (.iconst (-1), 1) := by decide +kernel
theorem d8_46 : decode prog_45_method_12_code 46 = .ok (.ireturn, 1) := by decide +kernel
theorem pn_8 : plainName "com/example/tabulon/tabulon/game/Board" = true := by first | (simp [plainName, overriddenIn]; done) | decide +kernel
theorem ef_8 (m : MethodId) (x0 : Addr) (x1 : Int32) (x2 : Int32) : entryFrame m #[(.ref x0), (.int x1), (.int x2)] 4 = mkF m 0 #[.val (.ref x0), .val (.int x1), .val (.int x2), .unset] [] := by first | (simp [entryFrame, mkF, argsToLocals, Value.category]; done) | rfl
theorem pd_0 : parseMethodDescriptor "(I)I" = some ⟨[.int], some .int⟩ := by decide +kernel
theorem pd_1 : parseMethodDescriptor "()I" = some ⟨[], some .int⟩ := by decide +kernel
theorem pd_2 : parseMethodDescriptor "(III)I" = some ⟨[.int, .int, .int], some .int⟩ := by decide +kernel
theorem pd_3 : parseMethodDescriptor "()[Lcom/example/tabulon/tabulon/game/Board$Direction;" = some ⟨[], some (.array (.object "com/example/tabulon/tabulon/game/Board$Direction"))⟩ := by decide +kernel
theorem pd_4 : parseMethodDescriptor "(Lcom/example/tabulon/tabulon/game/Board$Cells;II)V" = some ⟨[(.object "com/example/tabulon/tabulon/game/Board$Cells"), .int, .int], none⟩ := by decide +kernel
theorem pd_5 : parseMethodDescriptor "(II)I" = some ⟨[.int, .int], some .int⟩ := by decide +kernel
def Qm4_o (Z : State) (a1 : Addr) (w2 : Int32) (h0 : Heap) (n0 : Nat) (v : Option Value) (h : Heap) (L : List Loc) : Prop := v = some (.int w2) ∧ Fr n0 L ∧ h = h0
set_option maxRecDepth 65536 in
set_option maxHeartbeats 40000000 in
theorem rm4_o (l : Launch) (Z : State) (a0 : Array Value) (hw : ∀ d ∈ tables_1, d.before a0 Z = true) (ws : List Jvm.Cond) (a1 : Addr) (w2 : Int32) (h0 : Heap) (n0 : Nat) (Z0 : n0 ≤ h0.size) (F_ordinal_a1 : Fld Z h0 a1 "java/lang/Enum" "ordinal" "I" (.int w2)) :
    MetFree l (⟨"java/lang/Enum", "ordinal", "()I"⟩ : MethodName) (head1 (Jvm.Cond.code (⟨"java/lang/Enum", "ordinal", "()I"⟩ : MethodName) jdk_37_method_2_code 1 (some .int) :: ws) ({ frames := 0, cells := 0, slots := 0, locals := 0 } : Room)) (fun a U => a = #[(.ref a1)] ∧ Z.Warmed39 U.vm ∧ U.heap = h0) (fun _ _ _ _ _ => True) (fun _ U o U' => ∃ v L, o = .returned v ∧ Qm4_o Z a1 w2 h0 n0 v U'.heap L ∧ FrameEnd U o U' L ({ frames := 0, cells := 0, slots := 0, locals := 0 } : Room).cells ({ frames := 0, cells := 0, slots := 0, locals := 0 } : Room).slots) := by
  refine MetFree.of_bodySF (plainFor_of_name pn_4) hisR ?_
  intro p e s m args below meth c s₁ Bd hml0 hP hK
  obtain ⟨rfl, hZ, hh⟩ := hP
  have hx := Bd.exec
  have hby := Bd.bytes
  have hml : c.maxLocals = 1 := hml0
  have hown : s.vm.findClass "java/lang/Enum" = some m.cls := findClass_of_methodNamed Bd.named
  have hnm := (name_of_methodNamed Bd.named Bd.method).1
  have X0 : Stand p l e ({ frames := 0, cells := 0, slots := 0, locals := 0 } : Room) s m #[(.ref a1)] below meth c s₁ [] 0 0 := Stand.of_body Bd
  have e0 : s₁.heap = h0 := by rw [← hh, Bd.state]; rfl
  have N0 := Fr.nil n0
  refine Go.en (ef_4 m a1) ?_
  show Go p e below _ (s₁.setTop (mkF m 0 #[.val (.ref a1)] []))
  refine Go.st (fun _ kk => XS.aloadN X0.here hx rfl (hb hby d4_0) rfl rfl  kk) ?_
  show Go p e below _ (s₁.setTop (mkF m 1 #[.val (.ref a1)] [(.ref a1)]))
  obtain ⟨T3, X3, e3, st3⟩ := getF X0 hx hZ hown (host := "") (Or.inl (hw _ (List.mem_of_getElem? (i := 53) rfl))) Via.refl e0 F_ordinal_a1 (g := (mkF m 1 #[.val (.ref a1)] [(.ref a1)])) rfl rfl (hb hby d4_1)
  refine Go.st st3 ?_
  show Go p e below _ (T3.setTop (mkF m 4 #[.val (.ref a1)] [(.int w2)]))
  exact Go.ret (Q := Qm4_o Z a1 w2 h0 n0) X3 (v := some (.int w2)) (fun h => by rw [Bd.returns] at h; cases h) Bd.notSynchronized (fun fs hr => retOut X3 hx Bd.returns rfl (Or.inl ⟨rfl, Or.inl rfl, _, rfl⟩) (hb hby d4_4) hr) e3 ⟨rfl, N0, rfl⟩ (by decide) (by decide)
def Qm6_f (Z : State) (a1 : Addr) (p2 : Int32) (w3 : Int32) (h0 : Heap) (n0 : Nat) (v : Option Value) (h : Heap) (L : List Loc) : Prop := v = some (.int (p2 % w3)) ∧ Fr n0 L ∧ h = h0
set_option maxRecDepth 65536 in
set_option maxHeartbeats 40000000 in
theorem rm6_f (l : Launch) (Z : State) (a0 : Array Value) (hw : ∀ d ∈ tables_1, d.before a0 Z = true) (ws : List Jvm.Cond) (a1 : Addr) (p2 : Int32) (w3 : Int32) (h0 : Heap) (n0 : Nat) (Z0 : n0 ≤ h0.size) (F_columns_a1 : Fld Z h0 a1 "com/example/tabulon/tabulon/game/Board" "columns" "I" (.int w3)) (hd0 : ¬ (w3 = (0 : Int32))) :
    MetFree l (⟨"com/example/tabulon/tabulon/game/Board", "column", "(I)I"⟩ : MethodName) (head1 (Jvm.Cond.code (⟨"com/example/tabulon/tabulon/game/Board", "column", "(I)I"⟩ : MethodName) prog_45_method_10_code 2 (some .int) :: ws) ({ frames := 0, cells := 0, slots := 0, locals := 0 } : Room)) (fun a U => a = #[(.ref a1), (.int p2)] ∧ Z.Warmed39 U.vm ∧ U.heap = h0) (fun _ _ _ _ _ => True) (fun _ U o U' => ∃ v L, o = .returned v ∧ Qm6_f Z a1 p2 w3 h0 n0 v U'.heap L ∧ FrameEnd U o U' L ({ frames := 0, cells := 0, slots := 0, locals := 0 } : Room).cells ({ frames := 0, cells := 0, slots := 0, locals := 0 } : Room).slots) := by
  refine MetFree.of_bodySF (plainFor_of_name pn_6) hisR ?_
  intro p e s m args below meth c s₁ Bd hml0 hP hK
  obtain ⟨rfl, hZ, hh⟩ := hP
  have hx := Bd.exec
  have hby := Bd.bytes
  have hml : c.maxLocals = 2 := hml0
  have hown : s.vm.findClass "com/example/tabulon/tabulon/game/Board" = some m.cls := findClass_of_methodNamed Bd.named
  have hnm := (name_of_methodNamed Bd.named Bd.method).1
  have X0 : Stand p l e ({ frames := 0, cells := 0, slots := 0, locals := 0 } : Room) s m #[(.ref a1), (.int p2)] below meth c s₁ [] 0 0 := Stand.of_body Bd
  have e0 : s₁.heap = h0 := by rw [← hh, Bd.state]; rfl
  have N0 := Fr.nil n0
  refine Go.en (ef_6 m a1 p2) ?_
  show Go p e below _ (s₁.setTop (mkF m 0 #[.val (.ref a1), .val (.int p2)] []))
  refine Go.st (fun _ kk => XS.iloadN X0.here hx rfl (hb hby d6_0) rfl  kk) ?_
  show Go p e below _ (s₁.setTop (mkF m 1 #[.val (.ref a1), .val (.int p2)] [(.int p2)]))
  refine Go.st (fun _ kk => XS.aloadN X0.here hx rfl (hb hby d6_1) rfl rfl  kk) ?_
  show Go p e below _ (s₁.setTop (mkF m 2 #[.val (.ref a1), .val (.int p2)] [(.ref a1), (.int p2)]))
  obtain ⟨T4, X4, e4, st4⟩ := getF X0 hx hZ hown (host := "") (Or.inl (hw _ (List.mem_of_getElem? (i := 41) rfl))) Via.refl e0 F_columns_a1 (g := (mkF m 2 #[.val (.ref a1), .val (.int p2)] [(.ref a1), (.int p2)])) rfl rfl (hb hby d6_2)
  refine Go.st st4 ?_
  show Go p e below _ (T4.setTop (mkF m 5 #[.val (.ref a1), .val (.int p2)] [(.int w3), (.int p2)]))
  refine Go.st (fun _ kk => iremM (g := (mkF m 5 #[.val (.ref a1), .val (.int p2)] [(.int w3), (.int p2)])) X4 hx rfl (hb hby d6_5) rfl hd0 kk) ?_
  show Go p e below _ (T4.setTop (mkF m 6 #[.val (.ref a1), .val (.int p2)] [(.int (p2 % w3))]))
  exact Go.ret (Q := Qm6_f Z a1 p2 w3 h0 n0) X4 (v := some (.int (p2 % w3))) (fun h => by rw [Bd.returns] at h; cases h) Bd.notSynchronized (fun fs hr => retOut X4 hx Bd.returns rfl (Or.inl ⟨rfl, Or.inl rfl, _, rfl⟩) (hb hby d6_6) hr) e4 ⟨rfl, N0, rfl⟩ (by decide) (by decide)
def Qm7_f (Z : State) (a1 : Addr) (p2 : Int32) (w3 : Int32) (h0 : Heap) (n0 : Nat) (v : Option Value) (h : Heap) (L : List Loc) : Prop := v = some (.int (p2 / w3)) ∧ Fr n0 L ∧ h = h0
set_option maxRecDepth 65536 in
set_option maxHeartbeats 40000000 in
theorem rm7_f (l : Launch) (Z : State) (a0 : Array Value) (hw : ∀ d ∈ tables_1, d.before a0 Z = true) (ws : List Jvm.Cond) (a1 : Addr) (p2 : Int32) (w3 : Int32) (h0 : Heap) (n0 : Nat) (Z0 : n0 ≤ h0.size) (F_columns_a1 : Fld Z h0 a1 "com/example/tabulon/tabulon/game/Board" "columns" "I" (.int w3)) (hd0 : ¬ (w3 = (0 : Int32))) :
    MetFree l (⟨"com/example/tabulon/tabulon/game/Board", "row", "(I)I"⟩ : MethodName) (head1 (Jvm.Cond.code (⟨"com/example/tabulon/tabulon/game/Board", "row", "(I)I"⟩ : MethodName) prog_45_method_11_code 2 (some .int) :: ws) ({ frames := 0, cells := 0, slots := 0, locals := 0 } : Room)) (fun a U => a = #[(.ref a1), (.int p2)] ∧ Z.Warmed39 U.vm ∧ U.heap = h0) (fun _ _ _ _ _ => True) (fun _ U o U' => ∃ v L, o = .returned v ∧ Qm7_f Z a1 p2 w3 h0 n0 v U'.heap L ∧ FrameEnd U o U' L ({ frames := 0, cells := 0, slots := 0, locals := 0 } : Room).cells ({ frames := 0, cells := 0, slots := 0, locals := 0 } : Room).slots) := by
  refine MetFree.of_bodySF (plainFor_of_name pn_7) hisR ?_
  intro p e s m args below meth c s₁ Bd hml0 hP hK
  obtain ⟨rfl, hZ, hh⟩ := hP
  have hx := Bd.exec
  have hby := Bd.bytes
  have hml : c.maxLocals = 2 := hml0
  have hown : s.vm.findClass "com/example/tabulon/tabulon/game/Board" = some m.cls := findClass_of_methodNamed Bd.named
  have hnm := (name_of_methodNamed Bd.named Bd.method).1
  have X0 : Stand p l e ({ frames := 0, cells := 0, slots := 0, locals := 0 } : Room) s m #[(.ref a1), (.int p2)] below meth c s₁ [] 0 0 := Stand.of_body Bd
  have e0 : s₁.heap = h0 := by rw [← hh, Bd.state]; rfl
  have N0 := Fr.nil n0
  refine Go.en (ef_7 m a1 p2) ?_
  show Go p e below _ (s₁.setTop (mkF m 0 #[.val (.ref a1), .val (.int p2)] []))
  refine Go.st (fun _ kk => XS.iloadN X0.here hx rfl (hb hby d7_0) rfl  kk) ?_
  show Go p e below _ (s₁.setTop (mkF m 1 #[.val (.ref a1), .val (.int p2)] [(.int p2)]))
  refine Go.st (fun _ kk => XS.aloadN X0.here hx rfl (hb hby d7_1) rfl rfl  kk) ?_
  show Go p e below _ (s₁.setTop (mkF m 2 #[.val (.ref a1), .val (.int p2)] [(.ref a1), (.int p2)]))
  obtain ⟨T4, X4, e4, st4⟩ := getF X0 hx hZ hown (host := "") (Or.inl (hw _ (List.mem_of_getElem? (i := 41) rfl))) Via.refl e0 F_columns_a1 (g := (mkF m 2 #[.val (.ref a1), .val (.int p2)] [(.ref a1), (.int p2)])) rfl rfl (hb hby d7_2)
  refine Go.st st4 ?_
  show Go p e below _ (T4.setTop (mkF m 5 #[.val (.ref a1), .val (.int p2)] [(.int w3), (.int p2)]))
  refine Go.st (fun _ kk => XS.idiv X4.here hx rfl (hb hby d7_5) rfl hd0 kk) ?_
  show Go p e below _ (T4.setTop (mkF m 6 #[.val (.ref a1), .val (.int p2)] [(.int (p2 / w3))]))
  exact Go.ret (Q := Qm7_f Z a1 p2 w3 h0 n0) X4 (v := some (.int (p2 / w3))) (fun h => by rw [Bd.returns] at h; cases h) Bd.notSynchronized (fun fs hr => retOut X4 hx Bd.returns rfl (Or.inl ⟨rfl, Or.inl rfl, _, rfl⟩) (hb hby d7_6) hr) e4 ⟨rfl, N0, rfl⟩ (by decide) (by decide)
def Qm8_t (Z : State) (a1 : Addr) (p2 : Int32) (p3 : Int32) (h0 : Heap) (n0 : Nat) (v : Option Value) (h : Heap) (L : List Loc) : Prop := v = some (.int (-1 : Int32)) ∧ Fr n0 L ∧ h = h0
set_option maxRecDepth 65536 in
set_option maxHeartbeats 40000000 in
theorem rm8_t (l : Launch) (Z : State) (a0 : Array Value) (hw : ∀ d ∈ tables_1, d.before a0 Z = true) (ws : List Jvm.Cond) (a1 : Addr) (p2 : Int32) (p3 : Int32) (h0 : Heap) (n0 : Nat) (Z0 : n0 ≤ h0.size) (hd0 : p2 < (0 : Int32)) :
    MetFree l (⟨"com/example/tabulon/tabulon/game/Board", "siteAt", "(II)I"⟩ : MethodName) (head1 (Jvm.Cond.code (⟨"com/example/tabulon/tabulon/game/Board", "siteAt", "(II)I"⟩ : MethodName) prog_45_method_12_code 4 (some .int) :: ws) ({ frames := 0, cells := 0, slots := 0, locals := 0 } : Room)) (fun a U => a = #[(.ref a1), (.int p2), (.int p3)] ∧ Z.Warmed39 U.vm ∧ U.heap = h0) (fun _ _ _ _ _ => True) (fun _ U o U' => ∃ v L, o = .returned v ∧ Qm8_t Z a1 p2 p3 h0 n0 v U'.heap L ∧ FrameEnd U o U' L ({ frames := 0, cells := 0, slots := 0, locals := 0 } : Room).cells ({ frames := 0, cells := 0, slots := 0, locals := 0 } : Room).slots) := by
  refine MetFree.of_bodySF (plainFor_of_name pn_8) hisR ?_
  intro p e s m args below meth c s₁ Bd hml0 hP hK
  obtain ⟨rfl, hZ, hh⟩ := hP
  have hx := Bd.exec
  have hby := Bd.bytes
  have hml : c.maxLocals = 4 := hml0
  have hown : s.vm.findClass "com/example/tabulon/tabulon/game/Board" = some m.cls := findClass_of_methodNamed Bd.named
  have hnm := (name_of_methodNamed Bd.named Bd.method).1
  have X0 : Stand p l e ({ frames := 0, cells := 0, slots := 0, locals := 0 } : Room) s m #[(.ref a1), (.int p2), (.int p3)] below meth c s₁ [] 0 0 := Stand.of_body Bd
  have e0 : s₁.heap = h0 := by rw [← hh, Bd.state]; rfl
  have N0 := Fr.nil n0
  refine Go.en (ef_8 m a1 p2 p3) ?_
  show Go p e below _ (s₁.setTop (mkF m 0 #[.val (.ref a1), .val (.int p2), .val (.int p3), .unset] []))
  refine Go.st (fun _ kk => XS.iloadN X0.here hx rfl (hb hby d8_0) rfl  kk) ?_
  show Go p e below _ (s₁.setTop (mkF m 1 #[.val (.ref a1), .val (.int p2), .val (.int p3), .unset] [(.int p2)]))
  refine Go.st (fun _ kk => XS.ifYes X0.here hx rfl (pc0 := 1) (pc' := 28) rfl (hb hby d8_1) rfl ((if0 _ _).trans (tlt hd0).1) (by decide) (by decide) kk) ?_
  show Go p e below _ (s₁.setTop (mkF m 28 #[.val (.ref a1), .val (.int p2), .val (.int p3), .unset] []))
  refine Go.st (fun _ kk => XS.iconst X0.here hx rfl (hb hby d8_28) kk) ?_
  show Go p e below _ (s₁.setTop (mkF m 29 #[.val (.ref a1), .val (.int p2), .val (.int p3), .unset] [(.int (0 : Int32))]))
  refine Go.st (fun _ kk => XS.istoreN X0.here hx rfl (hb hby d8_29) rfl (l' := #[.val (.ref a1), .val (.int p2), .val (.int p3), .val (.int (0 : Int32))]) rfl kk) ?_
  show Go p e below _ (s₁.setTop (mkF m 30 #[.val (.ref a1), .val (.int p2), .val (.int p3), .val (.int (0 : Int32))] []))
  refine Go.st (fun _ kk => XS.iloadN X0.here hx rfl (hb hby d8_30) rfl  kk) ?_
  show Go p e below _ (s₁.setTop (mkF m 31 #[.val (.ref a1), .val (.int p2), .val (.int p3), .val (.int (0 : Int32))] [(.int (0 : Int32))]))
  refine Go.st (fun _ kk => XS.ifYes X0.here hx rfl (pc0 := 31) (pc' := 45) rfl (hb hby d8_31) rfl ((if0 _ _).trans (teq (by decide : ((0 : Int32) = (0 : Int32)))).1) (by decide) (by decide) kk) ?_
  show Go p e below _ (s₁.setTop (mkF m 45 #[.val (.ref a1), .val (.int p2), .val (.int p3), .val (.int (0 : Int32))] []))
  refine Go.st (fun _ kk => XS.iconst X0.here hx rfl (hb hby d8_45) kk) ?_
  show Go p e below _ (s₁.setTop (mkF m 46 #[.val (.ref a1), .val (.int p2), .val (.int p3), .val (.int (0 : Int32))] [(.int (-1 : Int32))]))
  exact Go.ret (Q := Qm8_t Z a1 p2 p3 h0 n0) X0 (v := some (.int (-1 : Int32))) (fun h => by rw [Bd.returns] at h; cases h) Bd.notSynchronized (fun fs hr => retOut X0 hx Bd.returns rfl (Or.inl ⟨rfl, Or.inl rfl, _, rfl⟩) (hb hby d8_46) hr) e0 ⟨rfl, N0, rfl⟩ (by decide) (by decide)
def Qm8_ftt (Z : State) (a1 : Addr) (p2 : Int32) (p3 : Int32) (w4 : Int32) (h0 : Heap) (n0 : Nat) (v : Option Value) (h : Heap) (L : List Loc) : Prop := v = some (.int (-1 : Int32)) ∧ Fr n0 L ∧ h = h0
set_option maxRecDepth 65536 in
set_option maxHeartbeats 40000000 in
theorem rm8_ftt (l : Launch) (Z : State) (a0 : Array Value) (hw : ∀ d ∈ tables_1, d.before a0 Z = true) (ws : List Jvm.Cond) (a1 : Addr) (p2 : Int32) (p3 : Int32) (w4 : Int32) (h0 : Heap) (n0 : Nat) (Z0 : n0 ≤ h0.size) (hd0 : ¬ (p2 < (0 : Int32))) (F_columns_a1 : Fld Z h0 a1 "com/example/tabulon/tabulon/game/Board" "columns" "I" (.int w4)) (hd1 : p2 < w4) (hd2 : p3 < (0 : Int32)) :
    MetFree l (⟨"com/example/tabulon/tabulon/game/Board", "siteAt", "(II)I"⟩ : MethodName) (head1 (Jvm.Cond.code (⟨"com/example/tabulon/tabulon/game/Board", "siteAt", "(II)I"⟩ : MethodName) prog_45_method_12_code 4 (some .int) :: ws) ({ frames := 0, cells := 0, slots := 0, locals := 0 } : Room)) (fun a U => a = #[(.ref a1), (.int p2), (.int p3)] ∧ Z.Warmed39 U.vm ∧ U.heap = h0) (fun _ _ _ _ _ => True) (fun _ U o U' => ∃ v L, o = .returned v ∧ Qm8_ftt Z a1 p2 p3 w4 h0 n0 v U'.heap L ∧ FrameEnd U o U' L ({ frames := 0, cells := 0, slots := 0, locals := 0 } : Room).cells ({ frames := 0, cells := 0, slots := 0, locals := 0 } : Room).slots) := by
  refine MetFree.of_bodySF (plainFor_of_name pn_8) hisR ?_
  intro p e s m args below meth c s₁ Bd hml0 hP hK
  obtain ⟨rfl, hZ, hh⟩ := hP
  have hx := Bd.exec
  have hby := Bd.bytes
  have hml : c.maxLocals = 4 := hml0
  have hown : s.vm.findClass "com/example/tabulon/tabulon/game/Board" = some m.cls := findClass_of_methodNamed Bd.named
  have hnm := (name_of_methodNamed Bd.named Bd.method).1
  have X0 : Stand p l e ({ frames := 0, cells := 0, slots := 0, locals := 0 } : Room) s m #[(.ref a1), (.int p2), (.int p3)] below meth c s₁ [] 0 0 := Stand.of_body Bd
  have e0 : s₁.heap = h0 := by rw [← hh, Bd.state]; rfl
  have N0 := Fr.nil n0
  refine Go.en (ef_8 m a1 p2 p3) ?_
  show Go p e below _ (s₁.setTop (mkF m 0 #[.val (.ref a1), .val (.int p2), .val (.int p3), .unset] []))
  refine Go.st (fun _ kk => XS.iloadN X0.here hx rfl (hb hby d8_0) rfl  kk) ?_
  show Go p e below _ (s₁.setTop (mkF m 1 #[.val (.ref a1), .val (.int p2), .val (.int p3), .unset] [(.int p2)]))
  refine Go.st (fun _ kk => XS.ifNo X0.here hx rfl (hb hby d8_1) rfl ((if0 _ _).trans (flt hd0).1) kk) ?_
  show Go p e below _ (s₁.setTop (mkF m 4 #[.val (.ref a1), .val (.int p2), .val (.int p3), .unset] []))
  refine Go.st (fun _ kk => XS.iloadN X0.here hx rfl (hb hby d8_4) rfl  kk) ?_
  show Go p e below _ (s₁.setTop (mkF m 5 #[.val (.ref a1), .val (.int p2), .val (.int p3), .unset] [(.int p2)]))
  refine Go.st (fun _ kk => XS.aloadN X0.here hx rfl (hb hby d8_5) rfl rfl  kk) ?_
  show Go p e below _ (s₁.setTop (mkF m 6 #[.val (.ref a1), .val (.int p2), .val (.int p3), .unset] [(.ref a1), (.int p2)]))
  obtain ⟨T5, X5, e5, st5⟩ := getF X0 hx hZ hown (host := "") (Or.inl (hw _ (List.mem_of_getElem? (i := 41) rfl))) Via.refl e0 F_columns_a1 (g := (mkF m 6 #[.val (.ref a1), .val (.int p2), .val (.int p3), .unset] [(.ref a1), (.int p2)])) rfl rfl (hb hby d8_6)
  refine Go.st st5 ?_
  show Go p e below _ (T5.setTop (mkF m 9 #[.val (.ref a1), .val (.int p2), .val (.int p3), .unset] [(.int w4), (.int p2)]))
  refine Go.st (fun _ kk => XS.icmpNo X5.here hx rfl (hb hby d8_9) rfl (tlt hd1).2.1 kk) ?_
  show Go p e below _ (T5.setTop (mkF m 12 #[.val (.ref a1), .val (.int p2), .val (.int p3), .unset] []))
  refine Go.st (fun _ kk => XS.iloadN X5.here hx rfl (hb hby d8_12) rfl  kk) ?_
  show Go p e below _ (T5.setTop (mkF m 13 #[.val (.ref a1), .val (.int p2), .val (.int p3), .unset] [(.int p3)]))
  refine Go.st (fun _ kk => XS.ifYes X5.here hx rfl (pc0 := 13) (pc' := 28) rfl (hb hby d8_13) rfl ((if0 _ _).trans (tlt hd2).1) (by decide) (by decide) kk) ?_
  show Go p e below _ (T5.setTop (mkF m 28 #[.val (.ref a1), .val (.int p2), .val (.int p3), .unset] []))
  refine Go.st (fun _ kk => XS.iconst X5.here hx rfl (hb hby d8_28) kk) ?_
  show Go p e below _ (T5.setTop (mkF m 29 #[.val (.ref a1), .val (.int p2), .val (.int p3), .unset] [(.int (0 : Int32))]))
  refine Go.st (fun _ kk => XS.istoreN X5.here hx rfl (hb hby d8_29) rfl (l' := #[.val (.ref a1), .val (.int p2), .val (.int p3), .val (.int (0 : Int32))]) rfl kk) ?_
  show Go p e below _ (T5.setTop (mkF m 30 #[.val (.ref a1), .val (.int p2), .val (.int p3), .val (.int (0 : Int32))] []))
  refine Go.st (fun _ kk => XS.iloadN X5.here hx rfl (hb hby d8_30) rfl  kk) ?_
  show Go p e below _ (T5.setTop (mkF m 31 #[.val (.ref a1), .val (.int p2), .val (.int p3), .val (.int (0 : Int32))] [(.int (0 : Int32))]))
  refine Go.st (fun _ kk => XS.ifYes X5.here hx rfl (pc0 := 31) (pc' := 45) rfl (hb hby d8_31) rfl ((if0 _ _).trans (teq (by decide : ((0 : Int32) = (0 : Int32)))).1) (by decide) (by decide) kk) ?_
  show Go p e below _ (T5.setTop (mkF m 45 #[.val (.ref a1), .val (.int p2), .val (.int p3), .val (.int (0 : Int32))] []))
  refine Go.st (fun _ kk => XS.iconst X5.here hx rfl (hb hby d8_45) kk) ?_
  show Go p e below _ (T5.setTop (mkF m 46 #[.val (.ref a1), .val (.int p2), .val (.int p3), .val (.int (0 : Int32))] [(.int (-1 : Int32))]))
  exact Go.ret (Q := Qm8_ftt Z a1 p2 p3 w4 h0 n0) X5 (v := some (.int (-1 : Int32))) (fun h => by rw [Bd.returns] at h; cases h) Bd.notSynchronized (fun fs hr => retOut X5 hx Bd.returns rfl (Or.inl ⟨rfl, Or.inl rfl, _, rfl⟩) (hb hby d8_46) hr) e5 ⟨rfl, N0, rfl⟩ (by decide) (by decide)
def Qm8_ftft (Z : State) (a1 : Addr) (p2 : Int32) (p3 : Int32) (w4 : Int32) (w6 : Int32) (h0 : Heap) (n0 : Nat) (v : Option Value) (h : Heap) (L : List Loc) : Prop := v = some (.int ((p3 * w4) + p2)) ∧ Fr n0 L ∧ h = h0
set_option maxRecDepth 65536 in
set_option maxHeartbeats 40000000 in
theorem rm8_ftft (l : Launch) (Z : State) (a0 : Array Value) (hw : ∀ d ∈ tables_1, d.before a0 Z = true) (ws : List Jvm.Cond) (a1 : Addr) (p2 : Int32) (p3 : Int32) (w4 : Int32) (w6 : Int32) (h0 : Heap) (n0 : Nat) (Z0 : n0 ≤ h0.size) (hd0 : ¬ (p2 < (0 : Int32))) (F_columns_a1 : Fld Z h0 a1 "com/example/tabulon/tabulon/game/Board" "columns" "I" (.int w4)) (hd1 : p2 < w4) (hd2 : ¬ (p3 < (0 : Int32))) (F_rows_a1 : Fld Z h0 a1 "com/example/tabulon/tabulon/game/Board" "rows" "I" (.int w6)) (hd3 : p3 < w6) :
    MetFree l (⟨"com/example/tabulon/tabulon/game/Board", "siteAt", "(II)I"⟩ : MethodName) (head1 (Jvm.Cond.code (⟨"com/example/tabulon/tabulon/game/Board", "siteAt", "(II)I"⟩ : MethodName) prog_45_method_12_code 4 (some .int) :: ws) ({ frames := 0, cells := 0, slots := 0, locals := 0 } : Room)) (fun a U => a = #[(.ref a1), (.int p2), (.int p3)] ∧ Z.Warmed39 U.vm ∧ U.heap = h0) (fun _ _ _ _ _ => True) (fun _ U o U' => ∃ v L, o = .returned v ∧ Qm8_ftft Z a1 p2 p3 w4 w6 h0 n0 v U'.heap L ∧ FrameEnd U o U' L ({ frames := 0, cells := 0, slots := 0, locals := 0 } : Room).cells ({ frames := 0, cells := 0, slots := 0, locals := 0 } : Room).slots) := by
  refine MetFree.of_bodySF (plainFor_of_name pn_8) hisR ?_
  intro p e s m args below meth c s₁ Bd hml0 hP hK
  obtain ⟨rfl, hZ, hh⟩ := hP
  have hx := Bd.exec
  have hby := Bd.bytes
  have hml : c.maxLocals = 4 := hml0
  have hown : s.vm.findClass "com/example/tabulon/tabulon/game/Board" = some m.cls := findClass_of_methodNamed Bd.named
  have hnm := (name_of_methodNamed Bd.named Bd.method).1
  have X0 : Stand p l e ({ frames := 0, cells := 0, slots := 0, locals := 0 } : Room) s m #[(.ref a1), (.int p2), (.int p3)] below meth c s₁ [] 0 0 := Stand.of_body Bd
  have e0 : s₁.heap = h0 := by rw [← hh, Bd.state]; rfl
  have N0 := Fr.nil n0
  refine Go.en (ef_8 m a1 p2 p3) ?_
  show Go p e below _ (s₁.setTop (mkF m 0 #[.val (.ref a1), .val (.int p2), .val (.int p3), .unset] []))
  refine Go.st (fun _ kk => XS.iloadN X0.here hx rfl (hb hby d8_0) rfl  kk) ?_
  show Go p e below _ (s₁.setTop (mkF m 1 #[.val (.ref a1), .val (.int p2), .val (.int p3), .unset] [(.int p2)]))
  refine Go.st (fun _ kk => XS.ifNo X0.here hx rfl (hb hby d8_1) rfl ((if0 _ _).trans (flt hd0).1) kk) ?_
  show Go p e below _ (s₁.setTop (mkF m 4 #[.val (.ref a1), .val (.int p2), .val (.int p3), .unset] []))
  refine Go.st (fun _ kk => XS.iloadN X0.here hx rfl (hb hby d8_4) rfl  kk) ?_
  show Go p e below _ (s₁.setTop (mkF m 5 #[.val (.ref a1), .val (.int p2), .val (.int p3), .unset] [(.int p2)]))
  refine Go.st (fun _ kk => XS.aloadN X0.here hx rfl (hb hby d8_5) rfl rfl  kk) ?_
  show Go p e below _ (s₁.setTop (mkF m 6 #[.val (.ref a1), .val (.int p2), .val (.int p3), .unset] [(.ref a1), (.int p2)]))
  obtain ⟨T5, X5, e5, st5⟩ := getF X0 hx hZ hown (host := "") (Or.inl (hw _ (List.mem_of_getElem? (i := 41) rfl))) Via.refl e0 F_columns_a1 (g := (mkF m 6 #[.val (.ref a1), .val (.int p2), .val (.int p3), .unset] [(.ref a1), (.int p2)])) rfl rfl (hb hby d8_6)
  refine Go.st st5 ?_
  show Go p e below _ (T5.setTop (mkF m 9 #[.val (.ref a1), .val (.int p2), .val (.int p3), .unset] [(.int w4), (.int p2)]))
  refine Go.st (fun _ kk => XS.icmpNo X5.here hx rfl (hb hby d8_9) rfl (tlt hd1).2.1 kk) ?_
  show Go p e below _ (T5.setTop (mkF m 12 #[.val (.ref a1), .val (.int p2), .val (.int p3), .unset] []))
  refine Go.st (fun _ kk => XS.iloadN X5.here hx rfl (hb hby d8_12) rfl  kk) ?_
  show Go p e below _ (T5.setTop (mkF m 13 #[.val (.ref a1), .val (.int p2), .val (.int p3), .unset] [(.int p3)]))
  refine Go.st (fun _ kk => XS.ifNo X5.here hx rfl (hb hby d8_13) rfl ((if0 _ _).trans (flt hd2).1) kk) ?_
  show Go p e below _ (T5.setTop (mkF m 16 #[.val (.ref a1), .val (.int p2), .val (.int p3), .unset] []))
  refine Go.st (fun _ kk => XS.iloadN X5.here hx rfl (hb hby d8_16) rfl  kk) ?_
  show Go p e below _ (T5.setTop (mkF m 17 #[.val (.ref a1), .val (.int p2), .val (.int p3), .unset] [(.int p3)]))
  refine Go.st (fun _ kk => XS.aloadN X5.here hx rfl (hb hby d8_17) rfl rfl  kk) ?_
  show Go p e below _ (T5.setTop (mkF m 18 #[.val (.ref a1), .val (.int p2), .val (.int p3), .unset] [(.ref a1), (.int p3)]))
  obtain ⟨T7, X7, e7, st7⟩ := getF X5 hx hZ hown (host := "") (Or.inl (hw _ (List.mem_of_getElem? (i := 39) rfl))) Via.refl e5 F_rows_a1 (g := (mkF m 18 #[.val (.ref a1), .val (.int p2), .val (.int p3), .unset] [(.ref a1), (.int p3)])) rfl rfl (hb hby d8_18)
  refine Go.st st7 ?_
  show Go p e below _ (T7.setTop (mkF m 21 #[.val (.ref a1), .val (.int p2), .val (.int p3), .unset] [(.int w6), (.int p3)]))
  refine Go.st (fun _ kk => XS.icmpNo X7.here hx rfl (hb hby d8_21) rfl (tlt hd3).2.1 kk) ?_
  show Go p e below _ (T7.setTop (mkF m 24 #[.val (.ref a1), .val (.int p2), .val (.int p3), .unset] []))
  refine Go.st (fun _ kk => XS.iconst X7.here hx rfl (hb hby d8_24) kk) ?_
  show Go p e below _ (T7.setTop (mkF m 25 #[.val (.ref a1), .val (.int p2), .val (.int p3), .unset] [(.int (1 : Int32))]))
  refine Go.st (fun _ kk => XS.goto X7.here hx rfl (pc0 := 25) (pc' := 29) rfl (hb hby d8_25) (by decide) (by decide) kk) ?_
  show Go p e below _ (T7.setTop (mkF m 29 #[.val (.ref a1), .val (.int p2), .val (.int p3), .unset] [(.int (1 : Int32))]))
  refine Go.st (fun _ kk => XS.istoreN X7.here hx rfl (hb hby d8_29) rfl (l' := #[.val (.ref a1), .val (.int p2), .val (.int p3), .val (.int (1 : Int32))]) rfl kk) ?_
  show Go p e below _ (T7.setTop (mkF m 30 #[.val (.ref a1), .val (.int p2), .val (.int p3), .val (.int (1 : Int32))] []))
  refine Go.st (fun _ kk => XS.iloadN X7.here hx rfl (hb hby d8_30) rfl  kk) ?_
  show Go p e below _ (T7.setTop (mkF m 31 #[.val (.ref a1), .val (.int p2), .val (.int p3), .val (.int (1 : Int32))] [(.int (1 : Int32))]))
  refine Go.st (fun _ kk => XS.ifNo X7.here hx rfl (hb hby d8_31) rfl ((if0 _ _).trans (feq (by decide : ¬ ((1 : Int32) = (0 : Int32)))).1) kk) ?_
  show Go p e below _ (T7.setTop (mkF m 34 #[.val (.ref a1), .val (.int p2), .val (.int p3), .val (.int (1 : Int32))] []))
  refine Go.st (fun _ kk => XS.iloadN X7.here hx rfl (hb hby d8_34) rfl  kk) ?_
  show Go p e below _ (T7.setTop (mkF m 35 #[.val (.ref a1), .val (.int p2), .val (.int p3), .val (.int (1 : Int32))] [(.int p3)]))
  refine Go.st (fun _ kk => XS.aloadN X7.here hx rfl (hb hby d8_35) rfl rfl  kk) ?_
  show Go p e below _ (T7.setTop (mkF m 36 #[.val (.ref a1), .val (.int p2), .val (.int p3), .val (.int (1 : Int32))] [(.ref a1), (.int p3)]))
  obtain ⟨T8, X8, e8, st8⟩ := getF X7 hx hZ hown (host := "") (Or.inl (hw _ (List.mem_of_getElem? (i := 41) rfl))) Via.refl e7 F_columns_a1 (g := (mkF m 36 #[.val (.ref a1), .val (.int p2), .val (.int p3), .val (.int (1 : Int32))] [(.ref a1), (.int p3)])) rfl rfl (hb hby d8_36)
  refine Go.st st8 ?_
  show Go p e below _ (T8.setTop (mkF m 39 #[.val (.ref a1), .val (.int p2), .val (.int p3), .val (.int (1 : Int32))] [(.int w4), (.int p3)]))
  refine Go.st (fun _ kk => XS.imul X8.here hx rfl (hb hby d8_39) rfl kk) ?_
  show Go p e below _ (T8.setTop (mkF m 40 #[.val (.ref a1), .val (.int p2), .val (.int p3), .val (.int (1 : Int32))] [(.int (p3 * w4))]))
  refine Go.st (fun _ kk => XS.iloadN X8.here hx rfl (hb hby d8_40) rfl  kk) ?_
  show Go p e below _ (T8.setTop (mkF m 41 #[.val (.ref a1), .val (.int p2), .val (.int p3), .val (.int (1 : Int32))] [(.int p2), (.int (p3 * w4))]))
  refine Go.st (fun _ kk => XS.iadd X8.here hx rfl (hb hby d8_41) rfl kk) ?_
  show Go p e below _ (T8.setTop (mkF m 42 #[.val (.ref a1), .val (.int p2), .val (.int p3), .val (.int (1 : Int32))] [(.int ((p3 * w4) + p2))]))
  refine Go.st (fun _ kk => XS.goto X8.here hx rfl (pc0 := 42) (pc' := 46) rfl (hb hby d8_42) (by decide) (by decide) kk) ?_
  show Go p e below _ (T8.setTop (mkF m 46 #[.val (.ref a1), .val (.int p2), .val (.int p3), .val (.int (1 : Int32))] [(.int ((p3 * w4) + p2))]))
  exact Go.ret (Q := Qm8_ftft Z a1 p2 p3 w4 w6 h0 n0) X8 (v := some (.int ((p3 * w4) + p2))) (fun h => by rw [Bd.returns] at h; cases h) Bd.notSynchronized (fun fs hr => retOut X8 hx Bd.returns rfl (Or.inl ⟨rfl, Or.inl rfl, _, rfl⟩) (hb hby d8_46) hr) e8 ⟨rfl, N0, rfl⟩ (by decide) (by decide)
def Qm8_ftff (Z : State) (a1 : Addr) (p2 : Int32) (p3 : Int32) (w4 : Int32) (w6 : Int32) (h0 : Heap) (n0 : Nat) (v : Option Value) (h : Heap) (L : List Loc) : Prop := v = some (.int (-1 : Int32)) ∧ Fr n0 L ∧ h = h0
set_option maxRecDepth 65536 in
set_option maxHeartbeats 40000000 in
theorem rm8_ftff (l : Launch) (Z : State) (a0 : Array Value) (hw : ∀ d ∈ tables_1, d.before a0 Z = true) (ws : List Jvm.Cond) (a1 : Addr) (p2 : Int32) (p3 : Int32) (w4 : Int32) (w6 : Int32) (h0 : Heap) (n0 : Nat) (Z0 : n0 ≤ h0.size) (hd0 : ¬ (p2 < (0 : Int32))) (F_columns_a1 : Fld Z h0 a1 "com/example/tabulon/tabulon/game/Board" "columns" "I" (.int w4)) (hd1 : p2 < w4) (hd2 : ¬ (p3 < (0 : Int32))) (F_rows_a1 : Fld Z h0 a1 "com/example/tabulon/tabulon/game/Board" "rows" "I" (.int w6)) (hd3 : ¬ (p3 < w6)) :
    MetFree l (⟨"com/example/tabulon/tabulon/game/Board", "siteAt", "(II)I"⟩ : MethodName) (head1 (Jvm.Cond.code (⟨"com/example/tabulon/tabulon/game/Board", "siteAt", "(II)I"⟩ : MethodName) prog_45_method_12_code 4 (some .int) :: ws) ({ frames := 0, cells := 0, slots := 0, locals := 0 } : Room)) (fun a U => a = #[(.ref a1), (.int p2), (.int p3)] ∧ Z.Warmed39 U.vm ∧ U.heap = h0) (fun _ _ _ _ _ => True) (fun _ U o U' => ∃ v L, o = .returned v ∧ Qm8_ftff Z a1 p2 p3 w4 w6 h0 n0 v U'.heap L ∧ FrameEnd U o U' L ({ frames := 0, cells := 0, slots := 0, locals := 0 } : Room).cells ({ frames := 0, cells := 0, slots := 0, locals := 0 } : Room).slots) := by
  refine MetFree.of_bodySF (plainFor_of_name pn_8) hisR ?_
  intro p e s m args below meth c s₁ Bd hml0 hP hK
  obtain ⟨rfl, hZ, hh⟩ := hP
  have hx := Bd.exec
  have hby := Bd.bytes
  have hml : c.maxLocals = 4 := hml0
  have hown : s.vm.findClass "com/example/tabulon/tabulon/game/Board" = some m.cls := findClass_of_methodNamed Bd.named
  have hnm := (name_of_methodNamed Bd.named Bd.method).1
  have X0 : Stand p l e ({ frames := 0, cells := 0, slots := 0, locals := 0 } : Room) s m #[(.ref a1), (.int p2), (.int p3)] below meth c s₁ [] 0 0 := Stand.of_body Bd
  have e0 : s₁.heap = h0 := by rw [← hh, Bd.state]; rfl
  have N0 := Fr.nil n0
  refine Go.en (ef_8 m a1 p2 p3) ?_
  show Go p e below _ (s₁.setTop (mkF m 0 #[.val (.ref a1), .val (.int p2), .val (.int p3), .unset] []))
  refine Go.st (fun _ kk => XS.iloadN X0.here hx rfl (hb hby d8_0) rfl  kk) ?_
  show Go p e below _ (s₁.setTop (mkF m 1 #[.val (.ref a1), .val (.int p2), .val (.int p3), .unset] [(.int p2)]))
  refine Go.st (fun _ kk => XS.ifNo X0.here hx rfl (hb hby d8_1) rfl ((if0 _ _).trans (flt hd0).1) kk) ?_
  show Go p e below _ (s₁.setTop (mkF m 4 #[.val (.ref a1), .val (.int p2), .val (.int p3), .unset] []))
  refine Go.st (fun _ kk => XS.iloadN X0.here hx rfl (hb hby d8_4) rfl  kk) ?_
  show Go p e below _ (s₁.setTop (mkF m 5 #[.val (.ref a1), .val (.int p2), .val (.int p3), .unset] [(.int p2)]))
  refine Go.st (fun _ kk => XS.aloadN X0.here hx rfl (hb hby d8_5) rfl rfl  kk) ?_
  show Go p e below _ (s₁.setTop (mkF m 6 #[.val (.ref a1), .val (.int p2), .val (.int p3), .unset] [(.ref a1), (.int p2)]))
  obtain ⟨T5, X5, e5, st5⟩ := getF X0 hx hZ hown (host := "") (Or.inl (hw _ (List.mem_of_getElem? (i := 41) rfl))) Via.refl e0 F_columns_a1 (g := (mkF m 6 #[.val (.ref a1), .val (.int p2), .val (.int p3), .unset] [(.ref a1), (.int p2)])) rfl rfl (hb hby d8_6)
  refine Go.st st5 ?_
  show Go p e below _ (T5.setTop (mkF m 9 #[.val (.ref a1), .val (.int p2), .val (.int p3), .unset] [(.int w4), (.int p2)]))
  refine Go.st (fun _ kk => XS.icmpNo X5.here hx rfl (hb hby d8_9) rfl (tlt hd1).2.1 kk) ?_
  show Go p e below _ (T5.setTop (mkF m 12 #[.val (.ref a1), .val (.int p2), .val (.int p3), .unset] []))
  refine Go.st (fun _ kk => XS.iloadN X5.here hx rfl (hb hby d8_12) rfl  kk) ?_
  show Go p e below _ (T5.setTop (mkF m 13 #[.val (.ref a1), .val (.int p2), .val (.int p3), .unset] [(.int p3)]))
  refine Go.st (fun _ kk => XS.ifNo X5.here hx rfl (hb hby d8_13) rfl ((if0 _ _).trans (flt hd2).1) kk) ?_
  show Go p e below _ (T5.setTop (mkF m 16 #[.val (.ref a1), .val (.int p2), .val (.int p3), .unset] []))
  refine Go.st (fun _ kk => XS.iloadN X5.here hx rfl (hb hby d8_16) rfl  kk) ?_
  show Go p e below _ (T5.setTop (mkF m 17 #[.val (.ref a1), .val (.int p2), .val (.int p3), .unset] [(.int p3)]))
  refine Go.st (fun _ kk => XS.aloadN X5.here hx rfl (hb hby d8_17) rfl rfl  kk) ?_
  show Go p e below _ (T5.setTop (mkF m 18 #[.val (.ref a1), .val (.int p2), .val (.int p3), .unset] [(.ref a1), (.int p3)]))
  obtain ⟨T7, X7, e7, st7⟩ := getF X5 hx hZ hown (host := "") (Or.inl (hw _ (List.mem_of_getElem? (i := 39) rfl))) Via.refl e5 F_rows_a1 (g := (mkF m 18 #[.val (.ref a1), .val (.int p2), .val (.int p3), .unset] [(.ref a1), (.int p3)])) rfl rfl (hb hby d8_18)
  refine Go.st st7 ?_
  show Go p e below _ (T7.setTop (mkF m 21 #[.val (.ref a1), .val (.int p2), .val (.int p3), .unset] [(.int w6), (.int p3)]))
  refine Go.st (fun _ kk => XS.icmpYes X7.here hx rfl (pc0 := 21) (pc' := 28) rfl (hb hby d8_21) rfl (flt hd3).2.1 (by decide) (by decide) kk) ?_
  show Go p e below _ (T7.setTop (mkF m 28 #[.val (.ref a1), .val (.int p2), .val (.int p3), .unset] []))
  refine Go.st (fun _ kk => XS.iconst X7.here hx rfl (hb hby d8_28) kk) ?_
  show Go p e below _ (T7.setTop (mkF m 29 #[.val (.ref a1), .val (.int p2), .val (.int p3), .unset] [(.int (0 : Int32))]))
  refine Go.st (fun _ kk => XS.istoreN X7.here hx rfl (hb hby d8_29) rfl (l' := #[.val (.ref a1), .val (.int p2), .val (.int p3), .val (.int (0 : Int32))]) rfl kk) ?_
  show Go p e below _ (T7.setTop (mkF m 30 #[.val (.ref a1), .val (.int p2), .val (.int p3), .val (.int (0 : Int32))] []))
  refine Go.st (fun _ kk => XS.iloadN X7.here hx rfl (hb hby d8_30) rfl  kk) ?_
  show Go p e below _ (T7.setTop (mkF m 31 #[.val (.ref a1), .val (.int p2), .val (.int p3), .val (.int (0 : Int32))] [(.int (0 : Int32))]))
  refine Go.st (fun _ kk => XS.ifYes X7.here hx rfl (pc0 := 31) (pc' := 45) rfl (hb hby d8_31) rfl ((if0 _ _).trans (teq (by decide : ((0 : Int32) = (0 : Int32)))).1) (by decide) (by decide) kk) ?_
  show Go p e below _ (T7.setTop (mkF m 45 #[.val (.ref a1), .val (.int p2), .val (.int p3), .val (.int (0 : Int32))] []))
  refine Go.st (fun _ kk => XS.iconst X7.here hx rfl (hb hby d8_45) kk) ?_
  show Go p e below _ (T7.setTop (mkF m 46 #[.val (.ref a1), .val (.int p2), .val (.int p3), .val (.int (0 : Int32))] [(.int (-1 : Int32))]))
  exact Go.ret (Q := Qm8_ftff Z a1 p2 p3 w4 w6 h0 n0) X7 (v := some (.int (-1 : Int32))) (fun h => by rw [Bd.returns] at h; cases h) Bd.notSynchronized (fun fs hr => retOut X7 hx Bd.returns rfl (Or.inl ⟨rfl, Or.inl rfl, _, rfl⟩) (hb hby d8_46) hr) e7 ⟨rfl, N0, rfl⟩ (by decide) (by decide)
def Qm8_ff (Z : State) (a1 : Addr) (p2 : Int32) (p3 : Int32) (w4 : Int32) (h0 : Heap) (n0 : Nat) (v : Option Value) (h : Heap) (L : List Loc) : Prop := v = some (.int (-1 : Int32)) ∧ Fr n0 L ∧ h = h0
set_option maxRecDepth 65536 in
set_option maxHeartbeats 40000000 in
theorem rm8_ff (l : Launch) (Z : State) (a0 : Array Value) (hw : ∀ d ∈ tables_1, d.before a0 Z = true) (ws : List Jvm.Cond) (a1 : Addr) (p2 : Int32) (p3 : Int32) (w4 : Int32) (h0 : Heap) (n0 : Nat) (Z0 : n0 ≤ h0.size) (hd0 : ¬ (p2 < (0 : Int32))) (F_columns_a1 : Fld Z h0 a1 "com/example/tabulon/tabulon/game/Board" "columns" "I" (.int w4)) (hd1 : ¬ (p2 < w4)) :
    MetFree l (⟨"com/example/tabulon/tabulon/game/Board", "siteAt", "(II)I"⟩ : MethodName) (head1 (Jvm.Cond.code (⟨"com/example/tabulon/tabulon/game/Board", "siteAt", "(II)I"⟩ : MethodName) prog_45_method_12_code 4 (some .int) :: ws) ({ frames := 0, cells := 0, slots := 0, locals := 0 } : Room)) (fun a U => a = #[(.ref a1), (.int p2), (.int p3)] ∧ Z.Warmed39 U.vm ∧ U.heap = h0) (fun _ _ _ _ _ => True) (fun _ U o U' => ∃ v L, o = .returned v ∧ Qm8_ff Z a1 p2 p3 w4 h0 n0 v U'.heap L ∧ FrameEnd U o U' L ({ frames := 0, cells := 0, slots := 0, locals := 0 } : Room).cells ({ frames := 0, cells := 0, slots := 0, locals := 0 } : Room).slots) := by
  refine MetFree.of_bodySF (plainFor_of_name pn_8) hisR ?_
  intro p e s m args below meth c s₁ Bd hml0 hP hK
  obtain ⟨rfl, hZ, hh⟩ := hP
  have hx := Bd.exec
  have hby := Bd.bytes
  have hml : c.maxLocals = 4 := hml0
  have hown : s.vm.findClass "com/example/tabulon/tabulon/game/Board" = some m.cls := findClass_of_methodNamed Bd.named
  have hnm := (name_of_methodNamed Bd.named Bd.method).1
  have X0 : Stand p l e ({ frames := 0, cells := 0, slots := 0, locals := 0 } : Room) s m #[(.ref a1), (.int p2), (.int p3)] below meth c s₁ [] 0 0 := Stand.of_body Bd
  have e0 : s₁.heap = h0 := by rw [← hh, Bd.state]; rfl
  have N0 := Fr.nil n0
  refine Go.en (ef_8 m a1 p2 p3) ?_
  show Go p e below _ (s₁.setTop (mkF m 0 #[.val (.ref a1), .val (.int p2), .val (.int p3), .unset] []))
  refine Go.st (fun _ kk => XS.iloadN X0.here hx rfl (hb hby d8_0) rfl  kk) ?_
  show Go p e below _ (s₁.setTop (mkF m 1 #[.val (.ref a1), .val (.int p2), .val (.int p3), .unset] [(.int p2)]))
  refine Go.st (fun _ kk => XS.ifNo X0.here hx rfl (hb hby d8_1) rfl ((if0 _ _).trans (flt hd0).1) kk) ?_
  show Go p e below _ (s₁.setTop (mkF m 4 #[.val (.ref a1), .val (.int p2), .val (.int p3), .unset] []))
  refine Go.st (fun _ kk => XS.iloadN X0.here hx rfl (hb hby d8_4) rfl  kk) ?_
  show Go p e below _ (s₁.setTop (mkF m 5 #[.val (.ref a1), .val (.int p2), .val (.int p3), .unset] [(.int p2)]))
  refine Go.st (fun _ kk => XS.aloadN X0.here hx rfl (hb hby d8_5) rfl rfl  kk) ?_
  show Go p e below _ (s₁.setTop (mkF m 6 #[.val (.ref a1), .val (.int p2), .val (.int p3), .unset] [(.ref a1), (.int p2)]))
  obtain ⟨T5, X5, e5, st5⟩ := getF X0 hx hZ hown (host := "") (Or.inl (hw _ (List.mem_of_getElem? (i := 41) rfl))) Via.refl e0 F_columns_a1 (g := (mkF m 6 #[.val (.ref a1), .val (.int p2), .val (.int p3), .unset] [(.ref a1), (.int p2)])) rfl rfl (hb hby d8_6)
  refine Go.st st5 ?_
  show Go p e below _ (T5.setTop (mkF m 9 #[.val (.ref a1), .val (.int p2), .val (.int p3), .unset] [(.int w4), (.int p2)]))
  refine Go.st (fun _ kk => XS.icmpYes X5.here hx rfl (pc0 := 9) (pc' := 28) rfl (hb hby d8_9) rfl (flt hd1).2.1 (by decide) (by decide) kk) ?_
  show Go p e below _ (T5.setTop (mkF m 28 #[.val (.ref a1), .val (.int p2), .val (.int p3), .unset] []))
  refine Go.st (fun _ kk => XS.iconst X5.here hx rfl (hb hby d8_28) kk) ?_
  show Go p e below _ (T5.setTop (mkF m 29 #[.val (.ref a1), .val (.int p2), .val (.int p3), .unset] [(.int (0 : Int32))]))
  refine Go.st (fun _ kk => XS.istoreN X5.here hx rfl (hb hby d8_29) rfl (l' := #[.val (.ref a1), .val (.int p2), .val (.int p3), .val (.int (0 : Int32))]) rfl kk) ?_
  show Go p e below _ (T5.setTop (mkF m 30 #[.val (.ref a1), .val (.int p2), .val (.int p3), .val (.int (0 : Int32))] []))
  refine Go.st (fun _ kk => XS.iloadN X5.here hx rfl (hb hby d8_30) rfl  kk) ?_
  show Go p e below _ (T5.setTop (mkF m 31 #[.val (.ref a1), .val (.int p2), .val (.int p3), .val (.int (0 : Int32))] [(.int (0 : Int32))]))
  refine Go.st (fun _ kk => XS.ifYes X5.here hx rfl (pc0 := 31) (pc' := 45) rfl (hb hby d8_31) rfl ((if0 _ _).trans (teq (by decide : ((0 : Int32) = (0 : Int32)))).1) (by decide) (by decide) kk) ?_
  show Go p e below _ (T5.setTop (mkF m 45 #[.val (.ref a1), .val (.int p2), .val (.int p3), .val (.int (0 : Int32))] []))
  refine Go.st (fun _ kk => XS.iconst X5.here hx rfl (hb hby d8_45) kk) ?_
  show Go p e below _ (T5.setTop (mkF m 46 #[.val (.ref a1), .val (.int p2), .val (.int p3), .val (.int (0 : Int32))] [(.int (-1 : Int32))]))
  exact Go.ret (Q := Qm8_ff Z a1 p2 p3 w4 h0 n0) X5 (v := some (.int (-1 : Int32))) (fun h => by rw [Bd.returns] at h; cases h) Bd.notSynchronized (fun fs hr => retOut X5 hx Bd.returns rfl (Or.inl ⟨rfl, Or.inl rfl, _, rfl⟩) (hb hby d8_46) hr) e5 ⟨rfl, N0, rfl⟩ (by decide) (by decide)
def Qm5 (Z : State) (a1 : Addr) (p2 : Int32) (p3 : Int32) (p4 : Int32) (wc : Int32) (wr : Int32) (h0 : Heap) (n0 : Nat) (v : Option Value) (h : Heap) (L : List Loc) : Prop := ∃ (r0 : Int32), v = some (.int r0) ∧ Fr n0 L ∧ h = h0
set_option maxRecDepth 65536 in
set_option maxHeartbeats 40000000 in
theorem rm5 (l : Launch) (Z : State) (a0 : Array Value) (hw : ∀ d ∈ tables_1, d.before a0 Z = true) (ws : List Jvm.Cond) (a1 : Addr) (p2 : Int32) (p3 : Int32) (p4 : Int32) (wc : Int32) (wr : Int32) (h0 : Heap) (n0 : Nat) (Z0 : n0 ≤ h0.size) (F_columns_a1 : Fld Z h0 a1 "com/example/tabulon/tabulon/game/Board" "columns" "I" (.int wc)) (hwc : ¬ (wc = (0 : Int32))) (E_a1 : Exa Z h0 a1 "com/example/tabulon/tabulon/game/Board") (F_rows_a1 : Fld Z h0 a1 "com/example/tabulon/tabulon/game/Board" "rows" "I" (.int wr)) :
    MetFree l (⟨"com/example/tabulon/tabulon/game/Board", "jump", "(III)I"⟩ : MethodName) (head1 (Jvm.Cond.code (⟨"com/example/tabulon/tabulon/game/Board", "jump", "(III)I"⟩ : MethodName) prog_45_method_13_code 9 (some .int) :: ws) ({ frames := 1, cells := 0, slots := 0, locals := 13 } : Room)) (fun a U => a = #[(.ref a1), (.int p2), (.int p3), (.int p4)] ∧ Z.Warmed39 U.vm ∧ U.heap = h0) (fun _ _ _ _ _ => True) (fun _ U o U' => ∃ v L, o = .returned v ∧ Qm5 Z a1 p2 p3 p4 wc wr h0 n0 v U'.heap L ∧ FrameEnd U o U' L ({ frames := 1, cells := 0, slots := 0, locals := 13 } : Room).cells ({ frames := 1, cells := 0, slots := 0, locals := 13 } : Room).slots) := by
  refine MetFree.of_bodySF (plainFor_of_name pn_5) hisR ?_
  intro p e s m args below meth c s₁ Bd hml0 hP hK
  obtain ⟨rfl, hZ, hh⟩ := hP
  have hx := Bd.exec
  have hby := Bd.bytes
  have hml : c.maxLocals = 9 := hml0
  have hown : s.vm.findClass "com/example/tabulon/tabulon/game/Board" = some m.cls := findClass_of_methodNamed Bd.named
  have hnm := (name_of_methodNamed Bd.named Bd.method).1
  have X0 : Stand p l e ({ frames := 1, cells := 0, slots := 0, locals := 13 } : Room) s m #[(.ref a1), (.int p2), (.int p3), (.int p4)] below meth c s₁ [] 0 0 := Stand.of_body Bd
  have e0 : s₁.heap = h0 := by rw [← hh, Bd.state]; rfl
  have N0 := Fr.nil n0
  refine Go.en (ef_5 m a1 p2 p3 p4) ?_
  show Go p e below _ (s₁.setTop (mkF m 0 #[.val (.ref a1), .val (.int p2), .val (.int p3), .val (.int p4), .unset, .unset, .unset, .unset, .unset] []))
  refine Go.st (fun _ kk => XS.aloadN X0.here hx rfl (hb hby d5_0) rfl rfl  kk) ?_
  show Go p e below _ (s₁.setTop (mkF m 1 #[.val (.ref a1), .val (.int p2), .val (.int p3), .val (.int p4), .unset, .unset, .unset, .unset, .unset] [(.ref a1)]))
  refine Go.st (fun _ kk => XS.iloadN X0.here hx rfl (hb hby d5_1) rfl  kk) ?_
  show Go p e below _ (s₁.setTop (mkF m 2 #[.val (.ref a1), .val (.int p2), .val (.int p3), .val (.int p4), .unset, .unset, .unset, .unset, .unset] [(.int p2), (.ref a1)]))
  obtain ⟨cq5, kq5, q5a, q5b, q5c⟩ := isOf hZ e0 E_a1
  obtain ⟨_, _, ⟨T5, L5, k5, n5⟩, -, X5, ⟨Lc5, hQ5, l5, y5, z5⟩, st5⟩ := X0.virtualBack hx (y := (⟨"com/example/tabulon/tabulon/game/Board", "column", "(I)I"⟩ : MethodName)) (z := (⟨"com/example/tabulon/tabulon/game/Board", "column", "(I)I"⟩ : MethodName)) hown (mvT hZ (hw _ (List.mem_of_getElem? (i := 64) rfl))) (mvT hZ (hw _ (List.mem_of_getElem? (i := 65) rfl))) (notFace_of_selects (args := #[]) (mvT hZ (hw _ (List.mem_of_getElem? (i := 67) rfl)))) (mvT hZ (hw _ (List.mem_of_getElem? (i := 67) rfl))) (mvT hZ (hw _ (List.mem_of_getElem? (i := 66) rfl))) (by decide) (backOf (W := 0) (rm6_f l Z a0 hw [] a1 p2 wc h0 n0 Z0 F_columns_a1 hwc) hZ (hw _ (List.mem_of_getElem? (i := 68) rfl)) (hw _ (List.mem_of_getElem? (i := 5) rfl)) (by decide) (by decide)) q5a q5c (g := (mkF m 2 #[.val (.ref a1), .val (.int p2), .val (.int p3), .val (.int p4), .unset, .unset, .unset, .unset, .unset] [(.int p2), (.ref a1)])) rfl (by rw [hml]; rfl) (Steps.refl _) (argsL := [(.int p2)]) (rest := []) (lenOf pd_0 rfl) rfl (by show 2 * 0 + _ ≤ _; exact Nat.le_of_eq rfl) (hb hby d5_2) (fun _ _ => ⟨rfl, e0, (by decide : 0 + 0 ≤ _), (by decide : 0 + 0 ≤ _)⟩)
  dsimp only [Pt.U, Pt.locs, Pt.cells, Pt.slots] at X5 l5 y5 z5 st5 hQ5
  subst l5 y5 z5
  obtain ⟨rfl, N5q, eq5⟩ := hQ5
  have N5 := Fr.app N0 N5q
  refine Go.tr st5 ?_
  show Go p e below _ (T5.setTop (mkF m 5 #[.val (.ref a1), .val (.int p2), .val (.int p3), .val (.int p4), .unset, .unset, .unset, .unset, .unset] [(.int (p2 % wc))]))
  refine Go.st (fun _ kk => XS.i2l X5.here hx rfl (hb hby d5_5) rfl kk) ?_
  show Go p e below _ (T5.setTop (mkF m 6 #[.val (.ref a1), .val (.int p2), .val (.int p3), .val (.int p4), .unset, .unset, .unset, .unset, .unset] [(.long ((p2 % wc).toInt64))]))
  refine Go.st (fun _ kk => XS.iloadN X5.here hx rfl (hb hby d5_6) rfl  kk) ?_
  show Go p e below _ (T5.setTop (mkF m 7 #[.val (.ref a1), .val (.int p2), .val (.int p3), .val (.int p4), .unset, .unset, .unset, .unset, .unset] [(.int p3), (.long ((p2 % wc).toInt64))]))
  refine Go.st (fun _ kk => XS.i2l X5.here hx rfl (hb hby d5_7) rfl kk) ?_
  show Go p e below _ (T5.setTop (mkF m 8 #[.val (.ref a1), .val (.int p2), .val (.int p3), .val (.int p4), .unset, .unset, .unset, .unset, .unset] [(.long (p3.toInt64)), (.long ((p2 % wc).toInt64))]))
  refine Go.st (fun _ kk => XS.ladd X5.here hx rfl (hb hby d5_8) rfl kk) ?_
  show Go p e below _ (T5.setTop (mkF m 9 #[.val (.ref a1), .val (.int p2), .val (.int p3), .val (.int p4), .unset, .unset, .unset, .unset, .unset] [(.long (((p2 % wc).toInt64) + (p3.toInt64)))]))
  refine Go.st (fun _ kk => XS.lstore X5.here hx rfl (hb hby d5_9) rfl (l' := #[.val (.ref a1), .val (.int p2), .val (.int p3), .val (.int p4), .val (.long (((p2 % wc).toInt64) + (p3.toInt64))), .second, .unset, .unset, .unset]) rfl kk) ?_
  show Go p e below _ (T5.setTop (mkF m 11 #[.val (.ref a1), .val (.int p2), .val (.int p3), .val (.int p4), .val (.long (((p2 % wc).toInt64) + (p3.toInt64))), .second, .unset, .unset, .unset] []))
  refine Go.st (fun _ kk => XS.aloadN X5.here hx rfl (hb hby d5_11) rfl rfl  kk) ?_
  show Go p e below _ (T5.setTop (mkF m 12 #[.val (.ref a1), .val (.int p2), .val (.int p3), .val (.int p4), .val (.long (((p2 % wc).toInt64) + (p3.toInt64))), .second, .unset, .unset, .unset] [(.ref a1)]))
  refine Go.st (fun _ kk => XS.iloadN X5.here hx rfl (hb hby d5_12) rfl  kk) ?_
  show Go p e below _ (T5.setTop (mkF m 13 #[.val (.ref a1), .val (.int p2), .val (.int p3), .val (.int p4), .val (.long (((p2 % wc).toInt64) + (p3.toInt64))), .second, .unset, .unset, .unset] [(.int p2), (.ref a1)]))
  obtain ⟨cq6, kq6, q6a, q6b, q6c⟩ := isOf hZ eq5 E_a1
  obtain ⟨_, _, ⟨T6, L6, k6, n6⟩, -, X6, ⟨Lc6, hQ6, l6, y6, z6⟩, st6⟩ := X5.virtualBack hx (y := (⟨"com/example/tabulon/tabulon/game/Board", "row", "(I)I"⟩ : MethodName)) (z := (⟨"com/example/tabulon/tabulon/game/Board", "row", "(I)I"⟩ : MethodName)) hown (mvT hZ (hw _ (List.mem_of_getElem? (i := 69) rfl))) (mvT hZ (hw _ (List.mem_of_getElem? (i := 70) rfl))) (notFace_of_selects (args := #[]) (mvT hZ (hw _ (List.mem_of_getElem? (i := 72) rfl)))) (mvT hZ (hw _ (List.mem_of_getElem? (i := 72) rfl))) (mvT hZ (hw _ (List.mem_of_getElem? (i := 71) rfl))) (by decide) (backOf (W := 0) (rm7_f l Z a0 hw [] a1 p2 wc h0 n0 Z0 F_columns_a1 hwc) hZ (hw _ (List.mem_of_getElem? (i := 73) rfl)) (hw _ (List.mem_of_getElem? (i := 5) rfl)) (by decide) (by decide)) q6a q6c (g := (mkF m 13 #[.val (.ref a1), .val (.int p2), .val (.int p3), .val (.int p4), .val (.long (((p2 % wc).toInt64) + (p3.toInt64))), .second, .unset, .unset, .unset] [(.int p2), (.ref a1)])) rfl (by rw [hml]; rfl) (Steps.refl _) (argsL := [(.int p2)]) (rest := []) (lenOf pd_0 rfl) rfl (by show 2 * 0 + _ ≤ _; exact Nat.le_of_eq rfl) (hb hby d5_13) (fun _ _ => ⟨rfl, eq5, (by decide : 0 + 0 ≤ _), (by decide : 0 + 0 ≤ _)⟩)
  dsimp only [Pt.U, Pt.locs, Pt.cells, Pt.slots] at X6 l6 y6 z6 st6 hQ6
  subst l6 y6 z6
  obtain ⟨rfl, N6q, eq6⟩ := hQ6
  have N6 := Fr.app N5 N6q
  refine Go.tr st6 ?_
  show Go p e below _ (T6.setTop (mkF m 16 #[.val (.ref a1), .val (.int p2), .val (.int p3), .val (.int p4), .val (.long (((p2 % wc).toInt64) + (p3.toInt64))), .second, .unset, .unset, .unset] [(.int (p2 / wc))]))
  refine Go.st (fun _ kk => XS.i2l X6.here hx rfl (hb hby d5_16) rfl kk) ?_
  show Go p e below _ (T6.setTop (mkF m 17 #[.val (.ref a1), .val (.int p2), .val (.int p3), .val (.int p4), .val (.long (((p2 % wc).toInt64) + (p3.toInt64))), .second, .unset, .unset, .unset] [(.long ((p2 / wc).toInt64))]))
  refine Go.st (fun _ kk => XS.iloadN X6.here hx rfl (hb hby d5_17) rfl  kk) ?_
  show Go p e below _ (T6.setTop (mkF m 18 #[.val (.ref a1), .val (.int p2), .val (.int p3), .val (.int p4), .val (.long (((p2 % wc).toInt64) + (p3.toInt64))), .second, .unset, .unset, .unset] [(.int p4), (.long ((p2 / wc).toInt64))]))
  refine Go.st (fun _ kk => XS.i2l X6.here hx rfl (hb hby d5_18) rfl kk) ?_
  show Go p e below _ (T6.setTop (mkF m 19 #[.val (.ref a1), .val (.int p2), .val (.int p3), .val (.int p4), .val (.long (((p2 % wc).toInt64) + (p3.toInt64))), .second, .unset, .unset, .unset] [(.long (p4.toInt64)), (.long ((p2 / wc).toInt64))]))
  refine Go.st (fun _ kk => XS.ladd X6.here hx rfl (hb hby d5_19) rfl kk) ?_
  show Go p e below _ (T6.setTop (mkF m 20 #[.val (.ref a1), .val (.int p2), .val (.int p3), .val (.int p4), .val (.long (((p2 % wc).toInt64) + (p3.toInt64))), .second, .unset, .unset, .unset] [(.long (((p2 / wc).toInt64) + (p4.toInt64)))]))
  refine Go.st (fun _ kk => XS.lstore X6.here hx rfl (hb hby d5_20) rfl (l' := #[.val (.ref a1), .val (.int p2), .val (.int p3), .val (.int p4), .val (.long (((p2 % wc).toInt64) + (p3.toInt64))), .second, .val (.long (((p2 / wc).toInt64) + (p4.toInt64))), .second, .unset]) rfl kk) ?_
  show Go p e below _ (T6.setTop (mkF m 22 #[.val (.ref a1), .val (.int p2), .val (.int p3), .val (.int p4), .val (.long (((p2 % wc).toInt64) + (p3.toInt64))), .second, .val (.long (((p2 / wc).toInt64) + (p4.toInt64))), .second, .unset] []))
  refine Go.st (fun _ kk => XS.lload X6.here hx rfl (hb hby d5_22) rfl  kk) ?_
  show Go p e below _ (T6.setTop (mkF m 24 #[.val (.ref a1), .val (.int p2), .val (.int p3), .val (.int p4), .val (.long (((p2 % wc).toInt64) + (p3.toInt64))), .second, .val (.long (((p2 / wc).toInt64) + (p4.toInt64))), .second, .unset] [(.long (((p2 % wc).toInt64) + (p3.toInt64)))]))
  refine Go.st (fun _ kk => XS.lconst X6.here hx rfl (hb hby d5_24) kk) ?_
  show Go p e below _ (T6.setTop (mkF m 25 #[.val (.ref a1), .val (.int p2), .val (.int p3), .val (.int p4), .val (.long (((p2 % wc).toInt64) + (p3.toInt64))), .second, .val (.long (((p2 / wc).toInt64) + (p4.toInt64))), .second, .unset] [(.long (0 : Int64)), (.long (((p2 % wc).toInt64) + (p3.toInt64)))]))
  refine Go.st (fun _ kk => XS.lcmp X6.here hx rfl (hb hby d5_25) rfl kk) ?_
  show Go p e below _ (T6.setTop (mkF m 26 #[.val (.ref a1), .val (.int p2), .val (.int p3), .val (.int p4), .val (.long (((p2 % wc).toInt64) + (p3.toInt64))), .second, .val (.long (((p2 / wc).toInt64) + (p4.toInt64))), .second, .unset] [(.int (lcmpW (((p2 % wc).toInt64) + (p3.toInt64)) (0 : Int64)))]))
  by_cases hc_1 : (lcmpW (((p2 % wc).toInt64) + (p3.toInt64)) (0 : Int64)) < (0 : Int32)
  · skip
    refine Go.st (fun _ kk => XS.ifYes X6.here hx rfl (pc0 := 26) (pc' := 62) rfl (hb hby d5_26) rfl ((if0 _ _).trans (tlt hc_1).1) (by decide) (by decide) kk) ?_
    show Go p e below _ (T6.setTop (mkF m 62 #[.val (.ref a1), .val (.int p2), .val (.int p3), .val (.int p4), .val (.long (((p2 % wc).toInt64) + (p3.toInt64))), .second, .val (.long (((p2 / wc).toInt64) + (p4.toInt64))), .second, .unset] []))
    refine Go.st (fun _ kk => XS.iconst X6.here hx rfl (hb hby d5_62) kk) ?_
    show Go p e below _ (T6.setTop (mkF m 63 #[.val (.ref a1), .val (.int p2), .val (.int p3), .val (.int p4), .val (.long (((p2 % wc).toInt64) + (p3.toInt64))), .second, .val (.long (((p2 / wc).toInt64) + (p4.toInt64))), .second, .unset] [(.int (0 : Int32))]))
    refine Go.st (fun _ kk => XS.istore X6.here hx rfl (hb hby d5_63) rfl (l' := #[.val (.ref a1), .val (.int p2), .val (.int p3), .val (.int p4), .val (.long (((p2 % wc).toInt64) + (p3.toInt64))), .second, .val (.long (((p2 / wc).toInt64) + (p4.toInt64))), .second, .val (.int (0 : Int32))]) rfl kk) ?_
    show Go p e below _ (T6.setTop (mkF m 65 #[.val (.ref a1), .val (.int p2), .val (.int p3), .val (.int p4), .val (.long (((p2 % wc).toInt64) + (p3.toInt64))), .second, .val (.long (((p2 / wc).toInt64) + (p4.toInt64))), .second, .val (.int (0 : Int32))] []))
    refine Go.st (fun _ kk => XS.iload X6.here hx rfl (hb hby d5_65) rfl  kk) ?_
    show Go p e below _ (T6.setTop (mkF m 67 #[.val (.ref a1), .val (.int p2), .val (.int p3), .val (.int p4), .val (.long (((p2 % wc).toInt64) + (p3.toInt64))), .second, .val (.long (((p2 / wc).toInt64) + (p4.toInt64))), .second, .val (.int (0 : Int32))] [(.int (0 : Int32))]))
    refine Go.st (fun _ kk => XS.ifYes X6.here hx rfl (pc0 := 67) (pc' := 85) rfl (hb hby d5_67) rfl ((if0 _ _).trans (teq (by decide : ((0 : Int32) = (0 : Int32)))).1) (by decide) (by decide) kk) ?_
    show Go p e below _ (T6.setTop (mkF m 85 #[.val (.ref a1), .val (.int p2), .val (.int p3), .val (.int p4), .val (.long (((p2 % wc).toInt64) + (p3.toInt64))), .second, .val (.long (((p2 / wc).toInt64) + (p4.toInt64))), .second, .val (.int (0 : Int32))] []))
    refine Go.st (fun _ kk => XS.iconst X6.here hx rfl (hb hby d5_85) kk) ?_
    show Go p e below _ (T6.setTop (mkF m 86 #[.val (.ref a1), .val (.int p2), .val (.int p3), .val (.int p4), .val (.long (((p2 % wc).toInt64) + (p3.toInt64))), .second, .val (.long (((p2 / wc).toInt64) + (p4.toInt64))), .second, .val (.int (0 : Int32))] [(.int (-1 : Int32))]))
    exact Go.ret (Q := Qm5 Z a1 p2 p3 p4 wc wr h0 n0) X6 (v := some (.int (-1 : Int32))) (fun h => by rw [Bd.returns] at h; cases h) Bd.notSynchronized (fun fs hr => retOut X6 hx Bd.returns rfl (Or.inl ⟨rfl, Or.inl rfl, _, rfl⟩) (hb hby d5_86) hr) eq6 ⟨_, rfl, N6, rfl⟩ (by decide) (by decide)
  · skip
    refine Go.st (fun _ kk => XS.ifNo X6.here hx rfl (hb hby d5_26) rfl ((if0 _ _).trans (flt hc_1).1) kk) ?_
    show Go p e below _ (T6.setTop (mkF m 29 #[.val (.ref a1), .val (.int p2), .val (.int p3), .val (.int p4), .val (.long (((p2 % wc).toInt64) + (p3.toInt64))), .second, .val (.long (((p2 / wc).toInt64) + (p4.toInt64))), .second, .unset] []))
    refine Go.st (fun _ kk => XS.lload X6.here hx rfl (hb hby d5_29) rfl  kk) ?_
    show Go p e below _ (T6.setTop (mkF m 31 #[.val (.ref a1), .val (.int p2), .val (.int p3), .val (.int p4), .val (.long (((p2 % wc).toInt64) + (p3.toInt64))), .second, .val (.long (((p2 / wc).toInt64) + (p4.toInt64))), .second, .unset] [(.long (((p2 % wc).toInt64) + (p3.toInt64)))]))
    refine Go.st (fun _ kk => XS.aloadN X6.here hx rfl (hb hby d5_31) rfl rfl  kk) ?_
    show Go p e below _ (T6.setTop (mkF m 32 #[.val (.ref a1), .val (.int p2), .val (.int p3), .val (.int p4), .val (.long (((p2 % wc).toInt64) + (p3.toInt64))), .second, .val (.long (((p2 / wc).toInt64) + (p4.toInt64))), .second, .unset] [(.ref a1), (.long (((p2 % wc).toInt64) + (p3.toInt64)))]))
    obtain ⟨T7, X7, e7, st7⟩ := getF X6 hx hZ hown (host := "") (Or.inl (hw _ (List.mem_of_getElem? (i := 41) rfl))) Via.refl eq6 F_columns_a1 (g := (mkF m 32 #[.val (.ref a1), .val (.int p2), .val (.int p3), .val (.int p4), .val (.long (((p2 % wc).toInt64) + (p3.toInt64))), .second, .val (.long (((p2 / wc).toInt64) + (p4.toInt64))), .second, .unset] [(.ref a1), (.long (((p2 % wc).toInt64) + (p3.toInt64)))])) rfl rfl (hb hby d5_32)
    refine Go.st st7 ?_
    show Go p e below _ (T7.setTop (mkF m 35 #[.val (.ref a1), .val (.int p2), .val (.int p3), .val (.int p4), .val (.long (((p2 % wc).toInt64) + (p3.toInt64))), .second, .val (.long (((p2 / wc).toInt64) + (p4.toInt64))), .second, .unset] [(.int wc), (.long (((p2 % wc).toInt64) + (p3.toInt64)))]))
    refine Go.st (fun _ kk => XS.i2l X7.here hx rfl (hb hby d5_35) rfl kk) ?_
    show Go p e below _ (T7.setTop (mkF m 36 #[.val (.ref a1), .val (.int p2), .val (.int p3), .val (.int p4), .val (.long (((p2 % wc).toInt64) + (p3.toInt64))), .second, .val (.long (((p2 / wc).toInt64) + (p4.toInt64))), .second, .unset] [(.long (wc.toInt64)), (.long (((p2 % wc).toInt64) + (p3.toInt64)))]))
    refine Go.st (fun _ kk => XS.lcmp X7.here hx rfl (hb hby d5_36) rfl kk) ?_
    show Go p e below _ (T7.setTop (mkF m 37 #[.val (.ref a1), .val (.int p2), .val (.int p3), .val (.int p4), .val (.long (((p2 % wc).toInt64) + (p3.toInt64))), .second, .val (.long (((p2 / wc).toInt64) + (p4.toInt64))), .second, .unset] [(.int (lcmpW (((p2 % wc).toInt64) + (p3.toInt64)) (wc.toInt64)))]))
    by_cases hc_2 : (lcmpW (((p2 % wc).toInt64) + (p3.toInt64)) (wc.toInt64)) < (0 : Int32)
    · skip
      refine Go.st (fun _ kk => XS.ifNo X7.here hx rfl (hb hby d5_37) rfl ((if0 _ _).trans (tlt hc_2).2.1) kk) ?_
      show Go p e below _ (T7.setTop (mkF m 40 #[.val (.ref a1), .val (.int p2), .val (.int p3), .val (.int p4), .val (.long (((p2 % wc).toInt64) + (p3.toInt64))), .second, .val (.long (((p2 / wc).toInt64) + (p4.toInt64))), .second, .unset] []))
      refine Go.st (fun _ kk => XS.lload X7.here hx rfl (hb hby d5_40) rfl  kk) ?_
      show Go p e below _ (T7.setTop (mkF m 42 #[.val (.ref a1), .val (.int p2), .val (.int p3), .val (.int p4), .val (.long (((p2 % wc).toInt64) + (p3.toInt64))), .second, .val (.long (((p2 / wc).toInt64) + (p4.toInt64))), .second, .unset] [(.long (((p2 / wc).toInt64) + (p4.toInt64)))]))
      refine Go.st (fun _ kk => XS.lconst X7.here hx rfl (hb hby d5_42) kk) ?_
      show Go p e below _ (T7.setTop (mkF m 43 #[.val (.ref a1), .val (.int p2), .val (.int p3), .val (.int p4), .val (.long (((p2 % wc).toInt64) + (p3.toInt64))), .second, .val (.long (((p2 / wc).toInt64) + (p4.toInt64))), .second, .unset] [(.long (0 : Int64)), (.long (((p2 / wc).toInt64) + (p4.toInt64)))]))
      refine Go.st (fun _ kk => XS.lcmp X7.here hx rfl (hb hby d5_43) rfl kk) ?_
      show Go p e below _ (T7.setTop (mkF m 44 #[.val (.ref a1), .val (.int p2), .val (.int p3), .val (.int p4), .val (.long (((p2 % wc).toInt64) + (p3.toInt64))), .second, .val (.long (((p2 / wc).toInt64) + (p4.toInt64))), .second, .unset] [(.int (lcmpW (((p2 / wc).toInt64) + (p4.toInt64)) (0 : Int64)))]))
      by_cases hc_3 : (lcmpW (((p2 / wc).toInt64) + (p4.toInt64)) (0 : Int64)) < (0 : Int32)
      · skip
        refine Go.st (fun _ kk => XS.ifYes X7.here hx rfl (pc0 := 44) (pc' := 62) rfl (hb hby d5_44) rfl ((if0 _ _).trans (tlt hc_3).1) (by decide) (by decide) kk) ?_
        show Go p e below _ (T7.setTop (mkF m 62 #[.val (.ref a1), .val (.int p2), .val (.int p3), .val (.int p4), .val (.long (((p2 % wc).toInt64) + (p3.toInt64))), .second, .val (.long (((p2 / wc).toInt64) + (p4.toInt64))), .second, .unset] []))
        refine Go.st (fun _ kk => XS.iconst X7.here hx rfl (hb hby d5_62) kk) ?_
        show Go p e below _ (T7.setTop (mkF m 63 #[.val (.ref a1), .val (.int p2), .val (.int p3), .val (.int p4), .val (.long (((p2 % wc).toInt64) + (p3.toInt64))), .second, .val (.long (((p2 / wc).toInt64) + (p4.toInt64))), .second, .unset] [(.int (0 : Int32))]))
        refine Go.st (fun _ kk => XS.istore X7.here hx rfl (hb hby d5_63) rfl (l' := #[.val (.ref a1), .val (.int p2), .val (.int p3), .val (.int p4), .val (.long (((p2 % wc).toInt64) + (p3.toInt64))), .second, .val (.long (((p2 / wc).toInt64) + (p4.toInt64))), .second, .val (.int (0 : Int32))]) rfl kk) ?_
        show Go p e below _ (T7.setTop (mkF m 65 #[.val (.ref a1), .val (.int p2), .val (.int p3), .val (.int p4), .val (.long (((p2 % wc).toInt64) + (p3.toInt64))), .second, .val (.long (((p2 / wc).toInt64) + (p4.toInt64))), .second, .val (.int (0 : Int32))] []))
        refine Go.st (fun _ kk => XS.iload X7.here hx rfl (hb hby d5_65) rfl  kk) ?_
        show Go p e below _ (T7.setTop (mkF m 67 #[.val (.ref a1), .val (.int p2), .val (.int p3), .val (.int p4), .val (.long (((p2 % wc).toInt64) + (p3.toInt64))), .second, .val (.long (((p2 / wc).toInt64) + (p4.toInt64))), .second, .val (.int (0 : Int32))] [(.int (0 : Int32))]))
        refine Go.st (fun _ kk => XS.ifYes X7.here hx rfl (pc0 := 67) (pc' := 85) rfl (hb hby d5_67) rfl ((if0 _ _).trans (teq (by decide : ((0 : Int32) = (0 : Int32)))).1) (by decide) (by decide) kk) ?_
        show Go p e below _ (T7.setTop (mkF m 85 #[.val (.ref a1), .val (.int p2), .val (.int p3), .val (.int p4), .val (.long (((p2 % wc).toInt64) + (p3.toInt64))), .second, .val (.long (((p2 / wc).toInt64) + (p4.toInt64))), .second, .val (.int (0 : Int32))] []))
        refine Go.st (fun _ kk => XS.iconst X7.here hx rfl (hb hby d5_85) kk) ?_
        show Go p e below _ (T7.setTop (mkF m 86 #[.val (.ref a1), .val (.int p2), .val (.int p3), .val (.int p4), .val (.long (((p2 % wc).toInt64) + (p3.toInt64))), .second, .val (.long (((p2 / wc).toInt64) + (p4.toInt64))), .second, .val (.int (0 : Int32))] [(.int (-1 : Int32))]))
        exact Go.ret (Q := Qm5 Z a1 p2 p3 p4 wc wr h0 n0) X7 (v := some (.int (-1 : Int32))) (fun h => by rw [Bd.returns] at h; cases h) Bd.notSynchronized (fun fs hr => retOut X7 hx Bd.returns rfl (Or.inl ⟨rfl, Or.inl rfl, _, rfl⟩) (hb hby d5_86) hr) e7 ⟨_, rfl, N6, rfl⟩ (by decide) (by decide)
      · skip
        refine Go.st (fun _ kk => XS.ifNo X7.here hx rfl (hb hby d5_44) rfl ((if0 _ _).trans (flt hc_3).1) kk) ?_
        show Go p e below _ (T7.setTop (mkF m 47 #[.val (.ref a1), .val (.int p2), .val (.int p3), .val (.int p4), .val (.long (((p2 % wc).toInt64) + (p3.toInt64))), .second, .val (.long (((p2 / wc).toInt64) + (p4.toInt64))), .second, .unset] []))
        refine Go.st (fun _ kk => XS.lload X7.here hx rfl (hb hby d5_47) rfl  kk) ?_
        show Go p e below _ (T7.setTop (mkF m 49 #[.val (.ref a1), .val (.int p2), .val (.int p3), .val (.int p4), .val (.long (((p2 % wc).toInt64) + (p3.toInt64))), .second, .val (.long (((p2 / wc).toInt64) + (p4.toInt64))), .second, .unset] [(.long (((p2 / wc).toInt64) + (p4.toInt64)))]))
        refine Go.st (fun _ kk => XS.aloadN X7.here hx rfl (hb hby d5_49) rfl rfl  kk) ?_
        show Go p e below _ (T7.setTop (mkF m 50 #[.val (.ref a1), .val (.int p2), .val (.int p3), .val (.int p4), .val (.long (((p2 % wc).toInt64) + (p3.toInt64))), .second, .val (.long (((p2 / wc).toInt64) + (p4.toInt64))), .second, .unset] [(.ref a1), (.long (((p2 / wc).toInt64) + (p4.toInt64)))]))
        obtain ⟨T8, X8, e8, st8⟩ := getF X7 hx hZ hown (host := "") (Or.inl (hw _ (List.mem_of_getElem? (i := 39) rfl))) Via.refl e7 F_rows_a1 (g := (mkF m 50 #[.val (.ref a1), .val (.int p2), .val (.int p3), .val (.int p4), .val (.long (((p2 % wc).toInt64) + (p3.toInt64))), .second, .val (.long (((p2 / wc).toInt64) + (p4.toInt64))), .second, .unset] [(.ref a1), (.long (((p2 / wc).toInt64) + (p4.toInt64)))])) rfl rfl (hb hby d5_50)
        refine Go.st st8 ?_
        show Go p e below _ (T8.setTop (mkF m 53 #[.val (.ref a1), .val (.int p2), .val (.int p3), .val (.int p4), .val (.long (((p2 % wc).toInt64) + (p3.toInt64))), .second, .val (.long (((p2 / wc).toInt64) + (p4.toInt64))), .second, .unset] [(.int wr), (.long (((p2 / wc).toInt64) + (p4.toInt64)))]))
        refine Go.st (fun _ kk => XS.i2l X8.here hx rfl (hb hby d5_53) rfl kk) ?_
        show Go p e below _ (T8.setTop (mkF m 54 #[.val (.ref a1), .val (.int p2), .val (.int p3), .val (.int p4), .val (.long (((p2 % wc).toInt64) + (p3.toInt64))), .second, .val (.long (((p2 / wc).toInt64) + (p4.toInt64))), .second, .unset] [(.long (wr.toInt64)), (.long (((p2 / wc).toInt64) + (p4.toInt64)))]))
        refine Go.st (fun _ kk => XS.lcmp X8.here hx rfl (hb hby d5_54) rfl kk) ?_
        show Go p e below _ (T8.setTop (mkF m 55 #[.val (.ref a1), .val (.int p2), .val (.int p3), .val (.int p4), .val (.long (((p2 % wc).toInt64) + (p3.toInt64))), .second, .val (.long (((p2 / wc).toInt64) + (p4.toInt64))), .second, .unset] [(.int (lcmpW (((p2 / wc).toInt64) + (p4.toInt64)) (wr.toInt64)))]))
        by_cases hc_4 : (lcmpW (((p2 / wc).toInt64) + (p4.toInt64)) (wr.toInt64)) < (0 : Int32)
        · skip
          refine Go.st (fun _ kk => XS.ifNo X8.here hx rfl (hb hby d5_55) rfl ((if0 _ _).trans (tlt hc_4).2.1) kk) ?_
          show Go p e below _ (T8.setTop (mkF m 58 #[.val (.ref a1), .val (.int p2), .val (.int p3), .val (.int p4), .val (.long (((p2 % wc).toInt64) + (p3.toInt64))), .second, .val (.long (((p2 / wc).toInt64) + (p4.toInt64))), .second, .unset] []))
          refine Go.st (fun _ kk => XS.iconst X8.here hx rfl (hb hby d5_58) kk) ?_
          show Go p e below _ (T8.setTop (mkF m 59 #[.val (.ref a1), .val (.int p2), .val (.int p3), .val (.int p4), .val (.long (((p2 % wc).toInt64) + (p3.toInt64))), .second, .val (.long (((p2 / wc).toInt64) + (p4.toInt64))), .second, .unset] [(.int (1 : Int32))]))
          refine Go.st (fun _ kk => XS.goto X8.here hx rfl (pc0 := 59) (pc' := 63) rfl (hb hby d5_59) (by decide) (by decide) kk) ?_
          show Go p e below _ (T8.setTop (mkF m 63 #[.val (.ref a1), .val (.int p2), .val (.int p3), .val (.int p4), .val (.long (((p2 % wc).toInt64) + (p3.toInt64))), .second, .val (.long (((p2 / wc).toInt64) + (p4.toInt64))), .second, .unset] [(.int (1 : Int32))]))
          refine Go.st (fun _ kk => XS.istore X8.here hx rfl (hb hby d5_63) rfl (l' := #[.val (.ref a1), .val (.int p2), .val (.int p3), .val (.int p4), .val (.long (((p2 % wc).toInt64) + (p3.toInt64))), .second, .val (.long (((p2 / wc).toInt64) + (p4.toInt64))), .second, .val (.int (1 : Int32))]) rfl kk) ?_
          show Go p e below _ (T8.setTop (mkF m 65 #[.val (.ref a1), .val (.int p2), .val (.int p3), .val (.int p4), .val (.long (((p2 % wc).toInt64) + (p3.toInt64))), .second, .val (.long (((p2 / wc).toInt64) + (p4.toInt64))), .second, .val (.int (1 : Int32))] []))
          refine Go.st (fun _ kk => XS.iload X8.here hx rfl (hb hby d5_65) rfl  kk) ?_
          show Go p e below _ (T8.setTop (mkF m 67 #[.val (.ref a1), .val (.int p2), .val (.int p3), .val (.int p4), .val (.long (((p2 % wc).toInt64) + (p3.toInt64))), .second, .val (.long (((p2 / wc).toInt64) + (p4.toInt64))), .second, .val (.int (1 : Int32))] [(.int (1 : Int32))]))
          refine Go.st (fun _ kk => XS.ifNo X8.here hx rfl (hb hby d5_67) rfl ((if0 _ _).trans (feq (by decide : ¬ ((1 : Int32) = (0 : Int32)))).1) kk) ?_
          show Go p e below _ (T8.setTop (mkF m 70 #[.val (.ref a1), .val (.int p2), .val (.int p3), .val (.int p4), .val (.long (((p2 % wc).toInt64) + (p3.toInt64))), .second, .val (.long (((p2 / wc).toInt64) + (p4.toInt64))), .second, .val (.int (1 : Int32))] []))
          refine Go.st (fun _ kk => XS.lload X8.here hx rfl (hb hby d5_70) rfl  kk) ?_
          show Go p e below _ (T8.setTop (mkF m 72 #[.val (.ref a1), .val (.int p2), .val (.int p3), .val (.int p4), .val (.long (((p2 % wc).toInt64) + (p3.toInt64))), .second, .val (.long (((p2 / wc).toInt64) + (p4.toInt64))), .second, .val (.int (1 : Int32))] [(.long (((p2 / wc).toInt64) + (p4.toInt64)))]))
          refine Go.st (fun _ kk => XS.aloadN X8.here hx rfl (hb hby d5_72) rfl rfl  kk) ?_
          show Go p e below _ (T8.setTop (mkF m 73 #[.val (.ref a1), .val (.int p2), .val (.int p3), .val (.int p4), .val (.long (((p2 % wc).toInt64) + (p3.toInt64))), .second, .val (.long (((p2 / wc).toInt64) + (p4.toInt64))), .second, .val (.int (1 : Int32))] [(.ref a1), (.long (((p2 / wc).toInt64) + (p4.toInt64)))]))
          obtain ⟨T9, X9, e9, st9⟩ := getF X8 hx hZ hown (host := "") (Or.inl (hw _ (List.mem_of_getElem? (i := 41) rfl))) Via.refl e8 F_columns_a1 (g := (mkF m 73 #[.val (.ref a1), .val (.int p2), .val (.int p3), .val (.int p4), .val (.long (((p2 % wc).toInt64) + (p3.toInt64))), .second, .val (.long (((p2 / wc).toInt64) + (p4.toInt64))), .second, .val (.int (1 : Int32))] [(.ref a1), (.long (((p2 / wc).toInt64) + (p4.toInt64)))])) rfl rfl (hb hby d5_73)
          refine Go.st st9 ?_
          show Go p e below _ (T9.setTop (mkF m 76 #[.val (.ref a1), .val (.int p2), .val (.int p3), .val (.int p4), .val (.long (((p2 % wc).toInt64) + (p3.toInt64))), .second, .val (.long (((p2 / wc).toInt64) + (p4.toInt64))), .second, .val (.int (1 : Int32))] [(.int wc), (.long (((p2 / wc).toInt64) + (p4.toInt64)))]))
          refine Go.st (fun _ kk => XS.i2l X9.here hx rfl (hb hby d5_76) rfl kk) ?_
          show Go p e below _ (T9.setTop (mkF m 77 #[.val (.ref a1), .val (.int p2), .val (.int p3), .val (.int p4), .val (.long (((p2 % wc).toInt64) + (p3.toInt64))), .second, .val (.long (((p2 / wc).toInt64) + (p4.toInt64))), .second, .val (.int (1 : Int32))] [(.long (wc.toInt64)), (.long (((p2 / wc).toInt64) + (p4.toInt64)))]))
          refine Go.st (fun _ kk => XS.lmul X9.here hx rfl (hb hby d5_77) rfl kk) ?_
          show Go p e below _ (T9.setTop (mkF m 78 #[.val (.ref a1), .val (.int p2), .val (.int p3), .val (.int p4), .val (.long (((p2 % wc).toInt64) + (p3.toInt64))), .second, .val (.long (((p2 / wc).toInt64) + (p4.toInt64))), .second, .val (.int (1 : Int32))] [(.long ((((p2 / wc).toInt64) + (p4.toInt64)) * (wc.toInt64)))]))
          refine Go.st (fun _ kk => XS.lload X9.here hx rfl (hb hby d5_78) rfl  kk) ?_
          show Go p e below _ (T9.setTop (mkF m 80 #[.val (.ref a1), .val (.int p2), .val (.int p3), .val (.int p4), .val (.long (((p2 % wc).toInt64) + (p3.toInt64))), .second, .val (.long (((p2 / wc).toInt64) + (p4.toInt64))), .second, .val (.int (1 : Int32))] [(.long (((p2 % wc).toInt64) + (p3.toInt64))), (.long ((((p2 / wc).toInt64) + (p4.toInt64)) * (wc.toInt64)))]))
          refine Go.st (fun _ kk => XS.ladd X9.here hx rfl (hb hby d5_80) rfl kk) ?_
          show Go p e below _ (T9.setTop (mkF m 81 #[.val (.ref a1), .val (.int p2), .val (.int p3), .val (.int p4), .val (.long (((p2 % wc).toInt64) + (p3.toInt64))), .second, .val (.long (((p2 / wc).toInt64) + (p4.toInt64))), .second, .val (.int (1 : Int32))] [(.long (((((p2 / wc).toInt64) + (p4.toInt64)) * (wc.toInt64)) + (((p2 % wc).toInt64) + (p3.toInt64))))]))
          refine Go.st (fun _ kk => XS.l2i X9.here hx rfl (hb hby d5_81) rfl kk) ?_
          show Go p e below _ (T9.setTop (mkF m 82 #[.val (.ref a1), .val (.int p2), .val (.int p3), .val (.int p4), .val (.long (((p2 % wc).toInt64) + (p3.toInt64))), .second, .val (.long (((p2 / wc).toInt64) + (p4.toInt64))), .second, .val (.int (1 : Int32))] [(.int ((((((p2 / wc).toInt64) + (p4.toInt64)) * (wc.toInt64)) + (((p2 % wc).toInt64) + (p3.toInt64))).toInt32))]))
          refine Go.st (fun _ kk => XS.goto X9.here hx rfl (pc0 := 82) (pc' := 86) rfl (hb hby d5_82) (by decide) (by decide) kk) ?_
          show Go p e below _ (T9.setTop (mkF m 86 #[.val (.ref a1), .val (.int p2), .val (.int p3), .val (.int p4), .val (.long (((p2 % wc).toInt64) + (p3.toInt64))), .second, .val (.long (((p2 / wc).toInt64) + (p4.toInt64))), .second, .val (.int (1 : Int32))] [(.int ((((((p2 / wc).toInt64) + (p4.toInt64)) * (wc.toInt64)) + (((p2 % wc).toInt64) + (p3.toInt64))).toInt32))]))
          exact Go.ret (Q := Qm5 Z a1 p2 p3 p4 wc wr h0 n0) X9 (v := some (.int ((((((p2 / wc).toInt64) + (p4.toInt64)) * (wc.toInt64)) + (((p2 % wc).toInt64) + (p3.toInt64))).toInt32))) (fun h => by rw [Bd.returns] at h; cases h) Bd.notSynchronized (fun fs hr => retOut X9 hx Bd.returns rfl (Or.inl ⟨rfl, Or.inl rfl, _, rfl⟩) (hb hby d5_86) hr) e9 ⟨_, rfl, N6, rfl⟩ (by decide) (by decide)
        · skip
          refine Go.st (fun _ kk => XS.ifYes X8.here hx rfl (pc0 := 55) (pc' := 62) rfl (hb hby d5_55) rfl ((if0 _ _).trans (flt hc_4).2.1) (by decide) (by decide) kk) ?_
          show Go p e below _ (T8.setTop (mkF m 62 #[.val (.ref a1), .val (.int p2), .val (.int p3), .val (.int p4), .val (.long (((p2 % wc).toInt64) + (p3.toInt64))), .second, .val (.long (((p2 / wc).toInt64) + (p4.toInt64))), .second, .unset] []))
          refine Go.st (fun _ kk => XS.iconst X8.here hx rfl (hb hby d5_62) kk) ?_
          show Go p e below _ (T8.setTop (mkF m 63 #[.val (.ref a1), .val (.int p2), .val (.int p3), .val (.int p4), .val (.long (((p2 % wc).toInt64) + (p3.toInt64))), .second, .val (.long (((p2 / wc).toInt64) + (p4.toInt64))), .second, .unset] [(.int (0 : Int32))]))
          refine Go.st (fun _ kk => XS.istore X8.here hx rfl (hb hby d5_63) rfl (l' := #[.val (.ref a1), .val (.int p2), .val (.int p3), .val (.int p4), .val (.long (((p2 % wc).toInt64) + (p3.toInt64))), .second, .val (.long (((p2 / wc).toInt64) + (p4.toInt64))), .second, .val (.int (0 : Int32))]) rfl kk) ?_
          show Go p e below _ (T8.setTop (mkF m 65 #[.val (.ref a1), .val (.int p2), .val (.int p3), .val (.int p4), .val (.long (((p2 % wc).toInt64) + (p3.toInt64))), .second, .val (.long (((p2 / wc).toInt64) + (p4.toInt64))), .second, .val (.int (0 : Int32))] []))
          refine Go.st (fun _ kk => XS.iload X8.here hx rfl (hb hby d5_65) rfl  kk) ?_
          show Go p e below _ (T8.setTop (mkF m 67 #[.val (.ref a1), .val (.int p2), .val (.int p3), .val (.int p4), .val (.long (((p2 % wc).toInt64) + (p3.toInt64))), .second, .val (.long (((p2 / wc).toInt64) + (p4.toInt64))), .second, .val (.int (0 : Int32))] [(.int (0 : Int32))]))
          refine Go.st (fun _ kk => XS.ifYes X8.here hx rfl (pc0 := 67) (pc' := 85) rfl (hb hby d5_67) rfl ((if0 _ _).trans (teq (by decide : ((0 : Int32) = (0 : Int32)))).1) (by decide) (by decide) kk) ?_
          show Go p e below _ (T8.setTop (mkF m 85 #[.val (.ref a1), .val (.int p2), .val (.int p3), .val (.int p4), .val (.long (((p2 % wc).toInt64) + (p3.toInt64))), .second, .val (.long (((p2 / wc).toInt64) + (p4.toInt64))), .second, .val (.int (0 : Int32))] []))
          refine Go.st (fun _ kk => XS.iconst X8.here hx rfl (hb hby d5_85) kk) ?_
          show Go p e below _ (T8.setTop (mkF m 86 #[.val (.ref a1), .val (.int p2), .val (.int p3), .val (.int p4), .val (.long (((p2 % wc).toInt64) + (p3.toInt64))), .second, .val (.long (((p2 / wc).toInt64) + (p4.toInt64))), .second, .val (.int (0 : Int32))] [(.int (-1 : Int32))]))
          exact Go.ret (Q := Qm5 Z a1 p2 p3 p4 wc wr h0 n0) X8 (v := some (.int (-1 : Int32))) (fun h => by rw [Bd.returns] at h; cases h) Bd.notSynchronized (fun fs hr => retOut X8 hx Bd.returns rfl (Or.inl ⟨rfl, Or.inl rfl, _, rfl⟩) (hb hby d5_86) hr) e8 ⟨_, rfl, N6, rfl⟩ (by decide) (by decide)
    · skip
      refine Go.st (fun _ kk => XS.ifYes X7.here hx rfl (pc0 := 37) (pc' := 62) rfl (hb hby d5_37) rfl ((if0 _ _).trans (flt hc_2).2.1) (by decide) (by decide) kk) ?_
      show Go p e below _ (T7.setTop (mkF m 62 #[.val (.ref a1), .val (.int p2), .val (.int p3), .val (.int p4), .val (.long (((p2 % wc).toInt64) + (p3.toInt64))), .second, .val (.long (((p2 / wc).toInt64) + (p4.toInt64))), .second, .unset] []))
      refine Go.st (fun _ kk => XS.iconst X7.here hx rfl (hb hby d5_62) kk) ?_
      show Go p e below _ (T7.setTop (mkF m 63 #[.val (.ref a1), .val (.int p2), .val (.int p3), .val (.int p4), .val (.long (((p2 % wc).toInt64) + (p3.toInt64))), .second, .val (.long (((p2 / wc).toInt64) + (p4.toInt64))), .second, .unset] [(.int (0 : Int32))]))
      refine Go.st (fun _ kk => XS.istore X7.here hx rfl (hb hby d5_63) rfl (l' := #[.val (.ref a1), .val (.int p2), .val (.int p3), .val (.int p4), .val (.long (((p2 % wc).toInt64) + (p3.toInt64))), .second, .val (.long (((p2 / wc).toInt64) + (p4.toInt64))), .second, .val (.int (0 : Int32))]) rfl kk) ?_
      show Go p e below _ (T7.setTop (mkF m 65 #[.val (.ref a1), .val (.int p2), .val (.int p3), .val (.int p4), .val (.long (((p2 % wc).toInt64) + (p3.toInt64))), .second, .val (.long (((p2 / wc).toInt64) + (p4.toInt64))), .second, .val (.int (0 : Int32))] []))
      refine Go.st (fun _ kk => XS.iload X7.here hx rfl (hb hby d5_65) rfl  kk) ?_
      show Go p e below _ (T7.setTop (mkF m 67 #[.val (.ref a1), .val (.int p2), .val (.int p3), .val (.int p4), .val (.long (((p2 % wc).toInt64) + (p3.toInt64))), .second, .val (.long (((p2 / wc).toInt64) + (p4.toInt64))), .second, .val (.int (0 : Int32))] [(.int (0 : Int32))]))
      refine Go.st (fun _ kk => XS.ifYes X7.here hx rfl (pc0 := 67) (pc' := 85) rfl (hb hby d5_67) rfl ((if0 _ _).trans (teq (by decide : ((0 : Int32) = (0 : Int32)))).1) (by decide) (by decide) kk) ?_
      show Go p e below _ (T7.setTop (mkF m 85 #[.val (.ref a1), .val (.int p2), .val (.int p3), .val (.int p4), .val (.long (((p2 % wc).toInt64) + (p3.toInt64))), .second, .val (.long (((p2 / wc).toInt64) + (p4.toInt64))), .second, .val (.int (0 : Int32))] []))
      refine Go.st (fun _ kk => XS.iconst X7.here hx rfl (hb hby d5_85) kk) ?_
      show Go p e below _ (T7.setTop (mkF m 86 #[.val (.ref a1), .val (.int p2), .val (.int p3), .val (.int p4), .val (.long (((p2 % wc).toInt64) + (p3.toInt64))), .second, .val (.long (((p2 / wc).toInt64) + (p4.toInt64))), .second, .val (.int (0 : Int32))] [(.int (-1 : Int32))]))
      exact Go.ret (Q := Qm5 Z a1 p2 p3 p4 wc wr h0 n0) X7 (v := some (.int (-1 : Int32))) (fun h => by rw [Bd.returns] at h; cases h) Bd.notSynchronized (fun fs hr => retOut X7 hx Bd.returns rfl (Or.inl ⟨rfl, Or.inl rfl, _, rfl⟩) (hb hby d5_86) hr) e7 ⟨_, rfl, N6, rfl⟩ (by decide) (by decide)
def Qm3_o (Z : State) (wv : Addr) (d0 : Addr) (d1 : Addr) (d2 : Addr) (d3 : Addr) (d4 : Addr) (d5 : Addr) (d6 : Addr) (d7 : Addr) (kv : ClassId) (h0 : Heap) (n0 : Nat) (v : Option Value) (h : Heap) (L : List Loc) : Prop := ∃ (b3 : Addr), v = some (.ref b3) ∧ Fr n0 L ∧ Keep h0 h [] ∧ n0 ≤ b3 ∧ h0.size ≤ b3 ∧ Arv Z h b3 kv (.object "com/example/tabulon/tabulon/game/Board$Direction") (8 : Int32) [(.ref d0), (.ref d1), (.ref d2), (.ref d3), (.ref d4), (.ref d5), (.ref d6), (.ref d7)] .null
set_option maxRecDepth 65536 in
set_option maxHeartbeats 40000000 in
theorem rm3_o (l : Launch) (Z : State) (a0 : Array Value) (hw : ∀ d ∈ tables_1, d.before a0 Z = true) (ws : List Jvm.Cond) (wv : Addr) (d0 : Addr) (d1 : Addr) (d2 : Addr) (d3 : Addr) (d4 : Addr) (d5 : Addr) (d6 : Addr) (d7 : Addr) (kv : ClassId) (h0 : Heap) (n0 : Nat) (Z0 : n0 ≤ h0.size) (S__VALUES : Sta Z h0 "com/example/tabulon/tabulon/game/Board$Direction" "$VALUES" "[Lcom/example/tabulon/tabulon/game/Board$Direction;" (.ref wv)) (E_wv : Exa Z h0 wv "[Lcom/example/tabulon/tabulon/game/Board$Direction;") (V_wv : Arv Z h0 wv kv (.object "com/example/tabulon/tabulon/game/Board$Direction") (8 : Int32) [(.ref d0), (.ref d1), (.ref d2), (.ref d3), (.ref d4), (.ref d5), (.ref d6), (.ref d7)] .null) (hfc : ∀ cl : Cell, h0[wv]? = some cl → FitC Z cl) :
    MetFree l (⟨"com/example/tabulon/tabulon/game/Board$Direction", "values", "()[Lcom/example/tabulon/tabulon/game/Board$Direction;"⟩ : MethodName) (head1 (Jvm.Cond.code (⟨"com/example/tabulon/tabulon/game/Board$Direction", "values", "()[Lcom/example/tabulon/tabulon/game/Board$Direction;"⟩ : MethodName) prog_47_method_1_code 0 (some (.array (.object "com/example/tabulon/tabulon/game/Board$Direction"))) :: ws) ({ frames := 1, cells := 1, slots := 8, locals := 14 } : Room)) (fun a U => a = #[] ∧ Z.Warmed39 U.vm ∧ U.heap = h0) (fun _ _ _ _ _ => True) (fun _ U o U' => ∃ v L, o = .returned v ∧ Qm3_o Z wv d0 d1 d2 d3 d4 d5 d6 d7 kv h0 n0 v U'.heap L ∧ FrameEnd U o U' L ({ frames := 1, cells := 1, slots := 8, locals := 14 } : Room).cells ({ frames := 1, cells := 1, slots := 8, locals := 14 } : Room).slots) := by
  refine MetFree.of_bodySF (plainFor_of_name pn_3) hisR ?_
  intro p e s m args below meth c s₁ Bd hml0 hP hK
  obtain ⟨rfl, hZ, hh⟩ := hP
  have hx := Bd.exec
  have hby := Bd.bytes
  have hml : c.maxLocals = 0 := hml0
  have hown : s.vm.findClass "com/example/tabulon/tabulon/game/Board$Direction" = some m.cls := findClass_of_methodNamed Bd.named
  have hnm := (name_of_methodNamed Bd.named Bd.method).1
  have X0 : Stand p l e ({ frames := 1, cells := 1, slots := 8, locals := 14 } : Room) s m #[] below meth c s₁ [] 0 0 := Stand.of_body Bd
  have e0 : s₁.heap = h0 := by rw [← hh, Bd.state]; rfl
  have N0 := Fr.nil n0
  refine Go.en (ef_3 m ) ?_
  show Go p e below _ (s₁.setTop (mkF m 0 #[] []))
  obtain ⟨T1, X1, e1, st1⟩ := getS2 X0 hx hZ hown (host := "") (Or.inl (hw _ (List.mem_of_getElem? (i := 16) rfl))) Via.refl e0 S__VALUES (g := (mkF m 0 #[] [])) rfl (hb hby d3_0)
  refine Go.st st1 ?_
  show Go p e below _ (T1.setTop (mkF m 3 #[] [(.ref wv)]))
  obtain ⟨clq2, Arq2, caq2, saq2, naq2, haq2, gaq2⟩ := id V_wv
  obtain ⟨T3, h3, X3, e3, E3, A3, Q3, st3⟩ := cloneA X1 hx hZ hown (hw _ (List.mem_of_getElem? (i := 18) rfl)) (hw _ (List.mem_of_getElem? (i := 19) rfl)) (hw _ (List.mem_of_getElem? (i := 23) rfl)) (hw _ (List.mem_of_getElem? (i := 21) rfl)) (hw _ (List.mem_of_getElem? (i := 22) rfl)) (hw _ (List.mem_of_getElem? (i := 24) rfl)) e1 Arq2 E_wv (hfc _ Arq2.1) (g := (mkF m 3 #[] [(.ref wv)])) rfl (by rw [hml]; rfl) rfl (hb hby d3_3) (by decide) (W := 0) (cap := 8) (by show 2 * 0 + _ ≤ _; exact Nat.le_of_eq rfl) (by decide) (by rw [saq2]; decide) (by decide) (by decide)
  obtain ⟨b3, g3⟩ : ∃ z, z = h0.size := ⟨_, rfl⟩
  rw [← g3] at A3 Q3 st3
  refine Go.st st3 ?_
  have g_b3 : n0 ≤ b3 := Nat.le_trans Z0 (Nat.le_of_eq g3.symm)
  have sz_b3 : h0.size ≤ b3 := Nat.le_of_eq g3.symm
  have K3 : Keep h0 h3 [] := (Keep.refl h0 []).ext E3
  have V_b3 : Arv Z h3 b3 kv (.object "com/example/tabulon/tabulon/game/Board$Direction") (8 : Int32) [(.ref d0), (.ref d1), (.ref d2), (.ref d3), (.ref d4), (.ref d5), (.ref d6), (.ref d7)] .null := ⟨_, A3, caq2, saq2, naq2, haq2, gaq2⟩
  show Go p e below _ (T3.setTop (mkF m 6 #[] [(.ref b3)]))
  obtain ⟨T4, X4, e4, st4⟩ := castY X3 hx hZ hown (hw _ (List.mem_of_getElem? (i := 34) rfl)) e3 (Ins.self Q3) (g := (mkF m 6 #[] [(.ref b3)])) rfl rfl (hb hby d3_6)
  refine Go.st st4 ?_
  show Go p e below _ (T4.setTop (mkF m 9 #[] [(.ref b3)]))
  exact Go.ret (Q := Qm3_o Z wv d0 d1 d2 d3 d4 d5 d6 d7 kv h0 n0) X4 (v := some (.ref b3)) (fun h => by rw [Bd.returns] at h; cases h) Bd.notSynchronized (fun fs hr => retOut X4 hx Bd.returns rfl (Or.inr (Or.inr (Or.inr (Or.inr ⟨rfl, rfl, rfl⟩)))) (hb hby d3_9) hr) e4 ⟨b3, rfl, N0, K3, g_b3, sz_b3, V_b3⟩ (by decide) (by decide)
set_option maxRecDepth 65536 in
set_option maxHeartbeats 40000000 in
theorem own_inner {p : Program} {l : Launch} {e : Env} {s : State} {m : MethodId} {args : Array Value} {below : List Frame} {meth : Method} {c : Code} {G : Outcome → State → Prop} {Z : State} {a0 : Array Value} {cells slots : Nat} (hx : p.tables.exec = Jvm.exec) (hZ : Z.Warmed39 s.vm) (hw : ∀ d ∈ tables_1, d.before a0 Z = true) (hby : c.code = prog_45_method_1_code) (hml : c.maxLocals = 10) (hown : s.vm.findClass "com/example/tabulon/tabulon/game/Board" = some m.cls) (a1 : Addr) (a2 : Addr) (p3 : Int32) (p4 : Int32) (sN : Int32) (o5 : Addr) (k6 : Int32) (k7 : Int32) (dr : Addr) (bs : Addr) (zz : Int32) (wc : Int32) (wr : Int32) (od : Int32) (cs : Int32) (rs : Int32) (h0 : Heap) (n0 : Nat) (Z0 : n0 ≤ h0.size) (E_a1 : Exa Z h0 a1 "com/example/tabulon/tabulon/game/Board") (F_steps_a1 : Fld Z h0 a1 "com/example/tabulon/tabulon/game/Board" "steps" "[I" (.ref bs)) (F_columns_a1 : Fld Z h0 a1 "com/example/tabulon/tabulon/game/Board" "columns" "I" (.int wc)) (F_rows_a1 : Fld Z h0 a1 "com/example/tabulon/tabulon/game/Board" "rows" "I" (.int wr)) (E_dr : Exa Z h0 dr "com/example/tabulon/tabulon/game/Board$Direction") (F_ordinal_dr : Fld Z h0 dr "java/lang/Enum" "ordinal" "I" (.int od)) (F_columnStep_dr : Fld Z h0 dr "com/example/tabulon/tabulon/game/Board$Direction" "columnStep" "I" (.int cs)) (F_rowStep_dr : Fld Z h0 dr "com/example/tabulon/tabulon/game/Board$Direction" "rowStep" "I" (.int rs)) (hwc : ¬ (wc = (0 : Int32))) (hne_a1_bs : ¬ (a1 = bs)) (hne_dr_bs : ¬ (dr = bs)) (g_bs : n0 ≤ bs) (hcl : cells ≤ ({ frames := 4, cells := 4, slots := 152, locals := 100 } : Room).cells) (hsl : slots ≤ ({ frames := 4, cells := 4, slots := 152, locals := 100 } : Room).slots) (hix : ∀ i : Int32, ¬ i < 0 → i < sN → ¬ ((od * sN) + i) < 0 ∧ ((od * sN) + i) < zz)
    (cont : ∀ (i : Int32) (T : State) (h : Heap) (locs : List Loc), Stand p l e ({ frames := 4, cells := 4, slots := 152, locals := 100 } : Room) s m args below meth c T locs cells slots → T.heap = h → Fr n0 locs → Keep h0 h [bs] → Arn Z h bs .int zz → Go p e below G (T.setTop (mkF m 165 #[.val (.ref a1), .val (.ref a2), .val (.int p3), .val (.int p4), .val (.int sN), .val (.ref o5), .val (.int k6), .val (.int k7), .val (.ref dr), .val (.int i)] []))) :
    ∀ (n : Nat) (i : Int32) (T : State) (h : Heap) (locs : List Loc), sN.toInt ≤ i.toInt + n → ¬ i < 0 → Stand p l e ({ frames := 4, cells := 4, slots := 152, locals := 100 } : Room) s m args below meth c T locs cells slots → T.heap = h → Fr n0 locs → Keep h0 h [bs] → Arn Z h bs .int zz → Go p e below G (T.setTop (mkF m 120 #[.val (.ref a1), .val (.ref a2), .val (.int p3), .val (.int p4), .val (.int sN), .val (.ref o5), .val (.int k6), .val (.int k7), .val (.ref dr), .val (.int i)] [])) := by
  intro n
  induction n with
  | zero =>
    intro i T h locs hn hi X eT N K VV
    have hc : ¬ i < sN := own_ge (by omega)
    refine Go.st (fun _ kk => XS.iload X.here hx rfl (hb hby d1_120) rfl  kk) ?_
    show Go p e below _ (T.setTop (mkF m 122 #[.val (.ref a1), .val (.ref a2), .val (.int p3), .val (.int p4), .val (.int sN), .val (.ref o5), .val (.int k6), .val (.int k7), .val (.ref dr), .val (.int i)] [(.int i)]))
    refine Go.st (fun _ kk => XS.iload X.here hx rfl (hb hby d1_122) rfl  kk) ?_
    show Go p e below _ (T.setTop (mkF m 124 #[.val (.ref a1), .val (.ref a2), .val (.int p3), .val (.int p4), .val (.int sN), .val (.ref o5), .val (.int k6), .val (.int k7), .val (.ref dr), .val (.int i)] [(.int sN), (.int i)]))
    refine Go.st (fun _ kk => XS.icmpYes X.here hx rfl (pc0 := 124) (pc' := 165) rfl (hb hby d1_124) rfl (flt hc).2.1 (by decide) (by decide) kk) ?_
    show Go p e below _ (T.setTop (mkF m 165 #[.val (.ref a1), .val (.ref a2), .val (.int p3), .val (.int p4), .val (.int sN), .val (.ref o5), .val (.int k6), .val (.int k7), .val (.ref dr), .val (.int i)] []))
    exact cont i _ _ _ X eT N K VV
  | succ n ih =>
    intro i T h locs hn hi X eT N K VV
    by_cases hc : i < sN
    · skip
      refine Go.st (fun _ kk => XS.iload X.here hx rfl (hb hby d1_120) rfl  kk) ?_
      show Go p e below _ (T.setTop (mkF m 122 #[.val (.ref a1), .val (.ref a2), .val (.int p3), .val (.int p4), .val (.int sN), .val (.ref o5), .val (.int k6), .val (.int k7), .val (.ref dr), .val (.int i)] [(.int i)]))
      refine Go.st (fun _ kk => XS.iload X.here hx rfl (hb hby d1_122) rfl  kk) ?_
      show Go p e below _ (T.setTop (mkF m 124 #[.val (.ref a1), .val (.ref a2), .val (.int p3), .val (.int p4), .val (.int sN), .val (.ref o5), .val (.int k6), .val (.int k7), .val (.ref dr), .val (.int i)] [(.int sN), (.int i)]))
      refine Go.st (fun _ kk => XS.icmpNo X.here hx rfl (hb hby d1_124) rfl (tlt hc).2.1 kk) ?_
      show Go p e below _ (T.setTop (mkF m 127 #[.val (.ref a1), .val (.ref a2), .val (.int p3), .val (.int p4), .val (.int sN), .val (.ref o5), .val (.int k6), .val (.int k7), .val (.ref dr), .val (.int i)] []))
      refine Go.st (fun _ kk => XS.aloadN X.here hx rfl (hb hby d1_127) rfl rfl  kk) ?_
      show Go p e below _ (T.setTop (mkF m 128 #[.val (.ref a1), .val (.ref a2), .val (.int p3), .val (.int p4), .val (.int sN), .val (.ref o5), .val (.int k6), .val (.int k7), .val (.ref dr), .val (.int i)] [(.ref a1)]))
      have f_1 := (F_steps_a1.keep K (ninS hne_a1_bs nin0))
      obtain ⟨T2, X2, e2, st2⟩ := getF X hx hZ hown (host := "") (Or.inl (hw _ (List.mem_of_getElem? (i := 44) rfl))) Via.refl eT f_1 (g := (mkF m 128 #[.val (.ref a1), .val (.ref a2), .val (.int p3), .val (.int p4), .val (.int sN), .val (.ref o5), .val (.int k6), .val (.int k7), .val (.ref dr), .val (.int i)] [(.ref a1)])) rfl rfl (hb hby d1_128)
      refine Go.st st2 ?_
      show Go p e below _ (T2.setTop (mkF m 131 #[.val (.ref a1), .val (.ref a2), .val (.int p3), .val (.int p4), .val (.int sN), .val (.ref o5), .val (.int k6), .val (.int k7), .val (.ref dr), .val (.int i)] [(.ref bs)]))
      refine Go.st (fun _ kk => XS.aload X2.here hx rfl (hb hby d1_131) rfl rfl  kk) ?_
      show Go p e below _ (T2.setTop (mkF m 133 #[.val (.ref a1), .val (.ref a2), .val (.int p3), .val (.int p4), .val (.int sN), .val (.ref o5), .val (.int k6), .val (.int k7), .val (.ref dr), .val (.int i)] [(.ref dr), (.ref bs)]))
      have f_3 := (E_dr.keep K)
      have f_4 := (F_ordinal_dr.keep K (ninS hne_dr_bs nin0))
      obtain ⟨cq5, kq5, q5a, q5b, q5c⟩ := isOf hZ e2 f_3
      obtain ⟨_, _, ⟨T5, L5, k5, n5⟩, -, X5, ⟨Lc5, hQ5, l5, y5, z5⟩, st5⟩ := X2.virtualBackUp hx (x := (⟨"com/example/tabulon/tabulon/game/Board$Direction", "ordinal", "()I"⟩ : MethodName)) (y := (⟨"java/lang/Enum", "ordinal", "()I"⟩ : MethodName)) (owner := "java/lang/Enum") hown (mvT hZ (hw _ (List.mem_of_getElem? (i := 46) rfl))) (mvT hZ (hw _ (List.mem_of_getElem? (i := 47) rfl))) (mvT hZ (hw _ (List.mem_of_getElem? (i := 48) rfl))) (by decide) (mvT hZ (hw _ (List.mem_of_getElem? (i := 50) rfl))) (mvT hZ (hw _ (List.mem_of_getElem? (i := 49) rfl))) (backOf (W := 1) (rm4_o l Z a0 hw [] dr od h n0 (Nat.le_trans Z0 K.1) f_4) hZ (hw _ (List.mem_of_getElem? (i := 52) rfl)) (hw _ (List.mem_of_getElem? (i := 51) rfl)) (by decide) (by decide)) q5a q5c (g := (mkF m 133 #[.val (.ref a1), .val (.ref a2), .val (.int p3), .val (.int p4), .val (.int sN), .val (.ref o5), .val (.int k6), .val (.int k7), .val (.ref dr), .val (.int i)] [(.ref dr), (.ref bs)])) rfl (by rw [hml]; rfl) (Steps.refl _) (argsL := []) (rest := [(.ref bs)]) (lenOf pd_1 rfl) rfl (by show 2 * 0 + _ ≤ _; exact Nat.le_of_eq rfl) (hb hby d1_133) (fun _ _ => ⟨rfl, e2, hcl, hsl⟩)
      dsimp only [Pt.U, Pt.locs, Pt.cells, Pt.slots] at X5 l5 y5 z5 st5 hQ5
      subst l5 y5 z5
      obtain ⟨rfl, N5q, eq5⟩ := hQ5
      have N5 := Fr.app N N5q
      refine Go.tr st5 ?_
      show Go p e below _ (T5.setTop (mkF m 136 #[.val (.ref a1), .val (.ref a2), .val (.int p3), .val (.int p4), .val (.int sN), .val (.ref o5), .val (.int k6), .val (.int k7), .val (.ref dr), .val (.int i)] [(.int od), (.ref bs)]))
      refine Go.st (fun _ kk => XS.iload X5.here hx rfl (hb hby d1_136) rfl  kk) ?_
      show Go p e below _ (T5.setTop (mkF m 138 #[.val (.ref a1), .val (.ref a2), .val (.int p3), .val (.int p4), .val (.int sN), .val (.ref o5), .val (.int k6), .val (.int k7), .val (.ref dr), .val (.int i)] [(.int sN), (.int od), (.ref bs)]))
      refine Go.st (fun _ kk => XS.imul X5.here hx rfl (hb hby d1_138) rfl kk) ?_
      show Go p e below _ (T5.setTop (mkF m 139 #[.val (.ref a1), .val (.ref a2), .val (.int p3), .val (.int p4), .val (.int sN), .val (.ref o5), .val (.int k6), .val (.int k7), .val (.ref dr), .val (.int i)] [(.int (od * sN)), (.ref bs)]))
      refine Go.st (fun _ kk => XS.iload X5.here hx rfl (hb hby d1_139) rfl  kk) ?_
      show Go p e below _ (T5.setTop (mkF m 141 #[.val (.ref a1), .val (.ref a2), .val (.int p3), .val (.int p4), .val (.int sN), .val (.ref o5), .val (.int k6), .val (.int k7), .val (.ref dr), .val (.int i)] [(.int i), (.int (od * sN)), (.ref bs)]))
      refine Go.st (fun _ kk => XS.iadd X5.here hx rfl (hb hby d1_141) rfl kk) ?_
      show Go p e below _ (T5.setTop (mkF m 142 #[.val (.ref a1), .val (.ref a2), .val (.int p3), .val (.int p4), .val (.int sN), .val (.ref o5), .val (.int k6), .val (.int k7), .val (.ref dr), .val (.int i)] [(.int ((od * sN) + i)), (.ref bs)]))
      refine Go.st (fun _ kk => XS.aloadN X5.here hx rfl (hb hby d1_142) rfl rfl  kk) ?_
      show Go p e below _ (T5.setTop (mkF m 143 #[.val (.ref a1), .val (.ref a2), .val (.int p3), .val (.int p4), .val (.int sN), .val (.ref o5), .val (.int k6), .val (.int k7), .val (.ref dr), .val (.int i)] [(.ref a1), (.int ((od * sN) + i)), (.ref bs)]))
      refine Go.st (fun _ kk => XS.iload X5.here hx rfl (hb hby d1_143) rfl  kk) ?_
      show Go p e below _ (T5.setTop (mkF m 145 #[.val (.ref a1), .val (.ref a2), .val (.int p3), .val (.int p4), .val (.int sN), .val (.ref o5), .val (.int k6), .val (.int k7), .val (.ref dr), .val (.int i)] [(.int i), (.ref a1), (.int ((od * sN) + i)), (.ref bs)]))
      refine Go.st (fun _ kk => XS.aload X5.here hx rfl (hb hby d1_145) rfl rfl  kk) ?_
      show Go p e below _ (T5.setTop (mkF m 147 #[.val (.ref a1), .val (.ref a2), .val (.int p3), .val (.int p4), .val (.int sN), .val (.ref o5), .val (.int k6), .val (.int k7), .val (.ref dr), .val (.int i)] [(.ref dr), (.int i), (.ref a1), (.int ((od * sN) + i)), (.ref bs)]))
      have f_6 := (F_columnStep_dr.keep K (ninS hne_dr_bs nin0))
      refine Go.st (getFR X5 hx hZ hown (hw _ (List.mem_of_getElem? (i := 55) rfl)) eq5 f_6 (g := (mkF m 147 #[.val (.ref a1), .val (.ref a2), .val (.int p3), .val (.int p4), .val (.int sN), .val (.ref o5), .val (.int k6), .val (.int k7), .val (.ref dr), .val (.int i)] [(.ref dr), (.int i), (.ref a1), (.int ((od * sN) + i)), (.ref bs)])) rfl rfl (hb hby d1_147)) ?_
      show Go p e below _ (T5.setTop (mkF m 150 #[.val (.ref a1), .val (.ref a2), .val (.int p3), .val (.int p4), .val (.int sN), .val (.ref o5), .val (.int k6), .val (.int k7), .val (.ref dr), .val (.int i)] [(.int cs), (.int i), (.ref a1), (.int ((od * sN) + i)), (.ref bs)]))
      refine Go.st (fun _ kk => XS.aload X5.here hx rfl (hb hby d1_150) rfl rfl  kk) ?_
      show Go p e below _ (T5.setTop (mkF m 152 #[.val (.ref a1), .val (.ref a2), .val (.int p3), .val (.int p4), .val (.int sN), .val (.ref o5), .val (.int k6), .val (.int k7), .val (.ref dr), .val (.int i)] [(.ref dr), (.int cs), (.int i), (.ref a1), (.int ((od * sN) + i)), (.ref bs)]))
      have f_7 := (F_rowStep_dr.keep K (ninS hne_dr_bs nin0))
      refine Go.st (getFR X5 hx hZ hown (hw _ (List.mem_of_getElem? (i := 57) rfl)) eq5 f_7 (g := (mkF m 152 #[.val (.ref a1), .val (.ref a2), .val (.int p3), .val (.int p4), .val (.int sN), .val (.ref o5), .val (.int k6), .val (.int k7), .val (.ref dr), .val (.int i)] [(.ref dr), (.int cs), (.int i), (.ref a1), (.int ((od * sN) + i)), (.ref bs)])) rfl rfl (hb hby d1_152)) ?_
      show Go p e below _ (T5.setTop (mkF m 155 #[.val (.ref a1), .val (.ref a2), .val (.int p3), .val (.int p4), .val (.int sN), .val (.ref o5), .val (.int k6), .val (.int k7), .val (.ref dr), .val (.int i)] [(.int rs), (.int cs), (.int i), (.ref a1), (.int ((od * sN) + i)), (.ref bs)]))
      have f_8 := (E_a1.keep K)
      have f_9 := (F_columns_a1.keep K (ninS hne_a1_bs nin0))
      have f_10 := (F_rows_a1.keep K (ninS hne_a1_bs nin0))
      obtain ⟨cq11, kq11, q11a, q11b, q11c⟩ := isOf hZ eq5 f_8
      obtain ⟨_, _, ⟨T11, L11, k11, n11⟩, -, X11, ⟨Lc11, hQ11, l11, y11, z11⟩, st11⟩ := X5.virtualBack hx (y := (⟨"com/example/tabulon/tabulon/game/Board", "jump", "(III)I"⟩ : MethodName)) (z := (⟨"com/example/tabulon/tabulon/game/Board", "jump", "(III)I"⟩ : MethodName)) hown (mvT hZ (hw _ (List.mem_of_getElem? (i := 59) rfl))) (mvT hZ (hw _ (List.mem_of_getElem? (i := 60) rfl))) (notFace_of_selects (args := #[]) (mvT hZ (hw _ (List.mem_of_getElem? (i := 62) rfl)))) (mvT hZ (hw _ (List.mem_of_getElem? (i := 62) rfl))) (mvT hZ (hw _ (List.mem_of_getElem? (i := 61) rfl))) (by decide) (backOf (W := 2) (rm5 l Z a0 hw [] a1 i cs rs wc wr h n0 (Nat.le_trans Z0 K.1) f_9 hwc f_8 f_10) hZ (hw _ (List.mem_of_getElem? (i := 63) rfl)) (hw _ (List.mem_of_getElem? (i := 5) rfl)) (by decide) (by decide)) q11a q11c (g := (mkF m 155 #[.val (.ref a1), .val (.ref a2), .val (.int p3), .val (.int p4), .val (.int sN), .val (.ref o5), .val (.int k6), .val (.int k7), .val (.ref dr), .val (.int i)] [(.int rs), (.int cs), (.int i), (.ref a1), (.int ((od * sN) + i)), (.ref bs)])) rfl (by rw [hml]; rfl) (Steps.refl _) (argsL := [(.int i), (.int cs), (.int rs)]) (rest := [(.int ((od * sN) + i)), (.ref bs)]) (lenOf pd_2 rfl) rfl (by show 2 * 0 + _ ≤ _; exact Nat.le_of_eq rfl) (hb hby d1_155) (fun _ _ => ⟨rfl, eq5, hcl, hsl⟩)
      dsimp only [Pt.U, Pt.locs, Pt.cells, Pt.slots] at X11 l11 y11 z11 st11 hQ11
      subst l11 y11 z11
      obtain ⟨r0_11, rfl, N11q, eq11⟩ := hQ11
      have N11 := Fr.app N5 N11q
      refine Go.tr st11 ?_
      show Go p e below _ (T11.setTop (mkF m 158 #[.val (.ref a1), .val (.ref a2), .val (.int p3), .val (.int p4), .val (.int sN), .val (.ref o5), .val (.int k6), .val (.int k7), .val (.ref dr), .val (.int i)] [(.int r0_11), (.int ((od * sN) + i)), (.ref bs)]))
      obtain ⟨clq12, Arq12, saq12, naq12⟩ := id VV
      have inq12 : ¬ (((od * sN) + i) < 0 ∨ clq12.slots.size ≤ (((od * sN) + i)).toNatClampNeg) := inb_of saq12 (hix i hi hc)
      obtain ⟨T13, h13, X13, e13, W13, st13⟩ := stI X11 hx hZ eq11 Arq12 (j := ((od * sN) + i)) inq12 (g := (mkF m 158 #[.val (.ref a1), .val (.ref a2), .val (.int p3), .val (.int p4), .val (.int sN), .val (.ref o5), .val (.int k6), .val (.int k7), .val (.ref dr), .val (.int i)] [(.int r0_11), (.int ((od * sN) + i)), (.ref bs)])) rfl rfl (hb hby d1_158)
      refine Go.st st13 ?_
      have K13 : Keep h0 h13 [bs] := K.wr W13 (Or.inl (List.mem_of_getElem? (i := 0) rfl))
      have V13 : Arn Z h13 bs .int zz := Arn.set Arq12 saq12 naq12 W13
      have N13 := Fr.snoc X13 N11 g_bs
      show Go p e below _ (T13.setTop (mkF m 159 #[.val (.ref a1), .val (.ref a2), .val (.int p3), .val (.int p4), .val (.int sN), .val (.ref o5), .val (.int k6), .val (.int k7), .val (.ref dr), .val (.int i)] []))
      refine Go.st (fun _ kk => XS.iinc X13.here hx rfl (hb hby d1_159) rfl (l' := #[.val (.ref a1), .val (.ref a2), .val (.int p3), .val (.int p4), .val (.int sN), .val (.ref o5), .val (.int k6), .val (.int k7), .val (.ref dr), .val (.int (i + (1 : Int32)))]) rfl kk) ?_
      show Go p e below _ (T13.setTop (mkF m 162 #[.val (.ref a1), .val (.ref a2), .val (.int p3), .val (.int p4), .val (.int sN), .val (.ref o5), .val (.int k6), .val (.int k7), .val (.ref dr), .val (.int (i + (1 : Int32)))] []))
      refine Go.st (fun _ kk => XS.goto X13.here hx rfl (pc0 := 162) (pc' := 120) rfl (hb hby d1_162) (by decide) (by decide) kk) ?_
      show Go p e below _ (T13.setTop (mkF m 120 #[.val (.ref a1), .val (.ref a2), .val (.int p3), .val (.int p4), .val (.int sN), .val (.ref o5), .val (.int k6), .val (.int k7), .val (.ref dr), .val (.int (i + (1 : Int32)))] []))
      exact ih (i + 1) _ _ _ (by have := (own_inc hi hc).2; omega) (own_inc hi hc).1 X13 e13 N13 K13 V13
    · skip
      refine Go.st (fun _ kk => XS.iload X.here hx rfl (hb hby d1_120) rfl  kk) ?_
      show Go p e below _ (T.setTop (mkF m 122 #[.val (.ref a1), .val (.ref a2), .val (.int p3), .val (.int p4), .val (.int sN), .val (.ref o5), .val (.int k6), .val (.int k7), .val (.ref dr), .val (.int i)] [(.int i)]))
      refine Go.st (fun _ kk => XS.iload X.here hx rfl (hb hby d1_122) rfl  kk) ?_
      show Go p e below _ (T.setTop (mkF m 124 #[.val (.ref a1), .val (.ref a2), .val (.int p3), .val (.int p4), .val (.int sN), .val (.ref o5), .val (.int k6), .val (.int k7), .val (.ref dr), .val (.int i)] [(.int sN), (.int i)]))
      refine Go.st (fun _ kk => XS.icmpYes X.here hx rfl (pc0 := 124) (pc' := 165) rfl (hb hby d1_124) rfl (flt hc).2.1 (by decide) (by decide) kk) ?_
      show Go p e below _ (T.setTop (mkF m 165 #[.val (.ref a1), .val (.ref a2), .val (.int p3), .val (.int p4), .val (.int sN), .val (.ref o5), .val (.int k6), .val (.int k7), .val (.ref dr), .val (.int i)] []))
      exact cont i _ _ _ X eT N K VV
def Qm1_o (Z : State) (a1 : Addr) (a2 : Addr) (p3 : Int32) (p4 : Int32) (wv : Addr) (d0 : Addr) (d1 : Addr) (d2 : Addr) (d3 : Addr) (d4 : Addr) (d5 : Addr) (d6 : Addr) (d7 : Addr) (kv : ClassId) (u_cells_a1 : Value) (u_rows_a1 : Value) (u_columns_a1 : Value) (u_steps_a1 : Value) (h0 : Heap) (n0 : Nat) (v : Option Value) (h : Heap) (L : List Loc) : Prop := v = none ∧ Fr n0 L ∧ Keep h0 h [a1] ∧ Exa Z h a1 "com/example/tabulon/tabulon/game/Board" ∧ Fld Z h a1 "com/example/tabulon/tabulon/game/Board" "rows" "I" (.int p3) ∧ Fld Z h a1 "com/example/tabulon/tabulon/game/Board" "columns" "I" (.int p4)
set_option maxRecDepth 65536 in
set_option maxHeartbeats 40000000 in
theorem rm1_o (l : Launch) (Z : State) (a0 : Array Value) (hw : ∀ d ∈ tables_1, d.before a0 Z = true) (ws : List Jvm.Cond) (a1 : Addr) (a2 : Addr) (p3 : Int32) (p4 : Int32) (wv : Addr) (d0 : Addr) (d1 : Addr) (d2 : Addr) (d3 : Addr) (d4 : Addr) (d5 : Addr) (d6 : Addr) (d7 : Addr) (kv : ClassId) (u_cells_a1 : Value) (u_rows_a1 : Value) (u_columns_a1 : Value) (u_steps_a1 : Value) (h0 : Heap) (n0 : Nat) (Z0 : n0 ≤ h0.size) (E_a1 : Exa Z h0 a1 "com/example/tabulon/tabulon/game/Board") (hr : 1 ≤ p3.toInt ∧ p3.toInt ≤ 4) (hc : 1 ≤ p4.toInt ∧ p4.toInt ≤ 4) (S__VALUES : Sta Z h0 "com/example/tabulon/tabulon/game/Board$Direction" "$VALUES" "[Lcom/example/tabulon/tabulon/game/Board$Direction;" (.ref wv)) (E_wv : Exa Z h0 wv "[Lcom/example/tabulon/tabulon/game/Board$Direction;") (V_wv : Arv Z h0 wv kv (.object "com/example/tabulon/tabulon/game/Board$Direction") (8 : Int32) [(.ref d0), (.ref d1), (.ref d2), (.ref d3), (.ref d4), (.ref d5), (.ref d6), (.ref d7)] .null) (hfc : ∀ cl : Cell, h0[wv]? = some cl → FitC Z cl) (E_d0 : Exa Z h0 d0 "com/example/tabulon/tabulon/game/Board$Direction") (F_ordinal_d0 : Fld Z h0 d0 "java/lang/Enum" "ordinal" "I" (.int (0 : Int32))) (F_columnStep_d0 : Fld Z h0 d0 "com/example/tabulon/tabulon/game/Board$Direction" "columnStep" "I" (.int (0 : Int32))) (F_rowStep_d0 : Fld Z h0 d0 "com/example/tabulon/tabulon/game/Board$Direction" "rowStep" "I" (.int (1 : Int32))) (E_d1 : Exa Z h0 d1 "com/example/tabulon/tabulon/game/Board$Direction") (F_ordinal_d1 : Fld Z h0 d1 "java/lang/Enum" "ordinal" "I" (.int (1 : Int32))) (F_columnStep_d1 : Fld Z h0 d1 "com/example/tabulon/tabulon/game/Board$Direction" "columnStep" "I" (.int (1 : Int32))) (F_rowStep_d1 : Fld Z h0 d1 "com/example/tabulon/tabulon/game/Board$Direction" "rowStep" "I" (.int (1 : Int32))) (E_d2 : Exa Z h0 d2 "com/example/tabulon/tabulon/game/Board$Direction") (F_ordinal_d2 : Fld Z h0 d2 "java/lang/Enum" "ordinal" "I" (.int (2 : Int32))) (F_columnStep_d2 : Fld Z h0 d2 "com/example/tabulon/tabulon/game/Board$Direction" "columnStep" "I" (.int (1 : Int32))) (F_rowStep_d2 : Fld Z h0 d2 "com/example/tabulon/tabulon/game/Board$Direction" "rowStep" "I" (.int (0 : Int32))) (E_d3 : Exa Z h0 d3 "com/example/tabulon/tabulon/game/Board$Direction") (F_ordinal_d3 : Fld Z h0 d3 "java/lang/Enum" "ordinal" "I" (.int (3 : Int32))) (F_columnStep_d3 : Fld Z h0 d3 "com/example/tabulon/tabulon/game/Board$Direction" "columnStep" "I" (.int (1 : Int32))) (F_rowStep_d3 : Fld Z h0 d3 "com/example/tabulon/tabulon/game/Board$Direction" "rowStep" "I" (.int (-1 : Int32))) (E_d4 : Exa Z h0 d4 "com/example/tabulon/tabulon/game/Board$Direction") (F_ordinal_d4 : Fld Z h0 d4 "java/lang/Enum" "ordinal" "I" (.int (4 : Int32))) (F_columnStep_d4 : Fld Z h0 d4 "com/example/tabulon/tabulon/game/Board$Direction" "columnStep" "I" (.int (0 : Int32))) (F_rowStep_d4 : Fld Z h0 d4 "com/example/tabulon/tabulon/game/Board$Direction" "rowStep" "I" (.int (-1 : Int32))) (E_d5 : Exa Z h0 d5 "com/example/tabulon/tabulon/game/Board$Direction") (F_ordinal_d5 : Fld Z h0 d5 "java/lang/Enum" "ordinal" "I" (.int (5 : Int32))) (F_columnStep_d5 : Fld Z h0 d5 "com/example/tabulon/tabulon/game/Board$Direction" "columnStep" "I" (.int (-1 : Int32))) (F_rowStep_d5 : Fld Z h0 d5 "com/example/tabulon/tabulon/game/Board$Direction" "rowStep" "I" (.int (-1 : Int32))) (E_d6 : Exa Z h0 d6 "com/example/tabulon/tabulon/game/Board$Direction") (F_ordinal_d6 : Fld Z h0 d6 "java/lang/Enum" "ordinal" "I" (.int (6 : Int32))) (F_columnStep_d6 : Fld Z h0 d6 "com/example/tabulon/tabulon/game/Board$Direction" "columnStep" "I" (.int (-1 : Int32))) (F_rowStep_d6 : Fld Z h0 d6 "com/example/tabulon/tabulon/game/Board$Direction" "rowStep" "I" (.int (0 : Int32))) (E_d7 : Exa Z h0 d7 "com/example/tabulon/tabulon/game/Board$Direction") (F_ordinal_d7 : Fld Z h0 d7 "java/lang/Enum" "ordinal" "I" (.int (7 : Int32))) (F_columnStep_d7 : Fld Z h0 d7 "com/example/tabulon/tabulon/game/Board$Direction" "columnStep" "I" (.int (-1 : Int32))) (F_rowStep_d7 : Fld Z h0 d7 "com/example/tabulon/tabulon/game/Board$Direction" "rowStep" "I" (.int (1 : Int32))) (hne_wv_a1 : ¬ (wv = a1)) (F_cells_a1 : Fld Z h0 a1 "com/example/tabulon/tabulon/game/Board" "cells" "Lcom/example/tabulon/tabulon/game/Board$Cells;" u_cells_a1) (g_a1 : n0 ≤ a1) (F_rows_a1 : Fld Z h0 a1 "com/example/tabulon/tabulon/game/Board" "rows" "I" u_rows_a1) (F_columns_a1 : Fld Z h0 a1 "com/example/tabulon/tabulon/game/Board" "columns" "I" u_columns_a1) (F_steps_a1 : Fld Z h0 a1 "com/example/tabulon/tabulon/game/Board" "steps" "[I" u_steps_a1) :
    MetFree l (⟨"com/example/tabulon/tabulon/game/Board", "<init>", "(Lcom/example/tabulon/tabulon/game/Board$Cells;II)V"⟩ : MethodName) (head1 (Jvm.Cond.code (⟨"com/example/tabulon/tabulon/game/Board", "<init>", "(Lcom/example/tabulon/tabulon/game/Board$Cells;II)V"⟩ : MethodName) prog_45_method_1_code 10 none :: ws) ({ frames := 4, cells := 4, slots := 152, locals := 100 } : Room)) (fun a U => a = #[(.ref a1), (.ref a2), (.int p3), (.int p4)] ∧ Z.Warmed39 U.vm ∧ U.heap = h0) (fun _ _ _ _ _ => True) (fun _ U o U' => ∃ v L, o = .returned v ∧ Qm1_o Z a1 a2 p3 p4 wv d0 d1 d2 d3 d4 d5 d6 d7 kv u_cells_a1 u_rows_a1 u_columns_a1 u_steps_a1 h0 n0 v U'.heap L ∧ FrameEnd U o U' L ({ frames := 4, cells := 4, slots := 152, locals := 100 } : Room).cells ({ frames := 4, cells := 4, slots := 152, locals := 100 } : Room).slots) := by
  refine MetFree.of_bodySF (plainFor_of_name pn_1) hisR ?_
  intro p e s m args below meth c s₁ Bd hml0 hP hK
  obtain ⟨rfl, hZ, hh⟩ := hP
  have hx := Bd.exec
  have hby := Bd.bytes
  have hml : c.maxLocals = 10 := hml0
  have hown : s.vm.findClass "com/example/tabulon/tabulon/game/Board" = some m.cls := findClass_of_methodNamed Bd.named
  have hnm := (name_of_methodNamed Bd.named Bd.method).1
  have X0 : Stand p l e ({ frames := 4, cells := 4, slots := 152, locals := 100 } : Room) s m #[(.ref a1), (.ref a2), (.int p3), (.int p4)] below meth c s₁ [] 0 0 := Stand.of_body Bd
  have e0 : s₁.heap = h0 := by rw [← hh, Bd.state]; rfl
  have N0 := Fr.nil n0
  refine Go.en (ef_1 m a1 a2 p3 p4) ?_
  show Go p e below _ (s₁.setTop (mkF m 0 #[.val (.ref a1), .val (.ref a2), .val (.int p3), .val (.int p4), .unset, .unset, .unset, .unset, .unset, .unset] []))
  refine Go.st (fun _ kk => XS.aloadN X0.here hx rfl (hb hby d1_0) rfl rfl  kk) ?_
  show Go p e below _ (s₁.setTop (mkF m 1 #[.val (.ref a1), .val (.ref a2), .val (.int p3), .val (.int p4), .unset, .unset, .unset, .unset, .unset, .unset] [(.ref a1)]))
  obtain ⟨T5, X5, e5, st5⟩ := initO X0 hx hZ hown (hw _ (List.mem_of_getElem? (i := 9) rfl)) (hw _ (List.mem_of_getElem? (i := 10) rfl)) (hw _ (List.mem_of_getElem? (i := 11) rfl)) e0 (g := (mkF m 1 #[.val (.ref a1), .val (.ref a2), .val (.int p3), .val (.int p4), .unset, .unset, .unset, .unset, .unset, .unset] [(.ref a1)])) rfl (by rw [hml]; rfl) rfl (hb hby d1_1) (by decide) (W := 0) (by show 2 * 0 + _ ≤ _; exact Nat.le_of_eq rfl) (by decide)
  refine Go.st st5 ?_
  show Go p e below _ (T5.setTop (mkF m 4 #[.val (.ref a1), .val (.ref a2), .val (.int p3), .val (.int p4), .unset, .unset, .unset, .unset, .unset, .unset] []))
  have Ar_wv : ∃ cl, Arr Z h0 wv cl (.object "com/example/tabulon/tabulon/game/Board$Direction") := by obtain ⟨cl, A, -⟩ := V_wv; exact ⟨cl, A⟩
  obtain ⟨clv, Ar_wv⟩ := Ar_wv
  refine Go.st (fun _ kk => XS.iloadN X5.here hx rfl (hb hby d1_4) rfl  kk) ?_
  show Go p e below _ (T5.setTop (mkF m 5 #[.val (.ref a1), .val (.ref a2), .val (.int p3), .val (.int p4), .unset, .unset, .unset, .unset, .unset, .unset] [(.int p3)]))
  refine Go.st (fun _ kk => XS.iconst X5.here hx rfl (hb hby d1_5) kk) ?_
  show Go p e below _ (T5.setTop (mkF m 6 #[.val (.ref a1), .val (.ref a2), .val (.int p3), .val (.int p4), .unset, .unset, .unset, .unset, .unset, .unset] [(.int (1 : Int32)), (.int p3)]))
  refine Go.st (fun _ kk => XS.icmpNo X5.here hx rfl (hb hby d1_6) rfl (flt (own_ge1 hr.1)).1 kk) ?_
  show Go p e below _ (T5.setTop (mkF m 9 #[.val (.ref a1), .val (.ref a2), .val (.int p3), .val (.int p4), .unset, .unset, .unset, .unset, .unset, .unset] []))
  refine Go.st (fun _ kk => XS.iloadN X5.here hx rfl (hb hby d1_9) rfl  kk) ?_
  show Go p e below _ (T5.setTop (mkF m 10 #[.val (.ref a1), .val (.ref a2), .val (.int p3), .val (.int p4), .unset, .unset, .unset, .unset, .unset, .unset] [(.int p4)]))
  refine Go.st (fun _ kk => XS.iconst X5.here hx rfl (hb hby d1_10) kk) ?_
  show Go p e below _ (T5.setTop (mkF m 11 #[.val (.ref a1), .val (.ref a2), .val (.int p3), .val (.int p4), .unset, .unset, .unset, .unset, .unset, .unset] [(.int (1 : Int32)), (.int p4)]))
  refine Go.st (fun _ kk => XS.icmpYes X5.here hx rfl (pc0 := 11) (pc' := 24) rfl (hb hby d1_11) rfl (flt (own_ge1 hc.1)).2.1 (by decide) (by decide) kk) ?_
  show Go p e below _ (T5.setTop (mkF m 24 #[.val (.ref a1), .val (.ref a2), .val (.int p3), .val (.int p4), .unset, .unset, .unset, .unset, .unset, .unset] []))
  refine Go.st (fun _ kk => XS.iloadN X5.here hx rfl (hb hby d1_24) rfl  kk) ?_
  show Go p e below _ (T5.setTop (mkF m 25 #[.val (.ref a1), .val (.ref a2), .val (.int p3), .val (.int p4), .unset, .unset, .unset, .unset, .unset, .unset] [(.int p3)]))
  refine Go.st (fun _ kk => XS.i2l X5.here hx rfl (hb hby d1_25) rfl kk) ?_
  show Go p e below _ (T5.setTop (mkF m 26 #[.val (.ref a1), .val (.ref a2), .val (.int p3), .val (.int p4), .unset, .unset, .unset, .unset, .unset, .unset] [(.long (p3.toInt64))]))
  refine Go.st (fun _ kk => XS.iloadN X5.here hx rfl (hb hby d1_26) rfl  kk) ?_
  show Go p e below _ (T5.setTop (mkF m 27 #[.val (.ref a1), .val (.ref a2), .val (.int p3), .val (.int p4), .unset, .unset, .unset, .unset, .unset, .unset] [(.int p4), (.long (p3.toInt64))]))
  refine Go.st (fun _ kk => XS.i2l X5.here hx rfl (hb hby d1_27) rfl kk) ?_
  show Go p e below _ (T5.setTop (mkF m 28 #[.val (.ref a1), .val (.ref a2), .val (.int p3), .val (.int p4), .unset, .unset, .unset, .unset, .unset, .unset] [(.long (p4.toInt64)), (.long (p3.toInt64))]))
  refine Go.st (fun _ kk => XS.lmul X5.here hx rfl (hb hby d1_28) rfl kk) ?_
  show Go p e below _ (T5.setTop (mkF m 29 #[.val (.ref a1), .val (.ref a2), .val (.int p3), .val (.int p4), .unset, .unset, .unset, .unset, .unset, .unset] [(.long ((p3.toInt64) * (p4.toInt64)))]))
  obtain ⟨_, _, ⟨T6, L6, k6, n6⟩, -, X6, ⟨Lc6, hQ6, l6, y6, z6⟩, st6⟩ := Jvm.LawKit.callS X5 hx (y := (⟨"com/example/tabulon/tabulon/game/Board$Direction", "values", "()[Lcom/example/tabulon/tabulon/game/Board$Direction;"⟩ : MethodName)) hown (mvT hZ (hw _ (List.mem_of_getElem? (i := 12) rfl))) (mvT hZ (hw _ (List.mem_of_getElem? (i := 13) rfl))) (mvT hZ (hw _ (List.mem_of_getElem? (i := 14) rfl))) (mvT hZ (hw _ (List.mem_of_getElem? (i := 15) rfl))) (by decide) (backOf (W := 2) (rm3_o l Z a0 hw [] wv d0 d1 d2 d3 d4 d5 d6 d7 kv h0 n0 Z0 S__VALUES E_wv V_wv hfc) hZ (hw _ (List.mem_of_getElem? (i := 15) rfl)) (hw _ (List.mem_of_getElem? (i := 14) rfl)) (by decide) (by decide)) (g := (mkF m 29 #[.val (.ref a1), .val (.ref a2), .val (.int p3), .val (.int p4), .unset, .unset, .unset, .unset, .unset, .unset] [(.long ((p3.toInt64) * (p4.toInt64)))])) rfl (by rw [hml]; rfl) (argsL := []) (rest := [(.long ((p3.toInt64) * (p4.toInt64)))]) (lenOf pd_3 rfl) rfl (by show 2 * 0 + _ ≤ _; exact Nat.le_of_eq rfl) (hb hby d1_29) (fun _ _ => ⟨rfl, e5, (by decide : 0 + 1 ≤ _), (by decide : 0 + 8 ≤ _)⟩)
  dsimp only [Pt.U, Pt.locs, Pt.cells, Pt.slots] at X6 l6 y6 z6 st6 hQ6
  subst l6 y6 z6
  obtain ⟨b3_6, rfl, N6q, Kc6, P6_0, P6_1, P6_2⟩ := hQ6
  have K6 : Keep h0 T6.heap [a1] := (Keep.refl h0 [a1]).trans Kc6 all0
  have g_b3_6 := P6_0
  have sz_b3_6 : h0.size ≤ b3_6 := P6_1
  have N6 := Fr.app N0 N6q
  refine Go.st st6 ?_
  show Go p e below _ (T6.setTop (mkF m 32 #[.val (.ref a1), .val (.ref a2), .val (.int p3), .val (.int p4), .unset, .unset, .unset, .unset, .unset, .unset] [(.ref b3_6), (.long ((p3.toInt64) * (p4.toInt64)))]))
  obtain ⟨clq7, Arq7, caq7, saq7, naq7, haq7, gaq7⟩ := id P6_2
  refine Go.st (fun _ kk => X6.arraylength hx (by exact Arq7.1) (State.isArrayOf_alike hZ.alike Arq7.2.1) (g := (mkF m 32 #[.val (.ref a1), .val (.ref a2), .val (.int p3), .val (.int p4), .unset, .unset, .unset, .unset, .unset, .unset] [(.ref b3_6), (.long ((p3.toInt64) * (p4.toInt64)))])) rfl rfl (hb hby d1_32) _ kk) ?_
  rw [len_of saq7 naq7]
  show Go p e below _ (T6.setTop (mkF m 33 #[.val (.ref a1), .val (.ref a2), .val (.int p3), .val (.int p4), .unset, .unset, .unset, .unset, .unset, .unset] [(.int (8 : Int32)), (.long ((p3.toInt64) * (p4.toInt64)))]))
  refine Go.st (fun _ kk => XS.i2l X6.here hx rfl (hb hby d1_33) rfl kk) ?_
  show Go p e below _ (T6.setTop (mkF m 34 #[.val (.ref a1), .val (.ref a2), .val (.int p3), .val (.int p4), .unset, .unset, .unset, .unset, .unset, .unset] [(.long ((8 : Int32).toInt64)), (.long ((p3.toInt64) * (p4.toInt64)))]))
  refine Go.st (fun _ kk => XS.lmul X6.here hx rfl (hb hby d1_34) rfl kk) ?_
  show Go p e below _ (T6.setTop (mkF m 35 #[.val (.ref a1), .val (.ref a2), .val (.int p3), .val (.int p4), .unset, .unset, .unset, .unset, .unset, .unset] [(.long (((p3.toInt64) * (p4.toInt64)) * ((8 : Int32).toInt64)))]))
  refine Go.st (fun _ kk => X6.ldc2Long hx hown (mvT hZ (hw _ (List.mem_of_getElem? (i := 36) rfl))) (g := (mkF m 35 #[.val (.ref a1), .val (.ref a2), .val (.int p3), .val (.int p4), .unset, .unset, .unset, .unset, .unset, .unset] [(.long (((p3.toInt64) * (p4.toInt64)) * ((8 : Int32).toInt64)))])) rfl (hb hby d1_35) _ kk) ?_
  show Go p e below _ (T6.setTop (mkF m 38 #[.val (.ref a1), .val (.ref a2), .val (.int p3), .val (.int p4), .unset, .unset, .unset, .unset, .unset, .unset] [(.long (2147483647 : Int64)), (.long (((p3.toInt64) * (p4.toInt64)) * ((8 : Int32).toInt64)))]))
  refine Go.st (fun _ kk => XS.lcmp X6.here hx rfl (hb hby d1_38) rfl kk) ?_
  show Go p e below _ (T6.setTop (mkF m 39 #[.val (.ref a1), .val (.ref a2), .val (.int p3), .val (.int p4), .unset, .unset, .unset, .unset, .unset, .unset] [(.int (lcmpW (((p3.toInt64) * (p4.toInt64)) * ((8 : Int32).toInt64)) (2147483647 : Int64)))]))
  refine Go.st (fun _ kk => XS.ifYes X6.here hx rfl (pc0 := 39) (pc' := 57) rfl (hb hby d1_39) rfl ((if0 _ _).trans (flt (own_big hr hc)).2.2.2) (by decide) (by decide) kk) ?_
  show Go p e below _ (T6.setTop (mkF m 57 #[.val (.ref a1), .val (.ref a2), .val (.int p3), .val (.int p4), .unset, .unset, .unset, .unset, .unset, .unset] []))
  refine Go.st (fun _ kk => XS.aloadN X6.here hx rfl (hb hby d1_57) rfl rfl  kk) ?_
  show Go p e below _ (T6.setTop (mkF m 58 #[.val (.ref a1), .val (.ref a2), .val (.int p3), .val (.int p4), .unset, .unset, .unset, .unset, .unset, .unset] [(.ref a1)]))
  refine Go.st (fun _ kk => XS.aloadN X6.here hx rfl (hb hby d1_58) rfl rfl  kk) ?_
  show Go p e below _ (T6.setTop (mkF m 59 #[.val (.ref a1), .val (.ref a2), .val (.int p3), .val (.int p4), .unset, .unset, .unset, .unset, .unset, .unset] [(.ref a2), (.ref a1)]))
  have f_8 := (E_a1.keep Kc6)
  have f_9 := (F_cells_a1.keep Kc6 nin0)
  obtain ⟨T10, h10, X10, e10, W10, st10⟩ := putF X6 hx hZ hown (host := "") (Or.inl (hw _ (List.mem_of_getElem? (i := 37) rfl))) Via.refl rfl f_9 f_8 (Or.inr ⟨(hw _ (List.mem_of_getElem? (i := 38) rfl)), rfl, hnm⟩) (hw _ (List.mem_of_getElem? (i := 4) rfl)) (ty := (.object "com/example/tabulon/tabulon/game/Board$Cells")) (by decide) rfl rfl (g := (mkF m 59 #[.val (.ref a1), .val (.ref a2), .val (.int p3), .val (.int p4), .unset, .unset, .unset, .unset, .unset, .unset] [(.ref a2), (.ref a1)])) rfl rfl (hb hby d1_59)
  refine Go.st st10 ?_
  have Fw10 : Fld Z h10 a1 "com/example/tabulon/tabulon/game/Board" "cells" "Lcom/example/tabulon/tabulon/game/Board$Cells;" (.ref a2) := Fld.same W10 f_9
  have K10 : Keep h0 h10 [a1] := K6.wr W10 (Or.inl (List.mem_of_getElem? (i := 0) rfl))
  have N10 := Fr.snoc X10 N6 g_a1
  show Go p e below _ (T10.setTop (mkF m 62 #[.val (.ref a1), .val (.ref a2), .val (.int p3), .val (.int p4), .unset, .unset, .unset, .unset, .unset, .unset] []))
  refine Go.st (fun _ kk => XS.aloadN X10.here hx rfl (hb hby d1_62) rfl rfl  kk) ?_
  show Go p e below _ (T10.setTop (mkF m 63 #[.val (.ref a1), .val (.ref a2), .val (.int p3), .val (.int p4), .unset, .unset, .unset, .unset, .unset, .unset] [(.ref a1)]))
  refine Go.st (fun _ kk => XS.iloadN X10.here hx rfl (hb hby d1_63) rfl  kk) ?_
  show Go p e below _ (T10.setTop (mkF m 64 #[.val (.ref a1), .val (.ref a2), .val (.int p3), .val (.int p4), .unset, .unset, .unset, .unset, .unset, .unset] [(.int p3), (.ref a1)]))
  have f_11 := (Exa.wr W10 f_8)
  have f_12 := (Fld.other W10 (F_rows_a1.keep Kc6 nin0) (Or.inr (slot_ne (Or.inr (hw _ (List.mem_of_getElem? (i := 40) rfl))) (Or.inr (hw _ (List.mem_of_getElem? (i := 38) rfl))) (by decide) (t := .int) (t' := (.object "com/example/tabulon/tabulon/game/Board$Cells")) (by decide) (by decide))))
  obtain ⟨T13, h13, X13, e13, W13, st13⟩ := putF X10 hx hZ hown (host := "") (Or.inl (hw _ (List.mem_of_getElem? (i := 39) rfl))) Via.refl e10 f_12 f_11 (Or.inr ⟨(hw _ (List.mem_of_getElem? (i := 40) rfl)), rfl, hnm⟩) (hw _ (List.mem_of_getElem? (i := 4) rfl)) (ty := .int) (by decide) rfl rfl (g := (mkF m 64 #[.val (.ref a1), .val (.ref a2), .val (.int p3), .val (.int p4), .unset, .unset, .unset, .unset, .unset, .unset] [(.int p3), (.ref a1)])) rfl rfl (hb hby d1_64)
  refine Go.st st13 ?_
  have Fw13 : Fld Z h13 a1 "com/example/tabulon/tabulon/game/Board" "rows" "I" (.int p3) := Fld.same W13 f_12
  have K13 : Keep h0 h13 [a1] := K10.wr W13 (Or.inl (List.mem_of_getElem? (i := 0) rfl))
  have N13 := Fr.snoc X13 N10 g_a1
  show Go p e below _ (T13.setTop (mkF m 67 #[.val (.ref a1), .val (.ref a2), .val (.int p3), .val (.int p4), .unset, .unset, .unset, .unset, .unset, .unset] []))
  refine Go.st (fun _ kk => XS.aloadN X13.here hx rfl (hb hby d1_67) rfl rfl  kk) ?_
  show Go p e below _ (T13.setTop (mkF m 68 #[.val (.ref a1), .val (.ref a2), .val (.int p3), .val (.int p4), .unset, .unset, .unset, .unset, .unset, .unset] [(.ref a1)]))
  refine Go.st (fun _ kk => XS.iloadN X13.here hx rfl (hb hby d1_68) rfl  kk) ?_
  show Go p e below _ (T13.setTop (mkF m 69 #[.val (.ref a1), .val (.ref a2), .val (.int p3), .val (.int p4), .unset, .unset, .unset, .unset, .unset, .unset] [(.int p4), (.ref a1)]))
  have f_14 := (Exa.wr W13 f_11)
  have f_15 := (Fld.other W13 (Fld.other W10 (F_columns_a1.keep Kc6 nin0) (Or.inr (slot_ne (Or.inr (hw _ (List.mem_of_getElem? (i := 42) rfl))) (Or.inr (hw _ (List.mem_of_getElem? (i := 38) rfl))) (by decide) (t := .int) (t' := (.object "com/example/tabulon/tabulon/game/Board$Cells")) (by decide) (by decide)))) (Or.inr (slot_ne (Or.inr (hw _ (List.mem_of_getElem? (i := 42) rfl))) (Or.inr (hw _ (List.mem_of_getElem? (i := 40) rfl))) (by decide) (t := .int) (t' := .int) (by decide) (by decide))))
  obtain ⟨T16, h16, X16, e16, W16, st16⟩ := putF X13 hx hZ hown (host := "") (Or.inl (hw _ (List.mem_of_getElem? (i := 41) rfl))) Via.refl e13 f_15 f_14 (Or.inr ⟨(hw _ (List.mem_of_getElem? (i := 42) rfl)), rfl, hnm⟩) (hw _ (List.mem_of_getElem? (i := 4) rfl)) (ty := .int) (by decide) rfl rfl (g := (mkF m 69 #[.val (.ref a1), .val (.ref a2), .val (.int p3), .val (.int p4), .unset, .unset, .unset, .unset, .unset, .unset] [(.int p4), (.ref a1)])) rfl rfl (hb hby d1_69)
  refine Go.st st16 ?_
  have Fw16 : Fld Z h16 a1 "com/example/tabulon/tabulon/game/Board" "columns" "I" (.int p4) := Fld.same W16 f_15
  have K16 : Keep h0 h16 [a1] := K13.wr W16 (Or.inl (List.mem_of_getElem? (i := 0) rfl))
  have N16 := Fr.snoc X16 N13 g_a1
  show Go p e below _ (T16.setTop (mkF m 72 #[.val (.ref a1), .val (.ref a2), .val (.int p3), .val (.int p4), .unset, .unset, .unset, .unset, .unset, .unset] []))
  refine Go.st (fun _ kk => XS.iloadN X16.here hx rfl (hb hby d1_72) rfl  kk) ?_
  show Go p e below _ (T16.setTop (mkF m 73 #[.val (.ref a1), .val (.ref a2), .val (.int p3), .val (.int p4), .unset, .unset, .unset, .unset, .unset, .unset] [(.int p3)]))
  refine Go.st (fun _ kk => XS.iloadN X16.here hx rfl (hb hby d1_73) rfl  kk) ?_
  show Go p e below _ (T16.setTop (mkF m 74 #[.val (.ref a1), .val (.ref a2), .val (.int p3), .val (.int p4), .unset, .unset, .unset, .unset, .unset, .unset] [(.int p4), (.int p3)]))
  refine Go.st (fun _ kk => XS.imul X16.here hx rfl (hb hby d1_74) rfl kk) ?_
  show Go p e below _ (T16.setTop (mkF m 75 #[.val (.ref a1), .val (.ref a2), .val (.int p3), .val (.int p4), .unset, .unset, .unset, .unset, .unset, .unset] [(.int (p3 * p4))]))
  refine Go.st (fun _ kk => XS.istore X16.here hx rfl (hb hby d1_75) rfl (l' := #[.val (.ref a1), .val (.ref a2), .val (.int p3), .val (.int p4), .val (.int (p3 * p4)), .unset, .unset, .unset, .unset, .unset]) rfl kk) ?_
  show Go p e below _ (T16.setTop (mkF m 77 #[.val (.ref a1), .val (.ref a2), .val (.int p3), .val (.int p4), .val (.int (p3 * p4)), .unset, .unset, .unset, .unset, .unset] []))
  refine Go.st (fun _ kk => XS.aloadN X16.here hx rfl (hb hby d1_77) rfl rfl  kk) ?_
  show Go p e below _ (T16.setTop (mkF m 78 #[.val (.ref a1), .val (.ref a2), .val (.int p3), .val (.int p4), .val (.int (p3 * p4)), .unset, .unset, .unset, .unset, .unset] [(.ref a1)]))
  have f_17 := (staKeepE S__VALUES K16 E_a1)
  have f_18 := (E_wv.keep K16)
  have f_19 := (V_wv.keep K16 (ninS hne_wv_a1 nin0))
  obtain ⟨_, _, ⟨T20, L20, k20, n20⟩, -, X20, ⟨Lc20, hQ20, l20, y20, z20⟩, st20⟩ := Jvm.LawKit.callS X16 hx (y := (⟨"com/example/tabulon/tabulon/game/Board$Direction", "values", "()[Lcom/example/tabulon/tabulon/game/Board$Direction;"⟩ : MethodName)) hown (mvT hZ (hw _ (List.mem_of_getElem? (i := 12) rfl))) (mvT hZ (hw _ (List.mem_of_getElem? (i := 13) rfl))) (mvT hZ (hw _ (List.mem_of_getElem? (i := 14) rfl))) (mvT hZ (hw _ (List.mem_of_getElem? (i := 15) rfl))) (by decide) (backOf (W := 1) (rm3_o l Z a0 hw [] wv d0 d1 d2 d3 d4 d5 d6 d7 kv h16 n0 (Nat.le_trans Z0 K16.1) f_17 f_18 f_19 (own_fitc K16 (ninS hne_wv_a1 nin0) Ar_wv hfc)) hZ (hw _ (List.mem_of_getElem? (i := 15) rfl)) (hw _ (List.mem_of_getElem? (i := 14) rfl)) (by decide) (by decide)) (g := (mkF m 78 #[.val (.ref a1), .val (.ref a2), .val (.int p3), .val (.int p4), .val (.int (p3 * p4)), .unset, .unset, .unset, .unset, .unset] [(.ref a1)])) rfl (by rw [hml]; rfl) (argsL := []) (rest := [(.ref a1)]) (lenOf pd_3 rfl) rfl (by show 2 * 0 + _ ≤ _; exact Nat.le_of_eq rfl) (hb hby d1_78) (fun _ _ => ⟨rfl, e16, (by decide : 1 + 1 ≤ _), (by decide : 8 + 8 ≤ _)⟩)
  dsimp only [Pt.U, Pt.locs, Pt.cells, Pt.slots] at X20 l20 y20 z20 st20 hQ20
  subst l20 y20 z20
  obtain ⟨b3_20, rfl, N20q, Kc20, P20_0, P20_1, P20_2⟩ := hQ20
  have f_21 := (((P6_2.other W10 (Ne.symm (Nat.ne_of_lt (Nat.lt_of_lt_of_le E_a1.lt sz_b3_6)))).other W13 (Ne.symm (Nat.ne_of_lt (Nat.lt_of_lt_of_le E_a1.lt sz_b3_6)))).other W16 (Ne.symm (Nat.ne_of_lt (Nat.lt_of_lt_of_le E_a1.lt sz_b3_6))))
  have K20 : Keep h0 T20.heap [a1] := K16.trans Kc20 all0
  have g_b3_20 := P20_0
  have sz_b3_20 : h0.size ≤ b3_20 := Nat.le_trans K16.1 P20_1
  have lt_b3_6_b3_20 : b3_6 < b3_20 := Nat.lt_of_lt_of_le f_21.lt P20_1
  have N20 := Fr.app N16 N20q
  refine Go.st st20 ?_
  show Go p e below _ (T20.setTop (mkF m 81 #[.val (.ref a1), .val (.ref a2), .val (.int p3), .val (.int p4), .val (.int (p3 * p4)), .unset, .unset, .unset, .unset, .unset] [(.ref b3_20), (.ref a1)]))
  obtain ⟨clq22, Arq22, caq22, saq22, naq22, haq22, gaq22⟩ := id P20_2
  refine Go.st (fun _ kk => X20.arraylength hx (by exact Arq22.1) (State.isArrayOf_alike hZ.alike Arq22.2.1) (g := (mkF m 81 #[.val (.ref a1), .val (.ref a2), .val (.int p3), .val (.int p4), .val (.int (p3 * p4)), .unset, .unset, .unset, .unset, .unset] [(.ref b3_20), (.ref a1)])) rfl rfl (hb hby d1_81) _ kk) ?_
  rw [len_of saq22 naq22]
  show Go p e below _ (T20.setTop (mkF m 82 #[.val (.ref a1), .val (.ref a2), .val (.int p3), .val (.int p4), .val (.int (p3 * p4)), .unset, .unset, .unset, .unset, .unset] [(.int (8 : Int32)), (.ref a1)]))
  refine Go.st (fun _ kk => XS.iload X20.here hx rfl (hb hby d1_82) rfl  kk) ?_
  show Go p e below _ (T20.setTop (mkF m 84 #[.val (.ref a1), .val (.ref a2), .val (.int p3), .val (.int p4), .val (.int (p3 * p4)), .unset, .unset, .unset, .unset, .unset] [(.int (p3 * p4)), (.int (8 : Int32)), (.ref a1)]))
  refine Go.st (fun _ kk => XS.imul X20.here hx rfl (hb hby d1_84) rfl kk) ?_
  show Go p e below _ (T20.setTop (mkF m 85 #[.val (.ref a1), .val (.ref a2), .val (.int p3), .val (.int p4), .val (.int (p3 * p4)), .unset, .unset, .unset, .unset, .unset] [(.int ((8 : Int32) * (p3 * p4))), (.ref a1)]))
  obtain ⟨T23, h23, k23, X23, e23, E23, A23, st23⟩ := newP X20 hx hZ (hw _ (List.mem_of_getElem? (i := 43) rfl)) rfl (g := (mkF m 85 #[.val (.ref a1), .val (.ref a2), .val (.int p3), .val (.int p4), .val (.int (p3 * p4)), .unset, .unset, .unset, .unset, .unset] [(.int ((8 : Int32) * (p3 * p4))), (.ref a1)])) rfl (hb hby d1_85) rfl (own_nn (own_128 hr hc).1) (cap := 128) (own_cap (own_128 hr hc).2) (by decide) (by decide) (by decide)
  obtain ⟨b23, g23⟩ : ∃ z, z = T20.heap.size := ⟨_, rfl⟩
  rw [← g23] at A23 st23
  refine Go.st st23 ?_
  have g_b23 : n0 ≤ b23 := Nat.le_trans (Nat.le_trans Z0 K20.1) (Nat.le_of_eq g23.symm)
  have sz_b23 : h0.size ≤ b23 := Nat.le_trans K20.1 (Nat.le_of_eq g23.symm)
  have f_24 := (f_21.keep Kc20 nin0)
  have lt_b3_6_b23 : b3_6 < b23 := Nat.lt_of_lt_of_le f_24.lt (Nat.le_of_eq g23.symm)
  have lt_b3_20_b23 : b3_20 < b23 := Nat.lt_of_lt_of_le P20_2.lt (Nat.le_of_eq g23.symm)
  have K23 : Keep h0 h23 [a1] := K20.ext E23
  have V_b23 : Arv Z h23 b23 k23 .int ((8 : Int32) * (p3 * p4)) [] (.int (0 : Int32)) := Arv.new A23 (own_nn (own_128 hr hc).1)
  show Go p e below _ (T23.setTop (mkF m 87 #[.val (.ref a1), .val (.ref a2), .val (.int p3), .val (.int p4), .val (.int (p3 * p4)), .unset, .unset, .unset, .unset, .unset] [(.ref b23), (.ref a1)]))
  have f_25 := (Exa.ext E23 ((Exa.wr W16 f_14).keep Kc20))
  have f_26 := (Fld.ext E23 ((Fld.other W16 (Fld.other W13 (Fld.other W10 (F_steps_a1.keep Kc6 nin0) (Or.inr (slot_ne (Or.inr (hw _ (List.mem_of_getElem? (i := 45) rfl))) (Or.inr (hw _ (List.mem_of_getElem? (i := 38) rfl))) (by decide) (t := (.array .int)) (t' := (.object "com/example/tabulon/tabulon/game/Board$Cells")) (by decide) (by decide)))) (Or.inr (slot_ne (Or.inr (hw _ (List.mem_of_getElem? (i := 45) rfl))) (Or.inr (hw _ (List.mem_of_getElem? (i := 40) rfl))) (by decide) (t := (.array .int)) (t' := .int) (by decide) (by decide)))) (Or.inr (slot_ne (Or.inr (hw _ (List.mem_of_getElem? (i := 45) rfl))) (Or.inr (hw _ (List.mem_of_getElem? (i := 42) rfl))) (by decide) (t := (.array .int)) (t' := .int) (by decide) (by decide)))).keep Kc20 nin0))
  obtain ⟨T27, h27, X27, e27, W27, st27⟩ := putF X23 hx hZ hown (host := "") (Or.inl (hw _ (List.mem_of_getElem? (i := 44) rfl))) Via.refl e23 f_26 f_25 (Or.inr ⟨(hw _ (List.mem_of_getElem? (i := 45) rfl)), rfl, hnm⟩) (hw _ (List.mem_of_getElem? (i := 4) rfl)) (ty := (.array .int)) (by decide) rfl rfl (g := (mkF m 87 #[.val (.ref a1), .val (.ref a2), .val (.int p3), .val (.int p4), .val (.int (p3 * p4)), .unset, .unset, .unset, .unset, .unset] [(.ref b23), (.ref a1)])) rfl rfl (hb hby d1_87)
  refine Go.st st27 ?_
  have Fw27 : Fld Z h27 a1 "com/example/tabulon/tabulon/game/Board" "steps" "[I" (.ref b23) := Fld.same W27 f_26
  have K27 : Keep h0 h27 [a1] := K23.wr W27 (Or.inl (List.mem_of_getElem? (i := 0) rfl))
  have N27 := Fr.snoc X27 N20 g_a1
  show Go p e below _ (T27.setTop (mkF m 90 #[.val (.ref a1), .val (.ref a2), .val (.int p3), .val (.int p4), .val (.int (p3 * p4)), .unset, .unset, .unset, .unset, .unset] []))
  have f_28 := (Sta.wr W27 (Sta.ext E23 (staKeep0 f_17 Kc20)))
  have f_29 := (Exa.wr W27 (Exa.ext E23 (f_18.keep Kc20)))
  have f_30 := (((f_19.keep Kc20 nin0).ext E23).other W27 hne_wv_a1)
  obtain ⟨_, _, ⟨T31, L31, k31, n31⟩, -, X31, ⟨Lc31, hQ31, l31, y31, z31⟩, st31⟩ := Jvm.LawKit.callS X27 hx (y := (⟨"com/example/tabulon/tabulon/game/Board$Direction", "values", "()[Lcom/example/tabulon/tabulon/game/Board$Direction;"⟩ : MethodName)) hown (mvT hZ (hw _ (List.mem_of_getElem? (i := 12) rfl))) (mvT hZ (hw _ (List.mem_of_getElem? (i := 13) rfl))) (mvT hZ (hw _ (List.mem_of_getElem? (i := 14) rfl))) (mvT hZ (hw _ (List.mem_of_getElem? (i := 15) rfl))) (by decide) (backOf (W := 0) (rm3_o l Z a0 hw [] wv d0 d1 d2 d3 d4 d5 d6 d7 kv h27 n0 (Nat.le_trans Z0 K27.1) f_28 f_29 f_30 (own_fitc K27 (ninS hne_wv_a1 nin0) Ar_wv hfc)) hZ (hw _ (List.mem_of_getElem? (i := 15) rfl)) (hw _ (List.mem_of_getElem? (i := 14) rfl)) (by decide) (by decide)) (g := (mkF m 90 #[.val (.ref a1), .val (.ref a2), .val (.int p3), .val (.int p4), .val (.int (p3 * p4)), .unset, .unset, .unset, .unset, .unset] [])) rfl (by rw [hml]; rfl) (argsL := []) (rest := []) (lenOf pd_3 rfl) rfl (by show 2 * 0 + _ ≤ _; exact Nat.le_of_eq rfl) (hb hby d1_90) (fun _ _ => ⟨rfl, e27, (by decide : 3 + 1 ≤ _), (by decide : 144 + 8 ≤ _)⟩)
  dsimp only [Pt.U, Pt.locs, Pt.cells, Pt.slots] at X31 l31 y31 z31 st31 hQ31
  subst l31 y31 z31
  obtain ⟨b3_31, rfl, N31q, Kc31, P31_0, P31_1, P31_2⟩ := hQ31
  have f_32 := ((f_24.ext E23).other W27 (Ne.symm (Nat.ne_of_lt (Nat.lt_of_lt_of_le E_a1.lt sz_b3_6))))
  have f_33 := ((P20_2.ext E23).other W27 (Ne.symm (Nat.ne_of_lt (Nat.lt_of_lt_of_le E_a1.lt sz_b3_20))))
  have f_34 := (V_b23.other W27 (Ne.symm (Nat.ne_of_lt (Nat.lt_of_lt_of_le E_a1.lt sz_b23))))
  have K31 : Keep h0 T31.heap [a1] := K27.trans Kc31 all0
  have g_b3_31 := P31_0
  have sz_b3_31 : h0.size ≤ b3_31 := Nat.le_trans K27.1 P31_1
  have lt_b3_6_b3_31 : b3_6 < b3_31 := Nat.lt_of_lt_of_le f_32.lt P31_1
  have lt_b3_20_b3_31 : b3_20 < b3_31 := Nat.lt_of_lt_of_le f_33.lt P31_1
  have lt_b23_b3_31 : b23 < b3_31 := Nat.lt_of_lt_of_le f_34.lt P31_1
  have N31 := Fr.app N27 N31q
  refine Go.st st31 ?_
  show Go p e below _ (T31.setTop (mkF m 93 #[.val (.ref a1), .val (.ref a2), .val (.int p3), .val (.int p4), .val (.int (p3 * p4)), .unset, .unset, .unset, .unset, .unset] [(.ref b3_31)]))
  refine Go.st (fun _ kk => XS.astore X31.here hx rfl (hb hby d1_93) rfl rfl (l' := #[.val (.ref a1), .val (.ref a2), .val (.int p3), .val (.int p4), .val (.int (p3 * p4)), .val (.ref b3_31), .unset, .unset, .unset, .unset]) rfl kk) ?_
  show Go p e below _ (T31.setTop (mkF m 95 #[.val (.ref a1), .val (.ref a2), .val (.int p3), .val (.int p4), .val (.int (p3 * p4)), .val (.ref b3_31), .unset, .unset, .unset, .unset] []))
  refine Go.st (fun _ kk => XS.aload X31.here hx rfl (hb hby d1_95) rfl rfl  kk) ?_
  show Go p e below _ (T31.setTop (mkF m 97 #[.val (.ref a1), .val (.ref a2), .val (.int p3), .val (.int p4), .val (.int (p3 * p4)), .val (.ref b3_31), .unset, .unset, .unset, .unset] [(.ref b3_31)]))
  obtain ⟨clq35, Arq35, caq35, saq35, naq35, haq35, gaq35⟩ := id P31_2
  refine Go.st (fun _ kk => X31.arraylength hx (by exact Arq35.1) (State.isArrayOf_alike hZ.alike Arq35.2.1) (g := (mkF m 97 #[.val (.ref a1), .val (.ref a2), .val (.int p3), .val (.int p4), .val (.int (p3 * p4)), .val (.ref b3_31), .unset, .unset, .unset, .unset] [(.ref b3_31)])) rfl rfl (hb hby d1_97) _ kk) ?_
  rw [len_of saq35 naq35]
  show Go p e below _ (T31.setTop (mkF m 98 #[.val (.ref a1), .val (.ref a2), .val (.int p3), .val (.int p4), .val (.int (p3 * p4)), .val (.ref b3_31), .unset, .unset, .unset, .unset] [(.int (8 : Int32))]))
  refine Go.st (fun _ kk => XS.istore X31.here hx rfl (hb hby d1_98) rfl (l' := #[.val (.ref a1), .val (.ref a2), .val (.int p3), .val (.int p4), .val (.int (p3 * p4)), .val (.ref b3_31), .val (.int (8 : Int32)), .unset, .unset, .unset]) rfl kk) ?_
  show Go p e below _ (T31.setTop (mkF m 100 #[.val (.ref a1), .val (.ref a2), .val (.int p3), .val (.int p4), .val (.int (p3 * p4)), .val (.ref b3_31), .val (.int (8 : Int32)), .unset, .unset, .unset] []))
  refine Go.st (fun _ kk => XS.iconst X31.here hx rfl (hb hby d1_100) kk) ?_
  show Go p e below _ (T31.setTop (mkF m 101 #[.val (.ref a1), .val (.ref a2), .val (.int p3), .val (.int p4), .val (.int (p3 * p4)), .val (.ref b3_31), .val (.int (8 : Int32)), .unset, .unset, .unset] [(.int (0 : Int32))]))
  refine Go.st (fun _ kk => XS.istore X31.here hx rfl (hb hby d1_101) rfl (l' := #[.val (.ref a1), .val (.ref a2), .val (.int p3), .val (.int p4), .val (.int (p3 * p4)), .val (.ref b3_31), .val (.int (8 : Int32)), .val (.int (0 : Int32)), .unset, .unset]) rfl kk) ?_
  show Go p e below _ (T31.setTop (mkF m 103 #[.val (.ref a1), .val (.ref a2), .val (.int p3), .val (.int p4), .val (.int (p3 * p4)), .val (.ref b3_31), .val (.int (8 : Int32)), .val (.int (0 : Int32)), .unset, .unset] []))
  refine Go.st (fun _ kk => XS.iload X31.here hx rfl (hb hby d1_103) rfl  kk) ?_
  show Go p e below _ (T31.setTop (mkF m 105 #[.val (.ref a1), .val (.ref a2), .val (.int p3), .val (.int p4), .val (.int (p3 * p4)), .val (.ref b3_31), .val (.int (8 : Int32)), .val (.int (0 : Int32)), .unset, .unset] [(.int (0 : Int32))]))
  refine Go.st (fun _ kk => XS.iload X31.here hx rfl (hb hby d1_105) rfl  kk) ?_
  show Go p e below _ (T31.setTop (mkF m 107 #[.val (.ref a1), .val (.ref a2), .val (.int p3), .val (.int p4), .val (.int (p3 * p4)), .val (.ref b3_31), .val (.int (8 : Int32)), .val (.int (0 : Int32)), .unset, .unset] [(.int (8 : Int32)), (.int (0 : Int32))]))
  refine Go.st (fun _ kk => XS.icmpNo X31.here hx rfl (hb hby d1_107) rfl (tlt (by decide : ((0 : Int32) < (8 : Int32)))).2.1 kk) ?_
  show Go p e below _ (T31.setTop (mkF m 110 #[.val (.ref a1), .val (.ref a2), .val (.int p3), .val (.int p4), .val (.int (p3 * p4)), .val (.ref b3_31), .val (.int (8 : Int32)), .val (.int (0 : Int32)), .unset, .unset] []))
  refine Go.st (fun _ kk => XS.aload X31.here hx rfl (hb hby d1_110) rfl rfl  kk) ?_
  show Go p e below _ (T31.setTop (mkF m 112 #[.val (.ref a1), .val (.ref a2), .val (.int p3), .val (.int p4), .val (.int (p3 * p4)), .val (.ref b3_31), .val (.int (8 : Int32)), .val (.int (0 : Int32)), .unset, .unset] [(.ref b3_31)]))
  refine Go.st (fun _ kk => XS.iload X31.here hx rfl (hb hby d1_112) rfl  kk) ?_
  show Go p e below _ (T31.setTop (mkF m 114 #[.val (.ref a1), .val (.ref a2), .val (.int p3), .val (.int p4), .val (.int (p3 * p4)), .val (.ref b3_31), .val (.int (8 : Int32)), .val (.int (0 : Int32)), .unset, .unset] [(.int (0 : Int32)), (.ref b3_31)]))
  obtain ⟨clq36, Arq36, caq36, saq36, naq36, haq36, gaq36⟩ := id P31_2
  have inq36 : ¬ ((0 : Int32) < 0 ∨ clq36.slots.size ≤ ((0 : Int32)).toNatClampNeg) := inb_of saq36 ⟨by decide, by decide⟩
  have atq36 : clq36.slots[((0 : Int32)).toNatClampNeg]? = some (.ref d0) := haq36.at inq36 rfl
  refine Go.st (fun _ kk => X31.aaload hx (j := (0 : Int32)) (v := (.ref d0)) (by exact Arq36.1) (State.isArrayOf_alike hZ.alike Arq36.2.1) rfl Arq36.2.2 inq36 atq36 (g := (mkF m 114 #[.val (.ref a1), .val (.ref a2), .val (.int p3), .val (.int p4), .val (.int (p3 * p4)), .val (.ref b3_31), .val (.int (8 : Int32)), .val (.int (0 : Int32)), .unset, .unset] [(.int (0 : Int32)), (.ref b3_31)])) rfl rfl (hb hby d1_114) _ kk) ?_
  show Go p e below _ (T31.setTop (mkF m 115 #[.val (.ref a1), .val (.ref a2), .val (.int p3), .val (.int p4), .val (.int (p3 * p4)), .val (.ref b3_31), .val (.int (8 : Int32)), .val (.int (0 : Int32)), .unset, .unset] [(.ref d0)]))
  refine Go.st (fun _ kk => XS.astore X31.here hx rfl (hb hby d1_115) rfl rfl (l' := #[.val (.ref a1), .val (.ref a2), .val (.int p3), .val (.int p4), .val (.int (p3 * p4)), .val (.ref b3_31), .val (.int (8 : Int32)), .val (.int (0 : Int32)), .val (.ref d0), .unset]) rfl kk) ?_
  show Go p e below _ (T31.setTop (mkF m 117 #[.val (.ref a1), .val (.ref a2), .val (.int p3), .val (.int p4), .val (.int (p3 * p4)), .val (.ref b3_31), .val (.int (8 : Int32)), .val (.int (0 : Int32)), .val (.ref d0), .unset] []))
  refine Go.st (fun _ kk => XS.iconst X31.here hx rfl (hb hby d1_117) kk) ?_
  show Go p e below _ (T31.setTop (mkF m 118 #[.val (.ref a1), .val (.ref a2), .val (.int p3), .val (.int p4), .val (.int (p3 * p4)), .val (.ref b3_31), .val (.int (8 : Int32)), .val (.int (0 : Int32)), .val (.ref d0), .unset] [(.int (0 : Int32))]))
  refine Go.st (fun _ kk => XS.istore X31.here hx rfl (hb hby d1_118) rfl (l' := #[.val (.ref a1), .val (.ref a2), .val (.int p3), .val (.int p4), .val (.int (p3 * p4)), .val (.ref b3_31), .val (.int (8 : Int32)), .val (.int (0 : Int32)), .val (.ref d0), .val (.int (0 : Int32))]) rfl kk) ?_
  show Go p e below _ (T31.setTop (mkF m 120 #[.val (.ref a1), .val (.ref a2), .val (.int p3), .val (.int p4), .val (.int (p3 * p4)), .val (.ref b3_31), .val (.int (8 : Int32)), .val (.int (0 : Int32)), .val (.ref d0), .val (.int (0 : Int32))] []))
  have f_38 := ((Exa.wr W27 f_25).keep Kc31)
  have f_39 := (Fw27.keep Kc31 nin0)
  have f_40 := ((Fld.other W27 (Fld.ext E23 (Fw16.keep Kc20 nin0)) (Or.inr (slot_ne (Or.inr (hw _ (List.mem_of_getElem? (i := 42) rfl))) (Or.inr (hw _ (List.mem_of_getElem? (i := 45) rfl))) (by decide) (t := .int) (t' := (.array .int)) (by decide) (by decide)))).keep Kc31 nin0)
  have f_41 := ((Fld.other W27 (Fld.ext E23 ((Fld.other W16 Fw13 (Or.inr (slot_ne (Or.inr (hw _ (List.mem_of_getElem? (i := 40) rfl))) (Or.inr (hw _ (List.mem_of_getElem? (i := 42) rfl))) (by decide) (t := .int) (t' := .int) (by decide) (by decide)))).keep Kc20 nin0)) (Or.inr (slot_ne (Or.inr (hw _ (List.mem_of_getElem? (i := 40) rfl))) (Or.inr (hw _ (List.mem_of_getElem? (i := 45) rfl))) (by decide) (t := .int) (t' := (.array .int)) (by decide) (by decide)))).keep Kc31 nin0)
  have f_42 := (E_d0.keep K31)
  have f_43 := (F_ordinal_d0.keep K31 (ninS (ne_exa f_42 f_38 (by decide)) nin0))
  have f_44 := (F_columnStep_d0.keep K31 (ninS (ne_exa f_42 f_38 (by decide)) nin0))
  have f_45 := (F_rowStep_d0.keep K31 (ninS (ne_exa f_42 f_38 (by decide)) nin0))
  have f_46 := (f_34.keep Kc31 nin0)
  refine own_inner hx hZ hw hby hml hown a1 a2 p3 p4 (p3 * p4) b3_31 (8 : Int32) (0 : Int32) d0 b23 ((8 : Int32) * (p3 * p4)) p4 p3 (0 : Int32) (0 : Int32) (1 : Int32) T31.heap n0 (Nat.le_trans Z0 K31.1) f_38 f_39 f_40 f_41 f_42 f_43 f_44 f_45 (own_nz hc) (Nat.ne_of_lt (Nat.lt_of_lt_of_le E_a1.lt sz_b23)) (Nat.ne_of_lt (Nat.lt_of_lt_of_le E_d0.lt sz_b23)) g_b23 (by decide) (by decide) (own_ix (by decide) (own_116 hr hc)) (fun i37 T37 h37 l37 X37 e37 N37 Kc37 V37 => ?_) (p3 * p4).toNatClampNeg (0 : Int32) _ _ _ (by simp only [Int32.toNatClampNeg]; show _ ≤ 0 + _; omega) (by decide) X31 rfl N31 (Keep.refl _ _) (Arv.arn f_46)
  have K37 : Keep h0 h37 [a1] := K31.trans Kc37 (allS (Or.inr sz_b23) all0)
  show Go p e below _ (T37.setTop (mkF m 165 #[.val (.ref a1), .val (.ref a2), .val (.int p3), .val (.int p4), .val (.int (p3 * p4)), .val (.ref b3_31), .val (.int (8 : Int32)), .val (.int (0 : Int32)), .val (.ref d0), .val (.int i37)] []))
  refine Go.st (fun _ kk => XS.iinc X37.here hx rfl (hb hby d1_165) rfl (l' := #[.val (.ref a1), .val (.ref a2), .val (.int p3), .val (.int p4), .val (.int (p3 * p4)), .val (.ref b3_31), .val (.int (8 : Int32)), .val (.int (1 : Int32)), .val (.ref d0), .val (.int i37)]) rfl kk) ?_
  show Go p e below _ (T37.setTop (mkF m 168 #[.val (.ref a1), .val (.ref a2), .val (.int p3), .val (.int p4), .val (.int (p3 * p4)), .val (.ref b3_31), .val (.int (8 : Int32)), .val (.int (1 : Int32)), .val (.ref d0), .val (.int i37)] []))
  refine Go.st (fun _ kk => XS.goto X37.here hx rfl (pc0 := 168) (pc' := 103) rfl (hb hby d1_168) (by decide) (by decide) kk) ?_
  show Go p e below _ (T37.setTop (mkF m 103 #[.val (.ref a1), .val (.ref a2), .val (.int p3), .val (.int p4), .val (.int (p3 * p4)), .val (.ref b3_31), .val (.int (8 : Int32)), .val (.int (1 : Int32)), .val (.ref d0), .val (.int i37)] []))
  refine Go.st (fun _ kk => XS.iload X37.here hx rfl (hb hby d1_103) rfl  kk) ?_
  show Go p e below _ (T37.setTop (mkF m 105 #[.val (.ref a1), .val (.ref a2), .val (.int p3), .val (.int p4), .val (.int (p3 * p4)), .val (.ref b3_31), .val (.int (8 : Int32)), .val (.int (1 : Int32)), .val (.ref d0), .val (.int i37)] [(.int (1 : Int32))]))
  refine Go.st (fun _ kk => XS.iload X37.here hx rfl (hb hby d1_105) rfl  kk) ?_
  show Go p e below _ (T37.setTop (mkF m 107 #[.val (.ref a1), .val (.ref a2), .val (.int p3), .val (.int p4), .val (.int (p3 * p4)), .val (.ref b3_31), .val (.int (8 : Int32)), .val (.int (1 : Int32)), .val (.ref d0), .val (.int i37)] [(.int (8 : Int32)), (.int (1 : Int32))]))
  refine Go.st (fun _ kk => XS.icmpNo X37.here hx rfl (hb hby d1_107) rfl (tlt (by decide : ((1 : Int32) < (8 : Int32)))).2.1 kk) ?_
  show Go p e below _ (T37.setTop (mkF m 110 #[.val (.ref a1), .val (.ref a2), .val (.int p3), .val (.int p4), .val (.int (p3 * p4)), .val (.ref b3_31), .val (.int (8 : Int32)), .val (.int (1 : Int32)), .val (.ref d0), .val (.int i37)] []))
  refine Go.st (fun _ kk => XS.aload X37.here hx rfl (hb hby d1_110) rfl rfl  kk) ?_
  show Go p e below _ (T37.setTop (mkF m 112 #[.val (.ref a1), .val (.ref a2), .val (.int p3), .val (.int p4), .val (.int (p3 * p4)), .val (.ref b3_31), .val (.int (8 : Int32)), .val (.int (1 : Int32)), .val (.ref d0), .val (.int i37)] [(.ref b3_31)]))
  refine Go.st (fun _ kk => XS.iload X37.here hx rfl (hb hby d1_112) rfl  kk) ?_
  show Go p e below _ (T37.setTop (mkF m 114 #[.val (.ref a1), .val (.ref a2), .val (.int p3), .val (.int p4), .val (.int (p3 * p4)), .val (.ref b3_31), .val (.int (8 : Int32)), .val (.int (1 : Int32)), .val (.ref d0), .val (.int i37)] [(.int (1 : Int32)), (.ref b3_31)]))
  have f_47 := (P31_2.keep Kc37 (ninS (Ne.symm (Nat.ne_of_lt lt_b23_b3_31)) nin0))
  obtain ⟨clq48, Arq48, caq48, saq48, naq48, haq48, gaq48⟩ := id f_47
  have inq48 : ¬ ((1 : Int32) < 0 ∨ clq48.slots.size ≤ ((1 : Int32)).toNatClampNeg) := inb_of saq48 ⟨by decide, by decide⟩
  have atq48 : clq48.slots[((1 : Int32)).toNatClampNeg]? = some (.ref d1) := haq48.at inq48 rfl
  refine Go.st (fun _ kk => X37.aaload hx (j := (1 : Int32)) (v := (.ref d1)) (by rw [e37]; exact Arq48.1) (State.isArrayOf_alike hZ.alike Arq48.2.1) rfl Arq48.2.2 inq48 atq48 (g := (mkF m 114 #[.val (.ref a1), .val (.ref a2), .val (.int p3), .val (.int p4), .val (.int (p3 * p4)), .val (.ref b3_31), .val (.int (8 : Int32)), .val (.int (1 : Int32)), .val (.ref d0), .val (.int i37)] [(.int (1 : Int32)), (.ref b3_31)])) rfl rfl (hb hby d1_114) _ kk) ?_
  show Go p e below _ (T37.setTop (mkF m 115 #[.val (.ref a1), .val (.ref a2), .val (.int p3), .val (.int p4), .val (.int (p3 * p4)), .val (.ref b3_31), .val (.int (8 : Int32)), .val (.int (1 : Int32)), .val (.ref d0), .val (.int i37)] [(.ref d1)]))
  refine Go.st (fun _ kk => XS.astore X37.here hx rfl (hb hby d1_115) rfl rfl (l' := #[.val (.ref a1), .val (.ref a2), .val (.int p3), .val (.int p4), .val (.int (p3 * p4)), .val (.ref b3_31), .val (.int (8 : Int32)), .val (.int (1 : Int32)), .val (.ref d1), .val (.int i37)]) rfl kk) ?_
  show Go p e below _ (T37.setTop (mkF m 117 #[.val (.ref a1), .val (.ref a2), .val (.int p3), .val (.int p4), .val (.int (p3 * p4)), .val (.ref b3_31), .val (.int (8 : Int32)), .val (.int (1 : Int32)), .val (.ref d1), .val (.int i37)] []))
  refine Go.st (fun _ kk => XS.iconst X37.here hx rfl (hb hby d1_117) kk) ?_
  show Go p e below _ (T37.setTop (mkF m 118 #[.val (.ref a1), .val (.ref a2), .val (.int p3), .val (.int p4), .val (.int (p3 * p4)), .val (.ref b3_31), .val (.int (8 : Int32)), .val (.int (1 : Int32)), .val (.ref d1), .val (.int i37)] [(.int (0 : Int32))]))
  refine Go.st (fun _ kk => XS.istore X37.here hx rfl (hb hby d1_118) rfl (l' := #[.val (.ref a1), .val (.ref a2), .val (.int p3), .val (.int p4), .val (.int (p3 * p4)), .val (.ref b3_31), .val (.int (8 : Int32)), .val (.int (1 : Int32)), .val (.ref d1), .val (.int (0 : Int32))]) rfl kk) ?_
  show Go p e below _ (T37.setTop (mkF m 120 #[.val (.ref a1), .val (.ref a2), .val (.int p3), .val (.int p4), .val (.int (p3 * p4)), .val (.ref b3_31), .val (.int (8 : Int32)), .val (.int (1 : Int32)), .val (.ref d1), .val (.int (0 : Int32))] []))
  have f_50 := (f_38.keep Kc37)
  have f_51 := (f_39.keep Kc37 (ninS (Nat.ne_of_lt (Nat.lt_of_lt_of_le E_a1.lt sz_b23)) nin0))
  have f_52 := (f_40.keep Kc37 (ninS (Nat.ne_of_lt (Nat.lt_of_lt_of_le E_a1.lt sz_b23)) nin0))
  have f_53 := (f_41.keep Kc37 (ninS (Nat.ne_of_lt (Nat.lt_of_lt_of_le E_a1.lt sz_b23)) nin0))
  have f_54 := (E_d1.keep K37)
  have f_55 := (F_ordinal_d1.keep K37 (ninS (ne_exa f_54 f_50 (by decide)) nin0))
  have f_56 := (F_columnStep_d1.keep K37 (ninS (ne_exa f_54 f_50 (by decide)) nin0))
  have f_57 := (F_rowStep_d1.keep K37 (ninS (ne_exa f_54 f_50 (by decide)) nin0))
  refine own_inner hx hZ hw hby hml hown a1 a2 p3 p4 (p3 * p4) b3_31 (8 : Int32) (1 : Int32) d1 b23 ((8 : Int32) * (p3 * p4)) p4 p3 (1 : Int32) (1 : Int32) (1 : Int32) h37 n0 (Nat.le_trans Z0 K37.1) f_50 f_51 f_52 f_53 f_54 f_55 f_56 f_57 (own_nz hc) (Nat.ne_of_lt (Nat.lt_of_lt_of_le E_a1.lt sz_b23)) (Nat.ne_of_lt (Nat.lt_of_lt_of_le E_d1.lt sz_b23)) g_b23 (by decide) (by decide) (own_ix (by decide) (own_116 hr hc)) (fun i49 T49 h49 l49 X49 e49 N49 Kc49 V49 => ?_) (p3 * p4).toNatClampNeg (0 : Int32) _ _ _ (by simp only [Int32.toNatClampNeg]; show _ ≤ 0 + _; omega) (by decide) X37 e37 N37 (Keep.refl _ _) V37
  have K49 : Keep h0 h49 [a1] := K37.trans Kc49 (allS (Or.inr sz_b23) all0)
  show Go p e below _ (T49.setTop (mkF m 165 #[.val (.ref a1), .val (.ref a2), .val (.int p3), .val (.int p4), .val (.int (p3 * p4)), .val (.ref b3_31), .val (.int (8 : Int32)), .val (.int (1 : Int32)), .val (.ref d1), .val (.int i49)] []))
  refine Go.st (fun _ kk => XS.iinc X49.here hx rfl (hb hby d1_165) rfl (l' := #[.val (.ref a1), .val (.ref a2), .val (.int p3), .val (.int p4), .val (.int (p3 * p4)), .val (.ref b3_31), .val (.int (8 : Int32)), .val (.int (2 : Int32)), .val (.ref d1), .val (.int i49)]) rfl kk) ?_
  show Go p e below _ (T49.setTop (mkF m 168 #[.val (.ref a1), .val (.ref a2), .val (.int p3), .val (.int p4), .val (.int (p3 * p4)), .val (.ref b3_31), .val (.int (8 : Int32)), .val (.int (2 : Int32)), .val (.ref d1), .val (.int i49)] []))
  refine Go.st (fun _ kk => XS.goto X49.here hx rfl (pc0 := 168) (pc' := 103) rfl (hb hby d1_168) (by decide) (by decide) kk) ?_
  show Go p e below _ (T49.setTop (mkF m 103 #[.val (.ref a1), .val (.ref a2), .val (.int p3), .val (.int p4), .val (.int (p3 * p4)), .val (.ref b3_31), .val (.int (8 : Int32)), .val (.int (2 : Int32)), .val (.ref d1), .val (.int i49)] []))
  refine Go.st (fun _ kk => XS.iload X49.here hx rfl (hb hby d1_103) rfl  kk) ?_
  show Go p e below _ (T49.setTop (mkF m 105 #[.val (.ref a1), .val (.ref a2), .val (.int p3), .val (.int p4), .val (.int (p3 * p4)), .val (.ref b3_31), .val (.int (8 : Int32)), .val (.int (2 : Int32)), .val (.ref d1), .val (.int i49)] [(.int (2 : Int32))]))
  refine Go.st (fun _ kk => XS.iload X49.here hx rfl (hb hby d1_105) rfl  kk) ?_
  show Go p e below _ (T49.setTop (mkF m 107 #[.val (.ref a1), .val (.ref a2), .val (.int p3), .val (.int p4), .val (.int (p3 * p4)), .val (.ref b3_31), .val (.int (8 : Int32)), .val (.int (2 : Int32)), .val (.ref d1), .val (.int i49)] [(.int (8 : Int32)), (.int (2 : Int32))]))
  refine Go.st (fun _ kk => XS.icmpNo X49.here hx rfl (hb hby d1_107) rfl (tlt (by decide : ((2 : Int32) < (8 : Int32)))).2.1 kk) ?_
  show Go p e below _ (T49.setTop (mkF m 110 #[.val (.ref a1), .val (.ref a2), .val (.int p3), .val (.int p4), .val (.int (p3 * p4)), .val (.ref b3_31), .val (.int (8 : Int32)), .val (.int (2 : Int32)), .val (.ref d1), .val (.int i49)] []))
  refine Go.st (fun _ kk => XS.aload X49.here hx rfl (hb hby d1_110) rfl rfl  kk) ?_
  show Go p e below _ (T49.setTop (mkF m 112 #[.val (.ref a1), .val (.ref a2), .val (.int p3), .val (.int p4), .val (.int (p3 * p4)), .val (.ref b3_31), .val (.int (8 : Int32)), .val (.int (2 : Int32)), .val (.ref d1), .val (.int i49)] [(.ref b3_31)]))
  refine Go.st (fun _ kk => XS.iload X49.here hx rfl (hb hby d1_112) rfl  kk) ?_
  show Go p e below _ (T49.setTop (mkF m 114 #[.val (.ref a1), .val (.ref a2), .val (.int p3), .val (.int p4), .val (.int (p3 * p4)), .val (.ref b3_31), .val (.int (8 : Int32)), .val (.int (2 : Int32)), .val (.ref d1), .val (.int i49)] [(.int (2 : Int32)), (.ref b3_31)]))
  have f_58 := (f_47.keep Kc49 (ninS (Ne.symm (Nat.ne_of_lt lt_b23_b3_31)) nin0))
  obtain ⟨clq59, Arq59, caq59, saq59, naq59, haq59, gaq59⟩ := id f_58
  have inq59 : ¬ ((2 : Int32) < 0 ∨ clq59.slots.size ≤ ((2 : Int32)).toNatClampNeg) := inb_of saq59 ⟨by decide, by decide⟩
  have atq59 : clq59.slots[((2 : Int32)).toNatClampNeg]? = some (.ref d2) := haq59.at inq59 rfl
  refine Go.st (fun _ kk => X49.aaload hx (j := (2 : Int32)) (v := (.ref d2)) (by rw [e49]; exact Arq59.1) (State.isArrayOf_alike hZ.alike Arq59.2.1) rfl Arq59.2.2 inq59 atq59 (g := (mkF m 114 #[.val (.ref a1), .val (.ref a2), .val (.int p3), .val (.int p4), .val (.int (p3 * p4)), .val (.ref b3_31), .val (.int (8 : Int32)), .val (.int (2 : Int32)), .val (.ref d1), .val (.int i49)] [(.int (2 : Int32)), (.ref b3_31)])) rfl rfl (hb hby d1_114) _ kk) ?_
  show Go p e below _ (T49.setTop (mkF m 115 #[.val (.ref a1), .val (.ref a2), .val (.int p3), .val (.int p4), .val (.int (p3 * p4)), .val (.ref b3_31), .val (.int (8 : Int32)), .val (.int (2 : Int32)), .val (.ref d1), .val (.int i49)] [(.ref d2)]))
  refine Go.st (fun _ kk => XS.astore X49.here hx rfl (hb hby d1_115) rfl rfl (l' := #[.val (.ref a1), .val (.ref a2), .val (.int p3), .val (.int p4), .val (.int (p3 * p4)), .val (.ref b3_31), .val (.int (8 : Int32)), .val (.int (2 : Int32)), .val (.ref d2), .val (.int i49)]) rfl kk) ?_
  show Go p e below _ (T49.setTop (mkF m 117 #[.val (.ref a1), .val (.ref a2), .val (.int p3), .val (.int p4), .val (.int (p3 * p4)), .val (.ref b3_31), .val (.int (8 : Int32)), .val (.int (2 : Int32)), .val (.ref d2), .val (.int i49)] []))
  refine Go.st (fun _ kk => XS.iconst X49.here hx rfl (hb hby d1_117) kk) ?_
  show Go p e below _ (T49.setTop (mkF m 118 #[.val (.ref a1), .val (.ref a2), .val (.int p3), .val (.int p4), .val (.int (p3 * p4)), .val (.ref b3_31), .val (.int (8 : Int32)), .val (.int (2 : Int32)), .val (.ref d2), .val (.int i49)] [(.int (0 : Int32))]))
  refine Go.st (fun _ kk => XS.istore X49.here hx rfl (hb hby d1_118) rfl (l' := #[.val (.ref a1), .val (.ref a2), .val (.int p3), .val (.int p4), .val (.int (p3 * p4)), .val (.ref b3_31), .val (.int (8 : Int32)), .val (.int (2 : Int32)), .val (.ref d2), .val (.int (0 : Int32))]) rfl kk) ?_
  show Go p e below _ (T49.setTop (mkF m 120 #[.val (.ref a1), .val (.ref a2), .val (.int p3), .val (.int p4), .val (.int (p3 * p4)), .val (.ref b3_31), .val (.int (8 : Int32)), .val (.int (2 : Int32)), .val (.ref d2), .val (.int (0 : Int32))] []))
  have f_61 := (f_50.keep Kc49)
  have f_62 := (f_51.keep Kc49 (ninS (Nat.ne_of_lt (Nat.lt_of_lt_of_le E_a1.lt sz_b23)) nin0))
  have f_63 := (f_52.keep Kc49 (ninS (Nat.ne_of_lt (Nat.lt_of_lt_of_le E_a1.lt sz_b23)) nin0))
  have f_64 := (f_53.keep Kc49 (ninS (Nat.ne_of_lt (Nat.lt_of_lt_of_le E_a1.lt sz_b23)) nin0))
  have f_65 := (E_d2.keep K49)
  have f_66 := (F_ordinal_d2.keep K49 (ninS (ne_exa f_65 f_61 (by decide)) nin0))
  have f_67 := (F_columnStep_d2.keep K49 (ninS (ne_exa f_65 f_61 (by decide)) nin0))
  have f_68 := (F_rowStep_d2.keep K49 (ninS (ne_exa f_65 f_61 (by decide)) nin0))
  refine own_inner hx hZ hw hby hml hown a1 a2 p3 p4 (p3 * p4) b3_31 (8 : Int32) (2 : Int32) d2 b23 ((8 : Int32) * (p3 * p4)) p4 p3 (2 : Int32) (1 : Int32) (0 : Int32) h49 n0 (Nat.le_trans Z0 K49.1) f_61 f_62 f_63 f_64 f_65 f_66 f_67 f_68 (own_nz hc) (Nat.ne_of_lt (Nat.lt_of_lt_of_le E_a1.lt sz_b23)) (Nat.ne_of_lt (Nat.lt_of_lt_of_le E_d2.lt sz_b23)) g_b23 (by decide) (by decide) (own_ix (by decide) (own_116 hr hc)) (fun i60 T60 h60 l60 X60 e60 N60 Kc60 V60 => ?_) (p3 * p4).toNatClampNeg (0 : Int32) _ _ _ (by simp only [Int32.toNatClampNeg]; show _ ≤ 0 + _; omega) (by decide) X49 e49 N49 (Keep.refl _ _) V49
  have K60 : Keep h0 h60 [a1] := K49.trans Kc60 (allS (Or.inr sz_b23) all0)
  show Go p e below _ (T60.setTop (mkF m 165 #[.val (.ref a1), .val (.ref a2), .val (.int p3), .val (.int p4), .val (.int (p3 * p4)), .val (.ref b3_31), .val (.int (8 : Int32)), .val (.int (2 : Int32)), .val (.ref d2), .val (.int i60)] []))
  refine Go.st (fun _ kk => XS.iinc X60.here hx rfl (hb hby d1_165) rfl (l' := #[.val (.ref a1), .val (.ref a2), .val (.int p3), .val (.int p4), .val (.int (p3 * p4)), .val (.ref b3_31), .val (.int (8 : Int32)), .val (.int (3 : Int32)), .val (.ref d2), .val (.int i60)]) rfl kk) ?_
  show Go p e below _ (T60.setTop (mkF m 168 #[.val (.ref a1), .val (.ref a2), .val (.int p3), .val (.int p4), .val (.int (p3 * p4)), .val (.ref b3_31), .val (.int (8 : Int32)), .val (.int (3 : Int32)), .val (.ref d2), .val (.int i60)] []))
  refine Go.st (fun _ kk => XS.goto X60.here hx rfl (pc0 := 168) (pc' := 103) rfl (hb hby d1_168) (by decide) (by decide) kk) ?_
  show Go p e below _ (T60.setTop (mkF m 103 #[.val (.ref a1), .val (.ref a2), .val (.int p3), .val (.int p4), .val (.int (p3 * p4)), .val (.ref b3_31), .val (.int (8 : Int32)), .val (.int (3 : Int32)), .val (.ref d2), .val (.int i60)] []))
  refine Go.st (fun _ kk => XS.iload X60.here hx rfl (hb hby d1_103) rfl  kk) ?_
  show Go p e below _ (T60.setTop (mkF m 105 #[.val (.ref a1), .val (.ref a2), .val (.int p3), .val (.int p4), .val (.int (p3 * p4)), .val (.ref b3_31), .val (.int (8 : Int32)), .val (.int (3 : Int32)), .val (.ref d2), .val (.int i60)] [(.int (3 : Int32))]))
  refine Go.st (fun _ kk => XS.iload X60.here hx rfl (hb hby d1_105) rfl  kk) ?_
  show Go p e below _ (T60.setTop (mkF m 107 #[.val (.ref a1), .val (.ref a2), .val (.int p3), .val (.int p4), .val (.int (p3 * p4)), .val (.ref b3_31), .val (.int (8 : Int32)), .val (.int (3 : Int32)), .val (.ref d2), .val (.int i60)] [(.int (8 : Int32)), (.int (3 : Int32))]))
  refine Go.st (fun _ kk => XS.icmpNo X60.here hx rfl (hb hby d1_107) rfl (tlt (by decide : ((3 : Int32) < (8 : Int32)))).2.1 kk) ?_
  show Go p e below _ (T60.setTop (mkF m 110 #[.val (.ref a1), .val (.ref a2), .val (.int p3), .val (.int p4), .val (.int (p3 * p4)), .val (.ref b3_31), .val (.int (8 : Int32)), .val (.int (3 : Int32)), .val (.ref d2), .val (.int i60)] []))
  refine Go.st (fun _ kk => XS.aload X60.here hx rfl (hb hby d1_110) rfl rfl  kk) ?_
  show Go p e below _ (T60.setTop (mkF m 112 #[.val (.ref a1), .val (.ref a2), .val (.int p3), .val (.int p4), .val (.int (p3 * p4)), .val (.ref b3_31), .val (.int (8 : Int32)), .val (.int (3 : Int32)), .val (.ref d2), .val (.int i60)] [(.ref b3_31)]))
  refine Go.st (fun _ kk => XS.iload X60.here hx rfl (hb hby d1_112) rfl  kk) ?_
  show Go p e below _ (T60.setTop (mkF m 114 #[.val (.ref a1), .val (.ref a2), .val (.int p3), .val (.int p4), .val (.int (p3 * p4)), .val (.ref b3_31), .val (.int (8 : Int32)), .val (.int (3 : Int32)), .val (.ref d2), .val (.int i60)] [(.int (3 : Int32)), (.ref b3_31)]))
  have f_69 := (f_58.keep Kc60 (ninS (Ne.symm (Nat.ne_of_lt lt_b23_b3_31)) nin0))
  obtain ⟨clq70, Arq70, caq70, saq70, naq70, haq70, gaq70⟩ := id f_69
  have inq70 : ¬ ((3 : Int32) < 0 ∨ clq70.slots.size ≤ ((3 : Int32)).toNatClampNeg) := inb_of saq70 ⟨by decide, by decide⟩
  have atq70 : clq70.slots[((3 : Int32)).toNatClampNeg]? = some (.ref d3) := haq70.at inq70 rfl
  refine Go.st (fun _ kk => X60.aaload hx (j := (3 : Int32)) (v := (.ref d3)) (by rw [e60]; exact Arq70.1) (State.isArrayOf_alike hZ.alike Arq70.2.1) rfl Arq70.2.2 inq70 atq70 (g := (mkF m 114 #[.val (.ref a1), .val (.ref a2), .val (.int p3), .val (.int p4), .val (.int (p3 * p4)), .val (.ref b3_31), .val (.int (8 : Int32)), .val (.int (3 : Int32)), .val (.ref d2), .val (.int i60)] [(.int (3 : Int32)), (.ref b3_31)])) rfl rfl (hb hby d1_114) _ kk) ?_
  show Go p e below _ (T60.setTop (mkF m 115 #[.val (.ref a1), .val (.ref a2), .val (.int p3), .val (.int p4), .val (.int (p3 * p4)), .val (.ref b3_31), .val (.int (8 : Int32)), .val (.int (3 : Int32)), .val (.ref d2), .val (.int i60)] [(.ref d3)]))
  refine Go.st (fun _ kk => XS.astore X60.here hx rfl (hb hby d1_115) rfl rfl (l' := #[.val (.ref a1), .val (.ref a2), .val (.int p3), .val (.int p4), .val (.int (p3 * p4)), .val (.ref b3_31), .val (.int (8 : Int32)), .val (.int (3 : Int32)), .val (.ref d3), .val (.int i60)]) rfl kk) ?_
  show Go p e below _ (T60.setTop (mkF m 117 #[.val (.ref a1), .val (.ref a2), .val (.int p3), .val (.int p4), .val (.int (p3 * p4)), .val (.ref b3_31), .val (.int (8 : Int32)), .val (.int (3 : Int32)), .val (.ref d3), .val (.int i60)] []))
  refine Go.st (fun _ kk => XS.iconst X60.here hx rfl (hb hby d1_117) kk) ?_
  show Go p e below _ (T60.setTop (mkF m 118 #[.val (.ref a1), .val (.ref a2), .val (.int p3), .val (.int p4), .val (.int (p3 * p4)), .val (.ref b3_31), .val (.int (8 : Int32)), .val (.int (3 : Int32)), .val (.ref d3), .val (.int i60)] [(.int (0 : Int32))]))
  refine Go.st (fun _ kk => XS.istore X60.here hx rfl (hb hby d1_118) rfl (l' := #[.val (.ref a1), .val (.ref a2), .val (.int p3), .val (.int p4), .val (.int (p3 * p4)), .val (.ref b3_31), .val (.int (8 : Int32)), .val (.int (3 : Int32)), .val (.ref d3), .val (.int (0 : Int32))]) rfl kk) ?_
  show Go p e below _ (T60.setTop (mkF m 120 #[.val (.ref a1), .val (.ref a2), .val (.int p3), .val (.int p4), .val (.int (p3 * p4)), .val (.ref b3_31), .val (.int (8 : Int32)), .val (.int (3 : Int32)), .val (.ref d3), .val (.int (0 : Int32))] []))
  have f_72 := (f_61.keep Kc60)
  have f_73 := (f_62.keep Kc60 (ninS (Nat.ne_of_lt (Nat.lt_of_lt_of_le E_a1.lt sz_b23)) nin0))
  have f_74 := (f_63.keep Kc60 (ninS (Nat.ne_of_lt (Nat.lt_of_lt_of_le E_a1.lt sz_b23)) nin0))
  have f_75 := (f_64.keep Kc60 (ninS (Nat.ne_of_lt (Nat.lt_of_lt_of_le E_a1.lt sz_b23)) nin0))
  have f_76 := (E_d3.keep K60)
  have f_77 := (F_ordinal_d3.keep K60 (ninS (ne_exa f_76 f_72 (by decide)) nin0))
  have f_78 := (F_columnStep_d3.keep K60 (ninS (ne_exa f_76 f_72 (by decide)) nin0))
  have f_79 := (F_rowStep_d3.keep K60 (ninS (ne_exa f_76 f_72 (by decide)) nin0))
  refine own_inner hx hZ hw hby hml hown a1 a2 p3 p4 (p3 * p4) b3_31 (8 : Int32) (3 : Int32) d3 b23 ((8 : Int32) * (p3 * p4)) p4 p3 (3 : Int32) (1 : Int32) (-1 : Int32) h60 n0 (Nat.le_trans Z0 K60.1) f_72 f_73 f_74 f_75 f_76 f_77 f_78 f_79 (own_nz hc) (Nat.ne_of_lt (Nat.lt_of_lt_of_le E_a1.lt sz_b23)) (Nat.ne_of_lt (Nat.lt_of_lt_of_le E_d3.lt sz_b23)) g_b23 (by decide) (by decide) (own_ix (by decide) (own_116 hr hc)) (fun i71 T71 h71 l71 X71 e71 N71 Kc71 V71 => ?_) (p3 * p4).toNatClampNeg (0 : Int32) _ _ _ (by simp only [Int32.toNatClampNeg]; show _ ≤ 0 + _; omega) (by decide) X60 e60 N60 (Keep.refl _ _) V60
  have K71 : Keep h0 h71 [a1] := K60.trans Kc71 (allS (Or.inr sz_b23) all0)
  show Go p e below _ (T71.setTop (mkF m 165 #[.val (.ref a1), .val (.ref a2), .val (.int p3), .val (.int p4), .val (.int (p3 * p4)), .val (.ref b3_31), .val (.int (8 : Int32)), .val (.int (3 : Int32)), .val (.ref d3), .val (.int i71)] []))
  refine Go.st (fun _ kk => XS.iinc X71.here hx rfl (hb hby d1_165) rfl (l' := #[.val (.ref a1), .val (.ref a2), .val (.int p3), .val (.int p4), .val (.int (p3 * p4)), .val (.ref b3_31), .val (.int (8 : Int32)), .val (.int (4 : Int32)), .val (.ref d3), .val (.int i71)]) rfl kk) ?_
  show Go p e below _ (T71.setTop (mkF m 168 #[.val (.ref a1), .val (.ref a2), .val (.int p3), .val (.int p4), .val (.int (p3 * p4)), .val (.ref b3_31), .val (.int (8 : Int32)), .val (.int (4 : Int32)), .val (.ref d3), .val (.int i71)] []))
  refine Go.st (fun _ kk => XS.goto X71.here hx rfl (pc0 := 168) (pc' := 103) rfl (hb hby d1_168) (by decide) (by decide) kk) ?_
  show Go p e below _ (T71.setTop (mkF m 103 #[.val (.ref a1), .val (.ref a2), .val (.int p3), .val (.int p4), .val (.int (p3 * p4)), .val (.ref b3_31), .val (.int (8 : Int32)), .val (.int (4 : Int32)), .val (.ref d3), .val (.int i71)] []))
  refine Go.st (fun _ kk => XS.iload X71.here hx rfl (hb hby d1_103) rfl  kk) ?_
  show Go p e below _ (T71.setTop (mkF m 105 #[.val (.ref a1), .val (.ref a2), .val (.int p3), .val (.int p4), .val (.int (p3 * p4)), .val (.ref b3_31), .val (.int (8 : Int32)), .val (.int (4 : Int32)), .val (.ref d3), .val (.int i71)] [(.int (4 : Int32))]))
  refine Go.st (fun _ kk => XS.iload X71.here hx rfl (hb hby d1_105) rfl  kk) ?_
  show Go p e below _ (T71.setTop (mkF m 107 #[.val (.ref a1), .val (.ref a2), .val (.int p3), .val (.int p4), .val (.int (p3 * p4)), .val (.ref b3_31), .val (.int (8 : Int32)), .val (.int (4 : Int32)), .val (.ref d3), .val (.int i71)] [(.int (8 : Int32)), (.int (4 : Int32))]))
  refine Go.st (fun _ kk => XS.icmpNo X71.here hx rfl (hb hby d1_107) rfl (tlt (by decide : ((4 : Int32) < (8 : Int32)))).2.1 kk) ?_
  show Go p e below _ (T71.setTop (mkF m 110 #[.val (.ref a1), .val (.ref a2), .val (.int p3), .val (.int p4), .val (.int (p3 * p4)), .val (.ref b3_31), .val (.int (8 : Int32)), .val (.int (4 : Int32)), .val (.ref d3), .val (.int i71)] []))
  refine Go.st (fun _ kk => XS.aload X71.here hx rfl (hb hby d1_110) rfl rfl  kk) ?_
  show Go p e below _ (T71.setTop (mkF m 112 #[.val (.ref a1), .val (.ref a2), .val (.int p3), .val (.int p4), .val (.int (p3 * p4)), .val (.ref b3_31), .val (.int (8 : Int32)), .val (.int (4 : Int32)), .val (.ref d3), .val (.int i71)] [(.ref b3_31)]))
  refine Go.st (fun _ kk => XS.iload X71.here hx rfl (hb hby d1_112) rfl  kk) ?_
  show Go p e below _ (T71.setTop (mkF m 114 #[.val (.ref a1), .val (.ref a2), .val (.int p3), .val (.int p4), .val (.int (p3 * p4)), .val (.ref b3_31), .val (.int (8 : Int32)), .val (.int (4 : Int32)), .val (.ref d3), .val (.int i71)] [(.int (4 : Int32)), (.ref b3_31)]))
  have f_80 := (f_69.keep Kc71 (ninS (Ne.symm (Nat.ne_of_lt lt_b23_b3_31)) nin0))
  obtain ⟨clq81, Arq81, caq81, saq81, naq81, haq81, gaq81⟩ := id f_80
  have inq81 : ¬ ((4 : Int32) < 0 ∨ clq81.slots.size ≤ ((4 : Int32)).toNatClampNeg) := inb_of saq81 ⟨by decide, by decide⟩
  have atq81 : clq81.slots[((4 : Int32)).toNatClampNeg]? = some (.ref d4) := haq81.at inq81 rfl
  refine Go.st (fun _ kk => X71.aaload hx (j := (4 : Int32)) (v := (.ref d4)) (by rw [e71]; exact Arq81.1) (State.isArrayOf_alike hZ.alike Arq81.2.1) rfl Arq81.2.2 inq81 atq81 (g := (mkF m 114 #[.val (.ref a1), .val (.ref a2), .val (.int p3), .val (.int p4), .val (.int (p3 * p4)), .val (.ref b3_31), .val (.int (8 : Int32)), .val (.int (4 : Int32)), .val (.ref d3), .val (.int i71)] [(.int (4 : Int32)), (.ref b3_31)])) rfl rfl (hb hby d1_114) _ kk) ?_
  show Go p e below _ (T71.setTop (mkF m 115 #[.val (.ref a1), .val (.ref a2), .val (.int p3), .val (.int p4), .val (.int (p3 * p4)), .val (.ref b3_31), .val (.int (8 : Int32)), .val (.int (4 : Int32)), .val (.ref d3), .val (.int i71)] [(.ref d4)]))
  refine Go.st (fun _ kk => XS.astore X71.here hx rfl (hb hby d1_115) rfl rfl (l' := #[.val (.ref a1), .val (.ref a2), .val (.int p3), .val (.int p4), .val (.int (p3 * p4)), .val (.ref b3_31), .val (.int (8 : Int32)), .val (.int (4 : Int32)), .val (.ref d4), .val (.int i71)]) rfl kk) ?_
  show Go p e below _ (T71.setTop (mkF m 117 #[.val (.ref a1), .val (.ref a2), .val (.int p3), .val (.int p4), .val (.int (p3 * p4)), .val (.ref b3_31), .val (.int (8 : Int32)), .val (.int (4 : Int32)), .val (.ref d4), .val (.int i71)] []))
  refine Go.st (fun _ kk => XS.iconst X71.here hx rfl (hb hby d1_117) kk) ?_
  show Go p e below _ (T71.setTop (mkF m 118 #[.val (.ref a1), .val (.ref a2), .val (.int p3), .val (.int p4), .val (.int (p3 * p4)), .val (.ref b3_31), .val (.int (8 : Int32)), .val (.int (4 : Int32)), .val (.ref d4), .val (.int i71)] [(.int (0 : Int32))]))
  refine Go.st (fun _ kk => XS.istore X71.here hx rfl (hb hby d1_118) rfl (l' := #[.val (.ref a1), .val (.ref a2), .val (.int p3), .val (.int p4), .val (.int (p3 * p4)), .val (.ref b3_31), .val (.int (8 : Int32)), .val (.int (4 : Int32)), .val (.ref d4), .val (.int (0 : Int32))]) rfl kk) ?_
  show Go p e below _ (T71.setTop (mkF m 120 #[.val (.ref a1), .val (.ref a2), .val (.int p3), .val (.int p4), .val (.int (p3 * p4)), .val (.ref b3_31), .val (.int (8 : Int32)), .val (.int (4 : Int32)), .val (.ref d4), .val (.int (0 : Int32))] []))
  have f_83 := (f_72.keep Kc71)
  have f_84 := (f_73.keep Kc71 (ninS (Nat.ne_of_lt (Nat.lt_of_lt_of_le E_a1.lt sz_b23)) nin0))
  have f_85 := (f_74.keep Kc71 (ninS (Nat.ne_of_lt (Nat.lt_of_lt_of_le E_a1.lt sz_b23)) nin0))
  have f_86 := (f_75.keep Kc71 (ninS (Nat.ne_of_lt (Nat.lt_of_lt_of_le E_a1.lt sz_b23)) nin0))
  have f_87 := (E_d4.keep K71)
  have f_88 := (F_ordinal_d4.keep K71 (ninS (ne_exa f_87 f_83 (by decide)) nin0))
  have f_89 := (F_columnStep_d4.keep K71 (ninS (ne_exa f_87 f_83 (by decide)) nin0))
  have f_90 := (F_rowStep_d4.keep K71 (ninS (ne_exa f_87 f_83 (by decide)) nin0))
  refine own_inner hx hZ hw hby hml hown a1 a2 p3 p4 (p3 * p4) b3_31 (8 : Int32) (4 : Int32) d4 b23 ((8 : Int32) * (p3 * p4)) p4 p3 (4 : Int32) (0 : Int32) (-1 : Int32) h71 n0 (Nat.le_trans Z0 K71.1) f_83 f_84 f_85 f_86 f_87 f_88 f_89 f_90 (own_nz hc) (Nat.ne_of_lt (Nat.lt_of_lt_of_le E_a1.lt sz_b23)) (Nat.ne_of_lt (Nat.lt_of_lt_of_le E_d4.lt sz_b23)) g_b23 (by decide) (by decide) (own_ix (by decide) (own_116 hr hc)) (fun i82 T82 h82 l82 X82 e82 N82 Kc82 V82 => ?_) (p3 * p4).toNatClampNeg (0 : Int32) _ _ _ (by simp only [Int32.toNatClampNeg]; show _ ≤ 0 + _; omega) (by decide) X71 e71 N71 (Keep.refl _ _) V71
  have K82 : Keep h0 h82 [a1] := K71.trans Kc82 (allS (Or.inr sz_b23) all0)
  show Go p e below _ (T82.setTop (mkF m 165 #[.val (.ref a1), .val (.ref a2), .val (.int p3), .val (.int p4), .val (.int (p3 * p4)), .val (.ref b3_31), .val (.int (8 : Int32)), .val (.int (4 : Int32)), .val (.ref d4), .val (.int i82)] []))
  refine Go.st (fun _ kk => XS.iinc X82.here hx rfl (hb hby d1_165) rfl (l' := #[.val (.ref a1), .val (.ref a2), .val (.int p3), .val (.int p4), .val (.int (p3 * p4)), .val (.ref b3_31), .val (.int (8 : Int32)), .val (.int (5 : Int32)), .val (.ref d4), .val (.int i82)]) rfl kk) ?_
  show Go p e below _ (T82.setTop (mkF m 168 #[.val (.ref a1), .val (.ref a2), .val (.int p3), .val (.int p4), .val (.int (p3 * p4)), .val (.ref b3_31), .val (.int (8 : Int32)), .val (.int (5 : Int32)), .val (.ref d4), .val (.int i82)] []))
  refine Go.st (fun _ kk => XS.goto X82.here hx rfl (pc0 := 168) (pc' := 103) rfl (hb hby d1_168) (by decide) (by decide) kk) ?_
  show Go p e below _ (T82.setTop (mkF m 103 #[.val (.ref a1), .val (.ref a2), .val (.int p3), .val (.int p4), .val (.int (p3 * p4)), .val (.ref b3_31), .val (.int (8 : Int32)), .val (.int (5 : Int32)), .val (.ref d4), .val (.int i82)] []))
  refine Go.st (fun _ kk => XS.iload X82.here hx rfl (hb hby d1_103) rfl  kk) ?_
  show Go p e below _ (T82.setTop (mkF m 105 #[.val (.ref a1), .val (.ref a2), .val (.int p3), .val (.int p4), .val (.int (p3 * p4)), .val (.ref b3_31), .val (.int (8 : Int32)), .val (.int (5 : Int32)), .val (.ref d4), .val (.int i82)] [(.int (5 : Int32))]))
  refine Go.st (fun _ kk => XS.iload X82.here hx rfl (hb hby d1_105) rfl  kk) ?_
  show Go p e below _ (T82.setTop (mkF m 107 #[.val (.ref a1), .val (.ref a2), .val (.int p3), .val (.int p4), .val (.int (p3 * p4)), .val (.ref b3_31), .val (.int (8 : Int32)), .val (.int (5 : Int32)), .val (.ref d4), .val (.int i82)] [(.int (8 : Int32)), (.int (5 : Int32))]))
  refine Go.st (fun _ kk => XS.icmpNo X82.here hx rfl (hb hby d1_107) rfl (tlt (by decide : ((5 : Int32) < (8 : Int32)))).2.1 kk) ?_
  show Go p e below _ (T82.setTop (mkF m 110 #[.val (.ref a1), .val (.ref a2), .val (.int p3), .val (.int p4), .val (.int (p3 * p4)), .val (.ref b3_31), .val (.int (8 : Int32)), .val (.int (5 : Int32)), .val (.ref d4), .val (.int i82)] []))
  refine Go.st (fun _ kk => XS.aload X82.here hx rfl (hb hby d1_110) rfl rfl  kk) ?_
  show Go p e below _ (T82.setTop (mkF m 112 #[.val (.ref a1), .val (.ref a2), .val (.int p3), .val (.int p4), .val (.int (p3 * p4)), .val (.ref b3_31), .val (.int (8 : Int32)), .val (.int (5 : Int32)), .val (.ref d4), .val (.int i82)] [(.ref b3_31)]))
  refine Go.st (fun _ kk => XS.iload X82.here hx rfl (hb hby d1_112) rfl  kk) ?_
  show Go p e below _ (T82.setTop (mkF m 114 #[.val (.ref a1), .val (.ref a2), .val (.int p3), .val (.int p4), .val (.int (p3 * p4)), .val (.ref b3_31), .val (.int (8 : Int32)), .val (.int (5 : Int32)), .val (.ref d4), .val (.int i82)] [(.int (5 : Int32)), (.ref b3_31)]))
  have f_91 := (f_80.keep Kc82 (ninS (Ne.symm (Nat.ne_of_lt lt_b23_b3_31)) nin0))
  obtain ⟨clq92, Arq92, caq92, saq92, naq92, haq92, gaq92⟩ := id f_91
  have inq92 : ¬ ((5 : Int32) < 0 ∨ clq92.slots.size ≤ ((5 : Int32)).toNatClampNeg) := inb_of saq92 ⟨by decide, by decide⟩
  have atq92 : clq92.slots[((5 : Int32)).toNatClampNeg]? = some (.ref d5) := haq92.at inq92 rfl
  refine Go.st (fun _ kk => X82.aaload hx (j := (5 : Int32)) (v := (.ref d5)) (by rw [e82]; exact Arq92.1) (State.isArrayOf_alike hZ.alike Arq92.2.1) rfl Arq92.2.2 inq92 atq92 (g := (mkF m 114 #[.val (.ref a1), .val (.ref a2), .val (.int p3), .val (.int p4), .val (.int (p3 * p4)), .val (.ref b3_31), .val (.int (8 : Int32)), .val (.int (5 : Int32)), .val (.ref d4), .val (.int i82)] [(.int (5 : Int32)), (.ref b3_31)])) rfl rfl (hb hby d1_114) _ kk) ?_
  show Go p e below _ (T82.setTop (mkF m 115 #[.val (.ref a1), .val (.ref a2), .val (.int p3), .val (.int p4), .val (.int (p3 * p4)), .val (.ref b3_31), .val (.int (8 : Int32)), .val (.int (5 : Int32)), .val (.ref d4), .val (.int i82)] [(.ref d5)]))
  refine Go.st (fun _ kk => XS.astore X82.here hx rfl (hb hby d1_115) rfl rfl (l' := #[.val (.ref a1), .val (.ref a2), .val (.int p3), .val (.int p4), .val (.int (p3 * p4)), .val (.ref b3_31), .val (.int (8 : Int32)), .val (.int (5 : Int32)), .val (.ref d5), .val (.int i82)]) rfl kk) ?_
  show Go p e below _ (T82.setTop (mkF m 117 #[.val (.ref a1), .val (.ref a2), .val (.int p3), .val (.int p4), .val (.int (p3 * p4)), .val (.ref b3_31), .val (.int (8 : Int32)), .val (.int (5 : Int32)), .val (.ref d5), .val (.int i82)] []))
  refine Go.st (fun _ kk => XS.iconst X82.here hx rfl (hb hby d1_117) kk) ?_
  show Go p e below _ (T82.setTop (mkF m 118 #[.val (.ref a1), .val (.ref a2), .val (.int p3), .val (.int p4), .val (.int (p3 * p4)), .val (.ref b3_31), .val (.int (8 : Int32)), .val (.int (5 : Int32)), .val (.ref d5), .val (.int i82)] [(.int (0 : Int32))]))
  refine Go.st (fun _ kk => XS.istore X82.here hx rfl (hb hby d1_118) rfl (l' := #[.val (.ref a1), .val (.ref a2), .val (.int p3), .val (.int p4), .val (.int (p3 * p4)), .val (.ref b3_31), .val (.int (8 : Int32)), .val (.int (5 : Int32)), .val (.ref d5), .val (.int (0 : Int32))]) rfl kk) ?_
  show Go p e below _ (T82.setTop (mkF m 120 #[.val (.ref a1), .val (.ref a2), .val (.int p3), .val (.int p4), .val (.int (p3 * p4)), .val (.ref b3_31), .val (.int (8 : Int32)), .val (.int (5 : Int32)), .val (.ref d5), .val (.int (0 : Int32))] []))
  have f_94 := (f_83.keep Kc82)
  have f_95 := (f_84.keep Kc82 (ninS (Nat.ne_of_lt (Nat.lt_of_lt_of_le E_a1.lt sz_b23)) nin0))
  have f_96 := (f_85.keep Kc82 (ninS (Nat.ne_of_lt (Nat.lt_of_lt_of_le E_a1.lt sz_b23)) nin0))
  have f_97 := (f_86.keep Kc82 (ninS (Nat.ne_of_lt (Nat.lt_of_lt_of_le E_a1.lt sz_b23)) nin0))
  have f_98 := (E_d5.keep K82)
  have f_99 := (F_ordinal_d5.keep K82 (ninS (ne_exa f_98 f_94 (by decide)) nin0))
  have f_100 := (F_columnStep_d5.keep K82 (ninS (ne_exa f_98 f_94 (by decide)) nin0))
  have f_101 := (F_rowStep_d5.keep K82 (ninS (ne_exa f_98 f_94 (by decide)) nin0))
  refine own_inner hx hZ hw hby hml hown a1 a2 p3 p4 (p3 * p4) b3_31 (8 : Int32) (5 : Int32) d5 b23 ((8 : Int32) * (p3 * p4)) p4 p3 (5 : Int32) (-1 : Int32) (-1 : Int32) h82 n0 (Nat.le_trans Z0 K82.1) f_94 f_95 f_96 f_97 f_98 f_99 f_100 f_101 (own_nz hc) (Nat.ne_of_lt (Nat.lt_of_lt_of_le E_a1.lt sz_b23)) (Nat.ne_of_lt (Nat.lt_of_lt_of_le E_d5.lt sz_b23)) g_b23 (by decide) (by decide) (own_ix (by decide) (own_116 hr hc)) (fun i93 T93 h93 l93 X93 e93 N93 Kc93 V93 => ?_) (p3 * p4).toNatClampNeg (0 : Int32) _ _ _ (by simp only [Int32.toNatClampNeg]; show _ ≤ 0 + _; omega) (by decide) X82 e82 N82 (Keep.refl _ _) V82
  have K93 : Keep h0 h93 [a1] := K82.trans Kc93 (allS (Or.inr sz_b23) all0)
  show Go p e below _ (T93.setTop (mkF m 165 #[.val (.ref a1), .val (.ref a2), .val (.int p3), .val (.int p4), .val (.int (p3 * p4)), .val (.ref b3_31), .val (.int (8 : Int32)), .val (.int (5 : Int32)), .val (.ref d5), .val (.int i93)] []))
  refine Go.st (fun _ kk => XS.iinc X93.here hx rfl (hb hby d1_165) rfl (l' := #[.val (.ref a1), .val (.ref a2), .val (.int p3), .val (.int p4), .val (.int (p3 * p4)), .val (.ref b3_31), .val (.int (8 : Int32)), .val (.int (6 : Int32)), .val (.ref d5), .val (.int i93)]) rfl kk) ?_
  show Go p e below _ (T93.setTop (mkF m 168 #[.val (.ref a1), .val (.ref a2), .val (.int p3), .val (.int p4), .val (.int (p3 * p4)), .val (.ref b3_31), .val (.int (8 : Int32)), .val (.int (6 : Int32)), .val (.ref d5), .val (.int i93)] []))
  refine Go.st (fun _ kk => XS.goto X93.here hx rfl (pc0 := 168) (pc' := 103) rfl (hb hby d1_168) (by decide) (by decide) kk) ?_
  show Go p e below _ (T93.setTop (mkF m 103 #[.val (.ref a1), .val (.ref a2), .val (.int p3), .val (.int p4), .val (.int (p3 * p4)), .val (.ref b3_31), .val (.int (8 : Int32)), .val (.int (6 : Int32)), .val (.ref d5), .val (.int i93)] []))
  refine Go.st (fun _ kk => XS.iload X93.here hx rfl (hb hby d1_103) rfl  kk) ?_
  show Go p e below _ (T93.setTop (mkF m 105 #[.val (.ref a1), .val (.ref a2), .val (.int p3), .val (.int p4), .val (.int (p3 * p4)), .val (.ref b3_31), .val (.int (8 : Int32)), .val (.int (6 : Int32)), .val (.ref d5), .val (.int i93)] [(.int (6 : Int32))]))
  refine Go.st (fun _ kk => XS.iload X93.here hx rfl (hb hby d1_105) rfl  kk) ?_
  show Go p e below _ (T93.setTop (mkF m 107 #[.val (.ref a1), .val (.ref a2), .val (.int p3), .val (.int p4), .val (.int (p3 * p4)), .val (.ref b3_31), .val (.int (8 : Int32)), .val (.int (6 : Int32)), .val (.ref d5), .val (.int i93)] [(.int (8 : Int32)), (.int (6 : Int32))]))
  refine Go.st (fun _ kk => XS.icmpNo X93.here hx rfl (hb hby d1_107) rfl (tlt (by decide : ((6 : Int32) < (8 : Int32)))).2.1 kk) ?_
  show Go p e below _ (T93.setTop (mkF m 110 #[.val (.ref a1), .val (.ref a2), .val (.int p3), .val (.int p4), .val (.int (p3 * p4)), .val (.ref b3_31), .val (.int (8 : Int32)), .val (.int (6 : Int32)), .val (.ref d5), .val (.int i93)] []))
  refine Go.st (fun _ kk => XS.aload X93.here hx rfl (hb hby d1_110) rfl rfl  kk) ?_
  show Go p e below _ (T93.setTop (mkF m 112 #[.val (.ref a1), .val (.ref a2), .val (.int p3), .val (.int p4), .val (.int (p3 * p4)), .val (.ref b3_31), .val (.int (8 : Int32)), .val (.int (6 : Int32)), .val (.ref d5), .val (.int i93)] [(.ref b3_31)]))
  refine Go.st (fun _ kk => XS.iload X93.here hx rfl (hb hby d1_112) rfl  kk) ?_
  show Go p e below _ (T93.setTop (mkF m 114 #[.val (.ref a1), .val (.ref a2), .val (.int p3), .val (.int p4), .val (.int (p3 * p4)), .val (.ref b3_31), .val (.int (8 : Int32)), .val (.int (6 : Int32)), .val (.ref d5), .val (.int i93)] [(.int (6 : Int32)), (.ref b3_31)]))
  have f_102 := (f_91.keep Kc93 (ninS (Ne.symm (Nat.ne_of_lt lt_b23_b3_31)) nin0))
  obtain ⟨clq103, Arq103, caq103, saq103, naq103, haq103, gaq103⟩ := id f_102
  have inq103 : ¬ ((6 : Int32) < 0 ∨ clq103.slots.size ≤ ((6 : Int32)).toNatClampNeg) := inb_of saq103 ⟨by decide, by decide⟩
  have atq103 : clq103.slots[((6 : Int32)).toNatClampNeg]? = some (.ref d6) := haq103.at inq103 rfl
  refine Go.st (fun _ kk => X93.aaload hx (j := (6 : Int32)) (v := (.ref d6)) (by rw [e93]; exact Arq103.1) (State.isArrayOf_alike hZ.alike Arq103.2.1) rfl Arq103.2.2 inq103 atq103 (g := (mkF m 114 #[.val (.ref a1), .val (.ref a2), .val (.int p3), .val (.int p4), .val (.int (p3 * p4)), .val (.ref b3_31), .val (.int (8 : Int32)), .val (.int (6 : Int32)), .val (.ref d5), .val (.int i93)] [(.int (6 : Int32)), (.ref b3_31)])) rfl rfl (hb hby d1_114) _ kk) ?_
  show Go p e below _ (T93.setTop (mkF m 115 #[.val (.ref a1), .val (.ref a2), .val (.int p3), .val (.int p4), .val (.int (p3 * p4)), .val (.ref b3_31), .val (.int (8 : Int32)), .val (.int (6 : Int32)), .val (.ref d5), .val (.int i93)] [(.ref d6)]))
  refine Go.st (fun _ kk => XS.astore X93.here hx rfl (hb hby d1_115) rfl rfl (l' := #[.val (.ref a1), .val (.ref a2), .val (.int p3), .val (.int p4), .val (.int (p3 * p4)), .val (.ref b3_31), .val (.int (8 : Int32)), .val (.int (6 : Int32)), .val (.ref d6), .val (.int i93)]) rfl kk) ?_
  show Go p e below _ (T93.setTop (mkF m 117 #[.val (.ref a1), .val (.ref a2), .val (.int p3), .val (.int p4), .val (.int (p3 * p4)), .val (.ref b3_31), .val (.int (8 : Int32)), .val (.int (6 : Int32)), .val (.ref d6), .val (.int i93)] []))
  refine Go.st (fun _ kk => XS.iconst X93.here hx rfl (hb hby d1_117) kk) ?_
  show Go p e below _ (T93.setTop (mkF m 118 #[.val (.ref a1), .val (.ref a2), .val (.int p3), .val (.int p4), .val (.int (p3 * p4)), .val (.ref b3_31), .val (.int (8 : Int32)), .val (.int (6 : Int32)), .val (.ref d6), .val (.int i93)] [(.int (0 : Int32))]))
  refine Go.st (fun _ kk => XS.istore X93.here hx rfl (hb hby d1_118) rfl (l' := #[.val (.ref a1), .val (.ref a2), .val (.int p3), .val (.int p4), .val (.int (p3 * p4)), .val (.ref b3_31), .val (.int (8 : Int32)), .val (.int (6 : Int32)), .val (.ref d6), .val (.int (0 : Int32))]) rfl kk) ?_
  show Go p e below _ (T93.setTop (mkF m 120 #[.val (.ref a1), .val (.ref a2), .val (.int p3), .val (.int p4), .val (.int (p3 * p4)), .val (.ref b3_31), .val (.int (8 : Int32)), .val (.int (6 : Int32)), .val (.ref d6), .val (.int (0 : Int32))] []))
  have f_105 := (f_94.keep Kc93)
  have f_106 := (f_95.keep Kc93 (ninS (Nat.ne_of_lt (Nat.lt_of_lt_of_le E_a1.lt sz_b23)) nin0))
  have f_107 := (f_96.keep Kc93 (ninS (Nat.ne_of_lt (Nat.lt_of_lt_of_le E_a1.lt sz_b23)) nin0))
  have f_108 := (f_97.keep Kc93 (ninS (Nat.ne_of_lt (Nat.lt_of_lt_of_le E_a1.lt sz_b23)) nin0))
  have f_109 := (E_d6.keep K93)
  have f_110 := (F_ordinal_d6.keep K93 (ninS (ne_exa f_109 f_105 (by decide)) nin0))
  have f_111 := (F_columnStep_d6.keep K93 (ninS (ne_exa f_109 f_105 (by decide)) nin0))
  have f_112 := (F_rowStep_d6.keep K93 (ninS (ne_exa f_109 f_105 (by decide)) nin0))
  refine own_inner hx hZ hw hby hml hown a1 a2 p3 p4 (p3 * p4) b3_31 (8 : Int32) (6 : Int32) d6 b23 ((8 : Int32) * (p3 * p4)) p4 p3 (6 : Int32) (-1 : Int32) (0 : Int32) h93 n0 (Nat.le_trans Z0 K93.1) f_105 f_106 f_107 f_108 f_109 f_110 f_111 f_112 (own_nz hc) (Nat.ne_of_lt (Nat.lt_of_lt_of_le E_a1.lt sz_b23)) (Nat.ne_of_lt (Nat.lt_of_lt_of_le E_d6.lt sz_b23)) g_b23 (by decide) (by decide) (own_ix (by decide) (own_116 hr hc)) (fun i104 T104 h104 l104 X104 e104 N104 Kc104 V104 => ?_) (p3 * p4).toNatClampNeg (0 : Int32) _ _ _ (by simp only [Int32.toNatClampNeg]; show _ ≤ 0 + _; omega) (by decide) X93 e93 N93 (Keep.refl _ _) V93
  have K104 : Keep h0 h104 [a1] := K93.trans Kc104 (allS (Or.inr sz_b23) all0)
  show Go p e below _ (T104.setTop (mkF m 165 #[.val (.ref a1), .val (.ref a2), .val (.int p3), .val (.int p4), .val (.int (p3 * p4)), .val (.ref b3_31), .val (.int (8 : Int32)), .val (.int (6 : Int32)), .val (.ref d6), .val (.int i104)] []))
  refine Go.st (fun _ kk => XS.iinc X104.here hx rfl (hb hby d1_165) rfl (l' := #[.val (.ref a1), .val (.ref a2), .val (.int p3), .val (.int p4), .val (.int (p3 * p4)), .val (.ref b3_31), .val (.int (8 : Int32)), .val (.int (7 : Int32)), .val (.ref d6), .val (.int i104)]) rfl kk) ?_
  show Go p e below _ (T104.setTop (mkF m 168 #[.val (.ref a1), .val (.ref a2), .val (.int p3), .val (.int p4), .val (.int (p3 * p4)), .val (.ref b3_31), .val (.int (8 : Int32)), .val (.int (7 : Int32)), .val (.ref d6), .val (.int i104)] []))
  refine Go.st (fun _ kk => XS.goto X104.here hx rfl (pc0 := 168) (pc' := 103) rfl (hb hby d1_168) (by decide) (by decide) kk) ?_
  show Go p e below _ (T104.setTop (mkF m 103 #[.val (.ref a1), .val (.ref a2), .val (.int p3), .val (.int p4), .val (.int (p3 * p4)), .val (.ref b3_31), .val (.int (8 : Int32)), .val (.int (7 : Int32)), .val (.ref d6), .val (.int i104)] []))
  refine Go.st (fun _ kk => XS.iload X104.here hx rfl (hb hby d1_103) rfl  kk) ?_
  show Go p e below _ (T104.setTop (mkF m 105 #[.val (.ref a1), .val (.ref a2), .val (.int p3), .val (.int p4), .val (.int (p3 * p4)), .val (.ref b3_31), .val (.int (8 : Int32)), .val (.int (7 : Int32)), .val (.ref d6), .val (.int i104)] [(.int (7 : Int32))]))
  refine Go.st (fun _ kk => XS.iload X104.here hx rfl (hb hby d1_105) rfl  kk) ?_
  show Go p e below _ (T104.setTop (mkF m 107 #[.val (.ref a1), .val (.ref a2), .val (.int p3), .val (.int p4), .val (.int (p3 * p4)), .val (.ref b3_31), .val (.int (8 : Int32)), .val (.int (7 : Int32)), .val (.ref d6), .val (.int i104)] [(.int (8 : Int32)), (.int (7 : Int32))]))
  refine Go.st (fun _ kk => XS.icmpNo X104.here hx rfl (hb hby d1_107) rfl (tlt (by decide : ((7 : Int32) < (8 : Int32)))).2.1 kk) ?_
  show Go p e below _ (T104.setTop (mkF m 110 #[.val (.ref a1), .val (.ref a2), .val (.int p3), .val (.int p4), .val (.int (p3 * p4)), .val (.ref b3_31), .val (.int (8 : Int32)), .val (.int (7 : Int32)), .val (.ref d6), .val (.int i104)] []))
  refine Go.st (fun _ kk => XS.aload X104.here hx rfl (hb hby d1_110) rfl rfl  kk) ?_
  show Go p e below _ (T104.setTop (mkF m 112 #[.val (.ref a1), .val (.ref a2), .val (.int p3), .val (.int p4), .val (.int (p3 * p4)), .val (.ref b3_31), .val (.int (8 : Int32)), .val (.int (7 : Int32)), .val (.ref d6), .val (.int i104)] [(.ref b3_31)]))
  refine Go.st (fun _ kk => XS.iload X104.here hx rfl (hb hby d1_112) rfl  kk) ?_
  show Go p e below _ (T104.setTop (mkF m 114 #[.val (.ref a1), .val (.ref a2), .val (.int p3), .val (.int p4), .val (.int (p3 * p4)), .val (.ref b3_31), .val (.int (8 : Int32)), .val (.int (7 : Int32)), .val (.ref d6), .val (.int i104)] [(.int (7 : Int32)), (.ref b3_31)]))
  have f_113 := (f_102.keep Kc104 (ninS (Ne.symm (Nat.ne_of_lt lt_b23_b3_31)) nin0))
  obtain ⟨clq114, Arq114, caq114, saq114, naq114, haq114, gaq114⟩ := id f_113
  have inq114 : ¬ ((7 : Int32) < 0 ∨ clq114.slots.size ≤ ((7 : Int32)).toNatClampNeg) := inb_of saq114 ⟨by decide, by decide⟩
  have atq114 : clq114.slots[((7 : Int32)).toNatClampNeg]? = some (.ref d7) := haq114.at inq114 rfl
  refine Go.st (fun _ kk => X104.aaload hx (j := (7 : Int32)) (v := (.ref d7)) (by rw [e104]; exact Arq114.1) (State.isArrayOf_alike hZ.alike Arq114.2.1) rfl Arq114.2.2 inq114 atq114 (g := (mkF m 114 #[.val (.ref a1), .val (.ref a2), .val (.int p3), .val (.int p4), .val (.int (p3 * p4)), .val (.ref b3_31), .val (.int (8 : Int32)), .val (.int (7 : Int32)), .val (.ref d6), .val (.int i104)] [(.int (7 : Int32)), (.ref b3_31)])) rfl rfl (hb hby d1_114) _ kk) ?_
  show Go p e below _ (T104.setTop (mkF m 115 #[.val (.ref a1), .val (.ref a2), .val (.int p3), .val (.int p4), .val (.int (p3 * p4)), .val (.ref b3_31), .val (.int (8 : Int32)), .val (.int (7 : Int32)), .val (.ref d6), .val (.int i104)] [(.ref d7)]))
  refine Go.st (fun _ kk => XS.astore X104.here hx rfl (hb hby d1_115) rfl rfl (l' := #[.val (.ref a1), .val (.ref a2), .val (.int p3), .val (.int p4), .val (.int (p3 * p4)), .val (.ref b3_31), .val (.int (8 : Int32)), .val (.int (7 : Int32)), .val (.ref d7), .val (.int i104)]) rfl kk) ?_
  show Go p e below _ (T104.setTop (mkF m 117 #[.val (.ref a1), .val (.ref a2), .val (.int p3), .val (.int p4), .val (.int (p3 * p4)), .val (.ref b3_31), .val (.int (8 : Int32)), .val (.int (7 : Int32)), .val (.ref d7), .val (.int i104)] []))
  refine Go.st (fun _ kk => XS.iconst X104.here hx rfl (hb hby d1_117) kk) ?_
  show Go p e below _ (T104.setTop (mkF m 118 #[.val (.ref a1), .val (.ref a2), .val (.int p3), .val (.int p4), .val (.int (p3 * p4)), .val (.ref b3_31), .val (.int (8 : Int32)), .val (.int (7 : Int32)), .val (.ref d7), .val (.int i104)] [(.int (0 : Int32))]))
  refine Go.st (fun _ kk => XS.istore X104.here hx rfl (hb hby d1_118) rfl (l' := #[.val (.ref a1), .val (.ref a2), .val (.int p3), .val (.int p4), .val (.int (p3 * p4)), .val (.ref b3_31), .val (.int (8 : Int32)), .val (.int (7 : Int32)), .val (.ref d7), .val (.int (0 : Int32))]) rfl kk) ?_
  show Go p e below _ (T104.setTop (mkF m 120 #[.val (.ref a1), .val (.ref a2), .val (.int p3), .val (.int p4), .val (.int (p3 * p4)), .val (.ref b3_31), .val (.int (8 : Int32)), .val (.int (7 : Int32)), .val (.ref d7), .val (.int (0 : Int32))] []))
  have f_116 := (f_105.keep Kc104)
  have f_117 := (f_106.keep Kc104 (ninS (Nat.ne_of_lt (Nat.lt_of_lt_of_le E_a1.lt sz_b23)) nin0))
  have f_118 := (f_107.keep Kc104 (ninS (Nat.ne_of_lt (Nat.lt_of_lt_of_le E_a1.lt sz_b23)) nin0))
  have f_119 := (f_108.keep Kc104 (ninS (Nat.ne_of_lt (Nat.lt_of_lt_of_le E_a1.lt sz_b23)) nin0))
  have f_120 := (E_d7.keep K104)
  have f_121 := (F_ordinal_d7.keep K104 (ninS (ne_exa f_120 f_116 (by decide)) nin0))
  have f_122 := (F_columnStep_d7.keep K104 (ninS (ne_exa f_120 f_116 (by decide)) nin0))
  have f_123 := (F_rowStep_d7.keep K104 (ninS (ne_exa f_120 f_116 (by decide)) nin0))
  refine own_inner hx hZ hw hby hml hown a1 a2 p3 p4 (p3 * p4) b3_31 (8 : Int32) (7 : Int32) d7 b23 ((8 : Int32) * (p3 * p4)) p4 p3 (7 : Int32) (-1 : Int32) (1 : Int32) h104 n0 (Nat.le_trans Z0 K104.1) f_116 f_117 f_118 f_119 f_120 f_121 f_122 f_123 (own_nz hc) (Nat.ne_of_lt (Nat.lt_of_lt_of_le E_a1.lt sz_b23)) (Nat.ne_of_lt (Nat.lt_of_lt_of_le E_d7.lt sz_b23)) g_b23 (by decide) (by decide) (own_ix (by decide) (own_116 hr hc)) (fun i115 T115 h115 l115 X115 e115 N115 Kc115 V115 => ?_) (p3 * p4).toNatClampNeg (0 : Int32) _ _ _ (by simp only [Int32.toNatClampNeg]; show _ ≤ 0 + _; omega) (by decide) X104 e104 N104 (Keep.refl _ _) V104
  have K115 : Keep h0 h115 [a1] := K104.trans Kc115 (allS (Or.inr sz_b23) all0)
  show Go p e below _ (T115.setTop (mkF m 165 #[.val (.ref a1), .val (.ref a2), .val (.int p3), .val (.int p4), .val (.int (p3 * p4)), .val (.ref b3_31), .val (.int (8 : Int32)), .val (.int (7 : Int32)), .val (.ref d7), .val (.int i115)] []))
  refine Go.st (fun _ kk => XS.iinc X115.here hx rfl (hb hby d1_165) rfl (l' := #[.val (.ref a1), .val (.ref a2), .val (.int p3), .val (.int p4), .val (.int (p3 * p4)), .val (.ref b3_31), .val (.int (8 : Int32)), .val (.int (8 : Int32)), .val (.ref d7), .val (.int i115)]) rfl kk) ?_
  show Go p e below _ (T115.setTop (mkF m 168 #[.val (.ref a1), .val (.ref a2), .val (.int p3), .val (.int p4), .val (.int (p3 * p4)), .val (.ref b3_31), .val (.int (8 : Int32)), .val (.int (8 : Int32)), .val (.ref d7), .val (.int i115)] []))
  refine Go.st (fun _ kk => XS.goto X115.here hx rfl (pc0 := 168) (pc' := 103) rfl (hb hby d1_168) (by decide) (by decide) kk) ?_
  show Go p e below _ (T115.setTop (mkF m 103 #[.val (.ref a1), .val (.ref a2), .val (.int p3), .val (.int p4), .val (.int (p3 * p4)), .val (.ref b3_31), .val (.int (8 : Int32)), .val (.int (8 : Int32)), .val (.ref d7), .val (.int i115)] []))
  refine Go.st (fun _ kk => XS.iload X115.here hx rfl (hb hby d1_103) rfl  kk) ?_
  show Go p e below _ (T115.setTop (mkF m 105 #[.val (.ref a1), .val (.ref a2), .val (.int p3), .val (.int p4), .val (.int (p3 * p4)), .val (.ref b3_31), .val (.int (8 : Int32)), .val (.int (8 : Int32)), .val (.ref d7), .val (.int i115)] [(.int (8 : Int32))]))
  refine Go.st (fun _ kk => XS.iload X115.here hx rfl (hb hby d1_105) rfl  kk) ?_
  show Go p e below _ (T115.setTop (mkF m 107 #[.val (.ref a1), .val (.ref a2), .val (.int p3), .val (.int p4), .val (.int (p3 * p4)), .val (.ref b3_31), .val (.int (8 : Int32)), .val (.int (8 : Int32)), .val (.ref d7), .val (.int i115)] [(.int (8 : Int32)), (.int (8 : Int32))]))
  refine Go.st (fun _ kk => XS.icmpYes X115.here hx rfl (pc0 := 107) (pc' := 171) rfl (hb hby d1_107) rfl (flt (by decide : ¬ ((8 : Int32) < (8 : Int32)))).2.1 (by decide) (by decide) kk) ?_
  show Go p e below _ (T115.setTop (mkF m 171 #[.val (.ref a1), .val (.ref a2), .val (.int p3), .val (.int p4), .val (.int (p3 * p4)), .val (.ref b3_31), .val (.int (8 : Int32)), .val (.int (8 : Int32)), .val (.ref d7), .val (.int i115)] []))
  have f_124 := (f_116.keep Kc115)
  have f_125 := (f_119.keep Kc115 (ninS (Nat.ne_of_lt (Nat.lt_of_lt_of_le E_a1.lt sz_b23)) nin0))
  have f_126 := (f_118.keep Kc115 (ninS (Nat.ne_of_lt (Nat.lt_of_lt_of_le E_a1.lt sz_b23)) nin0))
  exact Go.ret (Q := Qm1_o Z a1 a2 p3 p4 wv d0 d1 d2 d3 d4 d5 d6 d7 kv u_cells_a1 u_rows_a1 u_columns_a1 u_steps_a1 h0 n0) X115 (v := none) (fun _ => rfl) Bd.notSynchronized (fun fs hr => X115.returnOut hx Bd.returns (hb hby d1_171) hr) e115 ⟨rfl, N115, K115, f_124, f_125, f_126⟩ (by decide) (by decide)
def Q0 (n0 : Nat) (v : Option Value) (h : Heap) (L : List Loc) : Prop := v = some (.int (1 : Int32)) ∧ Fr n0 L
set_option maxRecDepth 65536 in
set_option maxHeartbeats 40000000 in
theorem rm0 (l : Launch) (Z : State) (a0 : Array Value) (hw : ∀ d ∈ tables_1, d.before a0 Z = true) (ws : List Jvm.Cond) (p1 : Int32) (p2 : Int32) (p3 : Int32) (p4 : Int32) (p5 : Int32) (w_SQUARE : Addr) (w__VALUES : Addr) (w_N : Addr) (w_NE : Addr) (w_E : Addr) (w_SE : Addr) (w_S : Addr) (w_SW : Addr) (w_W : Addr) (w_NW : Addr) (w_HEXAGON : Addr) (kv : ClassId) (h0 : Heap) (n0 : Nat) (Z0 : n0 ≤ h0.size) (S_SQUARE : Sta Z h0 "com/example/tabulon/tabulon/game/Board$Cells" "SQUARE" "Lcom/example/tabulon/tabulon/game/Board$Cells;" (.ref w_SQUARE)) (E_w_SQUARE : Exa Z h0 w_SQUARE "com/example/tabulon/tabulon/game/Board$Cells") (S__VALUES : Sta Z h0 "com/example/tabulon/tabulon/game/Board$Direction" "$VALUES" "[Lcom/example/tabulon/tabulon/game/Board$Direction;" (.ref w__VALUES)) (E_w__VALUES : Exa Z h0 w__VALUES "[Lcom/example/tabulon/tabulon/game/Board$Direction;") (S_N : Sta Z h0 "com/example/tabulon/tabulon/game/Board$Direction" "N" "Lcom/example/tabulon/tabulon/game/Board$Direction;" (.ref w_N)) (E_w_N : Exa Z h0 w_N "com/example/tabulon/tabulon/game/Board$Direction") (S_NE : Sta Z h0 "com/example/tabulon/tabulon/game/Board$Direction" "NE" "Lcom/example/tabulon/tabulon/game/Board$Direction;" (.ref w_NE)) (E_w_NE : Exa Z h0 w_NE "com/example/tabulon/tabulon/game/Board$Direction") (S_E : Sta Z h0 "com/example/tabulon/tabulon/game/Board$Direction" "E" "Lcom/example/tabulon/tabulon/game/Board$Direction;" (.ref w_E)) (E_w_E : Exa Z h0 w_E "com/example/tabulon/tabulon/game/Board$Direction") (S_SE : Sta Z h0 "com/example/tabulon/tabulon/game/Board$Direction" "SE" "Lcom/example/tabulon/tabulon/game/Board$Direction;" (.ref w_SE)) (E_w_SE : Exa Z h0 w_SE "com/example/tabulon/tabulon/game/Board$Direction") (S_S : Sta Z h0 "com/example/tabulon/tabulon/game/Board$Direction" "S" "Lcom/example/tabulon/tabulon/game/Board$Direction;" (.ref w_S)) (E_w_S : Exa Z h0 w_S "com/example/tabulon/tabulon/game/Board$Direction") (S_SW : Sta Z h0 "com/example/tabulon/tabulon/game/Board$Direction" "SW" "Lcom/example/tabulon/tabulon/game/Board$Direction;" (.ref w_SW)) (E_w_SW : Exa Z h0 w_SW "com/example/tabulon/tabulon/game/Board$Direction") (S_W : Sta Z h0 "com/example/tabulon/tabulon/game/Board$Direction" "W" "Lcom/example/tabulon/tabulon/game/Board$Direction;" (.ref w_W)) (E_w_W : Exa Z h0 w_W "com/example/tabulon/tabulon/game/Board$Direction") (S_NW : Sta Z h0 "com/example/tabulon/tabulon/game/Board$Direction" "NW" "Lcom/example/tabulon/tabulon/game/Board$Direction;" (.ref w_NW)) (E_w_NW : Exa Z h0 w_NW "com/example/tabulon/tabulon/game/Board$Direction") (S_HEXAGON : Sta Z h0 "com/example/tabulon/tabulon/game/Board$Cells" "HEXAGON" "Lcom/example/tabulon/tabulon/game/Board$Cells;" (.ref w_HEXAGON)) (E_w_HEXAGON : Exa Z h0 w_HEXAGON "com/example/tabulon/tabulon/game/Board$Cells") (F_ordinal_w_N : Fld Z h0 w_N "java/lang/Enum" "ordinal" "I" (.int (0 : Int32))) (F_columnStep_w_N : Fld Z h0 w_N "com/example/tabulon/tabulon/game/Board$Direction" "columnStep" "I" (.int (0 : Int32))) (F_rowStep_w_N : Fld Z h0 w_N "com/example/tabulon/tabulon/game/Board$Direction" "rowStep" "I" (.int (1 : Int32))) (F_ordinal_w_NE : Fld Z h0 w_NE "java/lang/Enum" "ordinal" "I" (.int (1 : Int32))) (F_columnStep_w_NE : Fld Z h0 w_NE "com/example/tabulon/tabulon/game/Board$Direction" "columnStep" "I" (.int (1 : Int32))) (F_rowStep_w_NE : Fld Z h0 w_NE "com/example/tabulon/tabulon/game/Board$Direction" "rowStep" "I" (.int (1 : Int32))) (F_ordinal_w_E : Fld Z h0 w_E "java/lang/Enum" "ordinal" "I" (.int (2 : Int32))) (F_columnStep_w_E : Fld Z h0 w_E "com/example/tabulon/tabulon/game/Board$Direction" "columnStep" "I" (.int (1 : Int32))) (F_rowStep_w_E : Fld Z h0 w_E "com/example/tabulon/tabulon/game/Board$Direction" "rowStep" "I" (.int (0 : Int32))) (F_ordinal_w_SE : Fld Z h0 w_SE "java/lang/Enum" "ordinal" "I" (.int (3 : Int32))) (F_columnStep_w_SE : Fld Z h0 w_SE "com/example/tabulon/tabulon/game/Board$Direction" "columnStep" "I" (.int (1 : Int32))) (F_rowStep_w_SE : Fld Z h0 w_SE "com/example/tabulon/tabulon/game/Board$Direction" "rowStep" "I" (.int (-1 : Int32))) (F_ordinal_w_S : Fld Z h0 w_S "java/lang/Enum" "ordinal" "I" (.int (4 : Int32))) (F_columnStep_w_S : Fld Z h0 w_S "com/example/tabulon/tabulon/game/Board$Direction" "columnStep" "I" (.int (0 : Int32))) (F_rowStep_w_S : Fld Z h0 w_S "com/example/tabulon/tabulon/game/Board$Direction" "rowStep" "I" (.int (-1 : Int32))) (F_ordinal_w_SW : Fld Z h0 w_SW "java/lang/Enum" "ordinal" "I" (.int (5 : Int32))) (F_columnStep_w_SW : Fld Z h0 w_SW "com/example/tabulon/tabulon/game/Board$Direction" "columnStep" "I" (.int (-1 : Int32))) (F_rowStep_w_SW : Fld Z h0 w_SW "com/example/tabulon/tabulon/game/Board$Direction" "rowStep" "I" (.int (-1 : Int32))) (F_ordinal_w_W : Fld Z h0 w_W "java/lang/Enum" "ordinal" "I" (.int (6 : Int32))) (F_columnStep_w_W : Fld Z h0 w_W "com/example/tabulon/tabulon/game/Board$Direction" "columnStep" "I" (.int (-1 : Int32))) (F_rowStep_w_W : Fld Z h0 w_W "com/example/tabulon/tabulon/game/Board$Direction" "rowStep" "I" (.int (0 : Int32))) (F_ordinal_w_NW : Fld Z h0 w_NW "java/lang/Enum" "ordinal" "I" (.int (7 : Int32))) (F_columnStep_w_NW : Fld Z h0 w_NW "com/example/tabulon/tabulon/game/Board$Direction" "columnStep" "I" (.int (-1 : Int32))) (F_rowStep_w_NW : Fld Z h0 w_NW "com/example/tabulon/tabulon/game/Board$Direction" "rowStep" "I" (.int (1 : Int32))) (V_w__VALUES : Arv Z h0 w__VALUES kv (.object "com/example/tabulon/tabulon/game/Board$Direction") (8 : Int32) [(.ref w_N), (.ref w_NE), (.ref w_E), (.ref w_SE), (.ref w_S), (.ref w_SW), (.ref w_W), (.ref w_NW)] .null) (hfc : ∀ cl : Cell, h0[w__VALUES]? = some cl → FitC Z cl) :
    MetFree l x (head1 (Jvm.Cond.code x code maxLocals ret :: ws) room_1) (fun a U => a = #[(.int p1), (.int p2), (.int p3), (.int p4), (.int p5)] ∧ Z.Warmed39 U.vm ∧ U.heap = h0) (fun _ _ _ _ _ => True) (fun _ U o U' => ∃ v L, o = .returned v ∧ Q0 n0 v U'.heap L ∧ FrameEnd U o U' L room_1.cells room_1.slots) := by
  refine MetFree.of_bodySF (plainFor_of_name pn_0) hisR ?_
  intro p e s m args below meth c s₁ Bd hml0 hP hK
  obtain ⟨rfl, hZ, hh⟩ := hP
  have hx := Bd.exec
  have hby := Bd.bytes
  have hml : c.maxLocals = 13 := hml0
  have hown : s.vm.findClass "com/example/tabulon/tabulon/game/BoardSiteAtPinLaw" = some m.cls := findClass_of_methodNamed Bd.named
  have hnm := (name_of_methodNamed Bd.named Bd.method).1
  have X0 : Stand p l e room_1 s m #[(.int p1), (.int p2), (.int p3), (.int p4), (.int p5)] below meth c s₁ [] 0 0 := Stand.of_body Bd
  have e0 : s₁.heap = h0 := by rw [← hh, Bd.state]; rfl
  have N0 := Fr.nil n0
  refine Go.en (ef_0 m p1 p2 p3 p4 p5) ?_
  show Go p e below _ (s₁.setTop (mkF m 0 #[.val (.int p1), .val (.int p2), .val (.int p3), .val (.int p4), .val (.int p5), .unset, .unset, .unset, .unset, .unset, .unset, .unset, .unset] []))
  obtain ⟨clv, Ar_VALUES⟩ : ∃ cl, Arr Z h0 w__VALUES cl _ := by obtain ⟨cl, A, -⟩ := V_w__VALUES; exact ⟨cl, A⟩
  refine Go.st (fun _ kk => XS.iconst X0.here hx rfl (hb hby at_0) kk) ?_
  show Go p e below _ (s₁.setTop (mkF m 1 #[.val (.int p1), .val (.int p2), .val (.int p3), .val (.int p4), .val (.int p5), .unset, .unset, .unset, .unset, .unset, .unset, .unset, .unset] [(.int (1 : Int32))]))
  refine Go.st (fun _ kk => XS.iloadN X0.here hx rfl (hb hby at_1) rfl  kk) ?_
  show Go p e below _ (s₁.setTop (mkF m 2 #[.val (.int p1), .val (.int p2), .val (.int p3), .val (.int p4), .val (.int p5), .unset, .unset, .unset, .unset, .unset, .unset, .unset, .unset] [(.int p1), (.int (1 : Int32))]))
  refine Go.st (fun _ kk => XS.iconst X0.here hx rfl (hb hby at_2) kk) ?_
  show Go p e below _ (s₁.setTop (mkF m 3 #[.val (.int p1), .val (.int p2), .val (.int p3), .val (.int p4), .val (.int p5), .unset, .unset, .unset, .unset, .unset, .unset, .unset, .unset] [(.int (3 : Int32)), (.int p1), (.int (1 : Int32))]))
  refine Go.st (fun _ kk => XS.iand X0.here hx rfl (hb hby at_3) rfl kk) ?_
  show Go p e below _ (s₁.setTop (mkF m 4 #[.val (.int p1), .val (.int p2), .val (.int p3), .val (.int p4), .val (.int p5), .unset, .unset, .unset, .unset, .unset, .unset, .unset, .unset] [(.int (p1 &&& (3 : Int32))), (.int (1 : Int32))]))
  refine Go.st (fun _ kk => XS.iadd X0.here hx rfl (hb hby at_4) rfl kk) ?_
  show Go p e below _ (s₁.setTop (mkF m 5 #[.val (.int p1), .val (.int p2), .val (.int p3), .val (.int p4), .val (.int p5), .unset, .unset, .unset, .unset, .unset, .unset, .unset, .unset] [(.int ((1 : Int32) + (p1 &&& (3 : Int32))))]))
  refine Go.st (fun _ kk => XS.istore X0.here hx rfl (hb hby at_5) rfl (l' := #[.val (.int p1), .val (.int p2), .val (.int p3), .val (.int p4), .val (.int p5), .val (.int ((1 : Int32) + (p1 &&& (3 : Int32)))), .unset, .unset, .unset, .unset, .unset, .unset, .unset]) rfl kk) ?_
  show Go p e below _ (s₁.setTop (mkF m 7 #[.val (.int p1), .val (.int p2), .val (.int p3), .val (.int p4), .val (.int p5), .val (.int ((1 : Int32) + (p1 &&& (3 : Int32)))), .unset, .unset, .unset, .unset, .unset, .unset, .unset] []))
  refine Go.st (fun _ kk => XS.iconst X0.here hx rfl (hb hby at_7) kk) ?_
  show Go p e below _ (s₁.setTop (mkF m 8 #[.val (.int p1), .val (.int p2), .val (.int p3), .val (.int p4), .val (.int p5), .val (.int ((1 : Int32) + (p1 &&& (3 : Int32)))), .unset, .unset, .unset, .unset, .unset, .unset, .unset] [(.int (1 : Int32))]))
  refine Go.st (fun _ kk => XS.iloadN X0.here hx rfl (hb hby at_8) rfl  kk) ?_
  show Go p e below _ (s₁.setTop (mkF m 9 #[.val (.int p1), .val (.int p2), .val (.int p3), .val (.int p4), .val (.int p5), .val (.int ((1 : Int32) + (p1 &&& (3 : Int32)))), .unset, .unset, .unset, .unset, .unset, .unset, .unset] [(.int p2), (.int (1 : Int32))]))
  refine Go.st (fun _ kk => XS.iconst X0.here hx rfl (hb hby at_9) kk) ?_
  show Go p e below _ (s₁.setTop (mkF m 10 #[.val (.int p1), .val (.int p2), .val (.int p3), .val (.int p4), .val (.int p5), .val (.int ((1 : Int32) + (p1 &&& (3 : Int32)))), .unset, .unset, .unset, .unset, .unset, .unset, .unset] [(.int (3 : Int32)), (.int p2), (.int (1 : Int32))]))
  refine Go.st (fun _ kk => XS.iand X0.here hx rfl (hb hby at_10) rfl kk) ?_
  show Go p e below _ (s₁.setTop (mkF m 11 #[.val (.int p1), .val (.int p2), .val (.int p3), .val (.int p4), .val (.int p5), .val (.int ((1 : Int32) + (p1 &&& (3 : Int32)))), .unset, .unset, .unset, .unset, .unset, .unset, .unset] [(.int (p2 &&& (3 : Int32))), (.int (1 : Int32))]))
  refine Go.st (fun _ kk => XS.iadd X0.here hx rfl (hb hby at_11) rfl kk) ?_
  show Go p e below _ (s₁.setTop (mkF m 12 #[.val (.int p1), .val (.int p2), .val (.int p3), .val (.int p4), .val (.int p5), .val (.int ((1 : Int32) + (p1 &&& (3 : Int32)))), .unset, .unset, .unset, .unset, .unset, .unset, .unset] [(.int ((1 : Int32) + (p2 &&& (3 : Int32))))]))
  refine Go.st (fun _ kk => XS.istore X0.here hx rfl (hb hby at_12) rfl (l' := #[.val (.int p1), .val (.int p2), .val (.int p3), .val (.int p4), .val (.int p5), .val (.int ((1 : Int32) + (p1 &&& (3 : Int32)))), .val (.int ((1 : Int32) + (p2 &&& (3 : Int32)))), .unset, .unset, .unset, .unset, .unset, .unset]) rfl kk) ?_
  show Go p e below _ (s₁.setTop (mkF m 14 #[.val (.int p1), .val (.int p2), .val (.int p3), .val (.int p4), .val (.int p5), .val (.int ((1 : Int32) + (p1 &&& (3 : Int32)))), .val (.int ((1 : Int32) + (p2 &&& (3 : Int32)))), .unset, .unset, .unset, .unset, .unset, .unset] []))
  refine Go.st (fun _ kk => XS.iloadN X0.here hx rfl (hb hby at_14) rfl  kk) ?_
  show Go p e below _ (s₁.setTop (mkF m 15 #[.val (.int p1), .val (.int p2), .val (.int p3), .val (.int p4), .val (.int p5), .val (.int ((1 : Int32) + (p1 &&& (3 : Int32)))), .val (.int ((1 : Int32) + (p2 &&& (3 : Int32)))), .unset, .unset, .unset, .unset, .unset, .unset] [(.int p3)]))
  refine Go.st (fun _ kk => XS.iconst X0.here hx rfl (hb hby at_15) kk) ?_
  show Go p e below _ (s₁.setTop (mkF m 16 #[.val (.int p1), .val (.int p2), .val (.int p3), .val (.int p4), .val (.int p5), .val (.int ((1 : Int32) + (p1 &&& (3 : Int32)))), .val (.int ((1 : Int32) + (p2 &&& (3 : Int32)))), .unset, .unset, .unset, .unset, .unset, .unset] [(.int (4 : Int32)), (.int p3)]))
  refine Go.st (fun _ kk => XS.iand X0.here hx rfl (hb hby at_16) rfl kk) ?_
  show Go p e below _ (s₁.setTop (mkF m 17 #[.val (.int p1), .val (.int p2), .val (.int p3), .val (.int p4), .val (.int p5), .val (.int ((1 : Int32) + (p1 &&& (3 : Int32)))), .val (.int ((1 : Int32) + (p2 &&& (3 : Int32)))), .unset, .unset, .unset, .unset, .unset, .unset] [(.int (p3 &&& (4 : Int32)))]))
  by_cases hc_5 : (p3 &&& (4 : Int32)) = (0 : Int32)
  · skip
    refine Go.st (fun _ kk => XS.ifYes X0.here hx rfl (pc0 := 17) (pc' := 26) rfl (hb hby at_17) rfl ((if0 _ _).trans (teq hc_5).1) (by decide) (by decide) kk) ?_
    show Go p e below _ (s₁.setTop (mkF m 26 #[.val (.int p1), .val (.int p2), .val (.int p3), .val (.int p4), .val (.int p5), .val (.int ((1 : Int32) + (p1 &&& (3 : Int32)))), .val (.int ((1 : Int32) + (p2 &&& (3 : Int32)))), .unset, .unset, .unset, .unset, .unset, .unset] []))
    obtain ⟨T6, X6, e6, st6⟩ := getS2 X0 hx hZ hown (host := "") (Or.inl (hw _ (List.mem_of_getElem? (i := 0) rfl))) Via.refl e0 S_SQUARE (g := (mkF m 26 #[.val (.int p1), .val (.int p2), .val (.int p3), .val (.int p4), .val (.int p5), .val (.int ((1 : Int32) + (p1 &&& (3 : Int32)))), .val (.int ((1 : Int32) + (p2 &&& (3 : Int32)))), .unset, .unset, .unset, .unset, .unset, .unset] [])) rfl (hb hby at_26)
    refine Go.st st6 ?_
    show Go p e below _ (T6.setTop (mkF m 29 #[.val (.int p1), .val (.int p2), .val (.int p3), .val (.int p4), .val (.int p5), .val (.int ((1 : Int32) + (p1 &&& (3 : Int32)))), .val (.int ((1 : Int32) + (p2 &&& (3 : Int32)))), .unset, .unset, .unset, .unset, .unset, .unset] [(.ref w_SQUARE)]))
    refine Go.st (fun _ kk => XS.astore X6.here hx rfl (hb hby at_29) rfl rfl (l' := #[.val (.int p1), .val (.int p2), .val (.int p3), .val (.int p4), .val (.int p5), .val (.int ((1 : Int32) + (p1 &&& (3 : Int32)))), .val (.int ((1 : Int32) + (p2 &&& (3 : Int32)))), .val (.ref w_SQUARE), .unset, .unset, .unset, .unset, .unset]) rfl kk) ?_
    show Go p e below _ (T6.setTop (mkF m 31 #[.val (.int p1), .val (.int p2), .val (.int p3), .val (.int p4), .val (.int p5), .val (.int ((1 : Int32) + (p1 &&& (3 : Int32)))), .val (.int ((1 : Int32) + (p2 &&& (3 : Int32)))), .val (.ref w_SQUARE), .unset, .unset, .unset, .unset, .unset] []))
    obtain ⟨T7, h7, X7, e7, E7, A7, D7, -, st7⟩ := newO X6 hx hZ hown (hw _ (List.mem_of_getElem? (i := 3) rfl)) (hw _ (List.mem_of_getElem? (i := 4) rfl)) (hw _ (List.mem_of_getElem? (i := 5) rfl)) e6 (g := (mkF m 31 #[.val (.int p1), .val (.int p2), .val (.int p3), .val (.int p4), .val (.int p5), .val (.int ((1 : Int32) + (p1 &&& (3 : Int32)))), .val (.int ((1 : Int32) + (p2 &&& (3 : Int32)))), .val (.ref w_SQUARE), .unset, .unset, .unset, .unset, .unset] [])) rfl (hb hby at_31) (by decide) (by decide)
    obtain ⟨b7, g7⟩ : ∃ z, z = h0.size := ⟨_, rfl⟩
    rw [← g7] at A7 D7 st7
    refine Go.st st7 ?_
    have g_b7 : n0 ≤ b7 := Nat.le_trans Z0 (Nat.le_of_eq g7.symm)
    have sz_b7 : h0.size ≤ b7 := Nat.le_of_eq g7.symm
    have K7 : Keep h0 h7 [] := (Keep.refl h0 []).ext E7
    have E_b7 : Exa Z h7 b7 "com/example/tabulon/tabulon/game/Board" := A7
    have F_cells_b7 : Fld Z h7 b7 "com/example/tabulon/tabulon/game/Board" "cells" "Lcom/example/tabulon/tabulon/game/Board$Cells;" .null := D7 (Or.inr (hw _ (List.mem_of_getElem? (i := 38) rfl))) (ty := (.object "com/example/tabulon/tabulon/game/Board$Cells")) (by decide)
    have F_rows_b7 : Fld Z h7 b7 "com/example/tabulon/tabulon/game/Board" "rows" "I" (.int (0 : Int32)) := D7 (Or.inr (hw _ (List.mem_of_getElem? (i := 40) rfl))) (ty := .int) (by decide)
    have F_columns_b7 : Fld Z h7 b7 "com/example/tabulon/tabulon/game/Board" "columns" "I" (.int (0 : Int32)) := D7 (Or.inr (hw _ (List.mem_of_getElem? (i := 42) rfl))) (ty := .int) (by decide)
    have F_steps_b7 : Fld Z h7 b7 "com/example/tabulon/tabulon/game/Board" "steps" "[I" .null := D7 (Or.inr (hw _ (List.mem_of_getElem? (i := 45) rfl))) (ty := (.array .int)) (by decide)
    show Go p e below _ (T7.setTop (mkF m 34 #[.val (.int p1), .val (.int p2), .val (.int p3), .val (.int p4), .val (.int p5), .val (.int ((1 : Int32) + (p1 &&& (3 : Int32)))), .val (.int ((1 : Int32) + (p2 &&& (3 : Int32)))), .val (.ref w_SQUARE), .unset, .unset, .unset, .unset, .unset] [(.ref b7)]))
    refine Go.st (fun _ kk => XS.dup X7.here hx rfl (hb hby at_34) rfl rfl kk) ?_
    show Go p e below _ (T7.setTop (mkF m 35 #[.val (.int p1), .val (.int p2), .val (.int p3), .val (.int p4), .val (.int p5), .val (.int ((1 : Int32) + (p1 &&& (3 : Int32)))), .val (.int ((1 : Int32) + (p2 &&& (3 : Int32)))), .val (.ref w_SQUARE), .unset, .unset, .unset, .unset, .unset] [(.ref b7), (.ref b7)]))
    refine Go.st (fun _ kk => XS.aload X7.here hx rfl (hb hby at_35) rfl rfl  kk) ?_
    show Go p e below _ (T7.setTop (mkF m 37 #[.val (.int p1), .val (.int p2), .val (.int p3), .val (.int p4), .val (.int p5), .val (.int ((1 : Int32) + (p1 &&& (3 : Int32)))), .val (.int ((1 : Int32) + (p2 &&& (3 : Int32)))), .val (.ref w_SQUARE), .unset, .unset, .unset, .unset, .unset] [(.ref w_SQUARE), (.ref b7), (.ref b7)]))
    refine Go.st (fun _ kk => XS.iload X7.here hx rfl (hb hby at_37) rfl  kk) ?_
    show Go p e below _ (T7.setTop (mkF m 39 #[.val (.int p1), .val (.int p2), .val (.int p3), .val (.int p4), .val (.int p5), .val (.int ((1 : Int32) + (p1 &&& (3 : Int32)))), .val (.int ((1 : Int32) + (p2 &&& (3 : Int32)))), .val (.ref w_SQUARE), .unset, .unset, .unset, .unset, .unset] [(.int ((1 : Int32) + (p1 &&& (3 : Int32)))), (.ref w_SQUARE), (.ref b7), (.ref b7)]))
    refine Go.st (fun _ kk => XS.iload X7.here hx rfl (hb hby at_39) rfl  kk) ?_
    show Go p e below _ (T7.setTop (mkF m 41 #[.val (.int p1), .val (.int p2), .val (.int p3), .val (.int p4), .val (.int p5), .val (.int ((1 : Int32) + (p1 &&& (3 : Int32)))), .val (.int ((1 : Int32) + (p2 &&& (3 : Int32)))), .val (.ref w_SQUARE), .unset, .unset, .unset, .unset, .unset] [(.int ((1 : Int32) + (p2 &&& (3 : Int32)))), (.int ((1 : Int32) + (p1 &&& (3 : Int32)))), (.ref w_SQUARE), (.ref b7), (.ref b7)]))
    have f_8 := (staKeep0 S__VALUES K7)
    have f_9 := (E_w__VALUES.keep K7)
    have f_10 := (V_w__VALUES.keep K7 nin0)
    have f_11 := (E_w_N.keep K7)
    have f_12 := (F_ordinal_w_N.keep K7 nin0)
    have f_13 := (F_columnStep_w_N.keep K7 nin0)
    have f_14 := (F_rowStep_w_N.keep K7 nin0)
    have f_15 := (E_w_NE.keep K7)
    have f_16 := (F_ordinal_w_NE.keep K7 nin0)
    have f_17 := (F_columnStep_w_NE.keep K7 nin0)
    have f_18 := (F_rowStep_w_NE.keep K7 nin0)
    have f_19 := (E_w_E.keep K7)
    have f_20 := (F_ordinal_w_E.keep K7 nin0)
    have f_21 := (F_columnStep_w_E.keep K7 nin0)
    have f_22 := (F_rowStep_w_E.keep K7 nin0)
    have f_23 := (E_w_SE.keep K7)
    have f_24 := (F_ordinal_w_SE.keep K7 nin0)
    have f_25 := (F_columnStep_w_SE.keep K7 nin0)
    have f_26 := (F_rowStep_w_SE.keep K7 nin0)
    have f_27 := (E_w_S.keep K7)
    have f_28 := (F_ordinal_w_S.keep K7 nin0)
    have f_29 := (F_columnStep_w_S.keep K7 nin0)
    have f_30 := (F_rowStep_w_S.keep K7 nin0)
    have f_31 := (E_w_SW.keep K7)
    have f_32 := (F_ordinal_w_SW.keep K7 nin0)
    have f_33 := (F_columnStep_w_SW.keep K7 nin0)
    have f_34 := (F_rowStep_w_SW.keep K7 nin0)
    have f_35 := (E_w_W.keep K7)
    have f_36 := (F_ordinal_w_W.keep K7 nin0)
    have f_37 := (F_columnStep_w_W.keep K7 nin0)
    have f_38 := (F_rowStep_w_W.keep K7 nin0)
    have f_39 := (E_w_NW.keep K7)
    have f_40 := (F_ordinal_w_NW.keep K7 nin0)
    have f_41 := (F_columnStep_w_NW.keep K7 nin0)
    have f_42 := (F_rowStep_w_NW.keep K7 nin0)
    obtain ⟨_, _, ⟨T43, L43, k43, n43⟩, -, X43, ⟨Lc43, hQ43, l43, y43, z43⟩, st43⟩ := X7.specialBack hx (y := (⟨"com/example/tabulon/tabulon/game/Board", "<init>", "(Lcom/example/tabulon/tabulon/game/Board$Cells;II)V"⟩ : MethodName)) rfl hown (mvT hZ (hw _ (List.mem_of_getElem? (i := 6) rfl))) (mvT hZ (hw _ (List.mem_of_getElem? (i := 7) rfl))) (mvT hZ (hw _ (List.mem_of_getElem? (i := 8) rfl))) (by decide) (backOf (W := 1) (rm1_o l Z a0 hw [] b7 w_SQUARE ((1 : Int32) + (p1 &&& (3 : Int32))) ((1 : Int32) + (p2 &&& (3 : Int32))) w__VALUES w_N w_NE w_E w_SE w_S w_SW w_W w_NW kv .null (.int (0 : Int32)) (.int (0 : Int32)) .null h7 n0 (Nat.le_trans Z0 K7.1) E_b7 (own_14 p1) (own_14 p2) f_8 f_9 f_10 (own_fitc K7 nin0 Ar_VALUES hfc) f_11 f_12 f_13 f_14 f_15 f_16 f_17 f_18 f_19 f_20 f_21 f_22 f_23 f_24 f_25 f_26 f_27 f_28 f_29 f_30 f_31 f_32 f_33 f_34 f_35 f_36 f_37 f_38 f_39 f_40 f_41 f_42 (Nat.ne_of_lt (Nat.lt_of_lt_of_le E_w__VALUES.lt sz_b7)) F_cells_b7 g_b7 F_rows_b7 F_columns_b7 F_steps_b7) hZ (hw _ (List.mem_of_getElem? (i := 8) rfl)) (hw _ (List.mem_of_getElem? (i := 5) rfl)) (by decide) (by decide)) (g := (mkF m 41 #[.val (.int p1), .val (.int p2), .val (.int p3), .val (.int p4), .val (.int p5), .val (.int ((1 : Int32) + (p1 &&& (3 : Int32)))), .val (.int ((1 : Int32) + (p2 &&& (3 : Int32)))), .val (.ref w_SQUARE), .unset, .unset, .unset, .unset, .unset] [(.int ((1 : Int32) + (p2 &&& (3 : Int32)))), (.int ((1 : Int32) + (p1 &&& (3 : Int32)))), (.ref w_SQUARE), (.ref b7), (.ref b7)])) rfl (by rw [hml]; rfl) (Steps.refl _) (a := b7) (argsL := [(.ref w_SQUARE), (.int ((1 : Int32) + (p1 &&& (3 : Int32)))), (.int ((1 : Int32) + (p2 &&& (3 : Int32))))]) (rest := [(.ref b7)]) (lenOf pd_4 rfl) rfl (by show 2 * 0 + _ ≤ _; exact Nat.le_of_eq rfl) (hb hby at_41) (fun _ _ => ⟨rfl, e7, (by decide : 1 + 4 ≤ _), (by decide : 4 + 152 ≤ _)⟩)
    dsimp only [Pt.U, Pt.locs, Pt.cells, Pt.slots] at X43 l43 y43 z43 st43 hQ43
    subst l43 y43 z43
    obtain ⟨rfl, N43q, Kc43, P43_0, P43_1, P43_2⟩ := hQ43
    have K43 : Keep h0 T43.heap [] := K7.trans Kc43 (allS (Or.inr sz_b7) all0)
    have N43 := Fr.app N0 N43q
    refine Go.tr st43 ?_
    show Go p e below _ (T43.setTop (mkF m 44 #[.val (.int p1), .val (.int p2), .val (.int p3), .val (.int p4), .val (.int p5), .val (.int ((1 : Int32) + (p1 &&& (3 : Int32)))), .val (.int ((1 : Int32) + (p2 &&& (3 : Int32)))), .val (.ref w_SQUARE), .unset, .unset, .unset, .unset, .unset] [(.ref b7)]))
    refine Go.st (fun _ kk => XS.astore X43.here hx rfl (hb hby at_44) rfl rfl (l' := #[.val (.int p1), .val (.int p2), .val (.int p3), .val (.int p4), .val (.int p5), .val (.int ((1 : Int32) + (p1 &&& (3 : Int32)))), .val (.int ((1 : Int32) + (p2 &&& (3 : Int32)))), .val (.ref w_SQUARE), .val (.ref b7), .unset, .unset, .unset, .unset]) rfl kk) ?_
    show Go p e below _ (T43.setTop (mkF m 46 #[.val (.int p1), .val (.int p2), .val (.int p3), .val (.int p4), .val (.int p5), .val (.int ((1 : Int32) + (p1 &&& (3 : Int32)))), .val (.int ((1 : Int32) + (p2 &&& (3 : Int32)))), .val (.ref w_SQUARE), .val (.ref b7), .unset, .unset, .unset, .unset] []))
    have tail : ∀ (cc rr : Int32), Go p e below (fun o s₂ => ∃ v L, o = .returned v ∧ Q0 n0 v s₂.heap L ∧ FrameEnd s o s₂ L room_1.cells room_1.slots) (T43.setTop (mkF m 84 #[.val (.int p1), .val (.int p2), .val (.int p3), .val (.int p4), .val (.int p5), .val (.int ((1 : Int32) + (p1 &&& (3 : Int32)))), .val (.int ((1 : Int32) + (p2 &&& (3 : Int32)))), .val (.ref w_SQUARE), .val (.ref b7), .val (.int cc), .val (.int rr), .unset, .unset] [])) := by
      intro cc rr
      refine Go.st (fun _ kk => XS.aload X43.here hx rfl (hb hby at_84) rfl rfl  kk) ?_
      show Go p e below _ (T43.setTop (mkF m 86 #[.val (.int p1), .val (.int p2), .val (.int p3), .val (.int p4), .val (.int p5), .val (.int ((1 : Int32) + (p1 &&& (3 : Int32)))), .val (.int ((1 : Int32) + (p2 &&& (3 : Int32)))), .val (.ref w_SQUARE), .val (.ref b7), .val (.int cc), .val (.int rr), .unset, .unset] [(.ref b7)]))
      refine Go.st (fun _ kk => XS.iload X43.here hx rfl (hb hby at_86) rfl  kk) ?_
      show Go p e below _ (T43.setTop (mkF m 88 #[.val (.int p1), .val (.int p2), .val (.int p3), .val (.int p4), .val (.int p5), .val (.int ((1 : Int32) + (p1 &&& (3 : Int32)))), .val (.int ((1 : Int32) + (p2 &&& (3 : Int32)))), .val (.ref w_SQUARE), .val (.ref b7), .val (.int cc), .val (.int rr), .unset, .unset] [(.int cc), (.ref b7)]))
      refine Go.st (fun _ kk => XS.iload X43.here hx rfl (hb hby at_88) rfl  kk) ?_
      show Go p e below _ (T43.setTop (mkF m 90 #[.val (.int p1), .val (.int p2), .val (.int p3), .val (.int p4), .val (.int p5), .val (.int ((1 : Int32) + (p1 &&& (3 : Int32)))), .val (.int ((1 : Int32) + (p2 &&& (3 : Int32)))), .val (.ref w_SQUARE), .val (.ref b7), .val (.int cc), .val (.int rr), .unset, .unset] [(.int rr), (.int cc), (.ref b7)]))
      by_cases hc_6 : cc < (0 : Int32)
      · skip
        obtain ⟨cq44, kq44, q44a, q44b, q44c⟩ := isOf hZ rfl P43_0
        obtain ⟨_, _, ⟨T44, L44, k44, n44⟩, -, X44, ⟨Lc44, hQ44, l44, y44, z44⟩, st44⟩ := X43.virtualBack hx (y := (⟨"com/example/tabulon/tabulon/game/Board", "siteAt", "(II)I"⟩ : MethodName)) (z := (⟨"com/example/tabulon/tabulon/game/Board", "siteAt", "(II)I"⟩ : MethodName)) hown (mvT hZ (hw _ (List.mem_of_getElem? (i := 74) rfl))) (mvT hZ (hw _ (List.mem_of_getElem? (i := 75) rfl))) (notFace_of_selects (args := #[]) (mvT hZ (hw _ (List.mem_of_getElem? (i := 77) rfl)))) (mvT hZ (hw _ (List.mem_of_getElem? (i := 77) rfl))) (mvT hZ (hw _ (List.mem_of_getElem? (i := 76) rfl))) (by decide) (backOf (W := 0) (rm8_t l Z a0 hw [] b7 cc rr T43.heap n0 (Nat.le_trans Z0 K43.1) hc_6) hZ (hw _ (List.mem_of_getElem? (i := 78) rfl)) (hw _ (List.mem_of_getElem? (i := 5) rfl)) (by decide) (by decide)) q44a q44c (g := (mkF m 90 #[.val (.int p1), .val (.int p2), .val (.int p3), .val (.int p4), .val (.int p5), .val (.int ((1 : Int32) + (p1 &&& (3 : Int32)))), .val (.int ((1 : Int32) + (p2 &&& (3 : Int32)))), .val (.ref w_SQUARE), .val (.ref b7), .val (.int cc), .val (.int rr), .unset, .unset] [(.int rr), (.int cc), (.ref b7)])) rfl (by rw [hml]; rfl) (Steps.refl _) (argsL := [(.int cc), (.int rr)]) (rest := []) (lenOf pd_5 rfl) rfl (by show 2 * 0 + _ ≤ _; exact Nat.le_of_eq rfl) (hb hby at_90) (fun _ _ => ⟨rfl, rfl, (by decide : 5 + 0 ≤ _), (by decide : 156 + 0 ≤ _)⟩)
        dsimp only [Pt.U, Pt.locs, Pt.cells, Pt.slots] at X44 l44 y44 z44 st44 hQ44
        subst l44 y44 z44
        obtain ⟨rfl, N44q, eq44⟩ := hQ44
        have N44 := Fr.app N43 N44q
        refine Go.tr st44 ?_
        show Go p e below _ (T44.setTop (mkF m 93 #[.val (.int p1), .val (.int p2), .val (.int p3), .val (.int p4), .val (.int p5), .val (.int ((1 : Int32) + (p1 &&& (3 : Int32)))), .val (.int ((1 : Int32) + (p2 &&& (3 : Int32)))), .val (.ref w_SQUARE), .val (.ref b7), .val (.int cc), .val (.int rr), .unset, .unset] [(.int (-1 : Int32))]))
        refine Go.st (fun _ kk => XS.istore X44.here hx rfl (hb hby at_93) rfl (l' := #[.val (.int p1), .val (.int p2), .val (.int p3), .val (.int p4), .val (.int p5), .val (.int ((1 : Int32) + (p1 &&& (3 : Int32)))), .val (.int ((1 : Int32) + (p2 &&& (3 : Int32)))), .val (.ref w_SQUARE), .val (.ref b7), .val (.int cc), .val (.int rr), .val (.int (-1 : Int32)), .unset]) rfl kk) ?_
        show Go p e below _ (T44.setTop (mkF m 95 #[.val (.int p1), .val (.int p2), .val (.int p3), .val (.int p4), .val (.int p5), .val (.int ((1 : Int32) + (p1 &&& (3 : Int32)))), .val (.int ((1 : Int32) + (p2 &&& (3 : Int32)))), .val (.ref w_SQUARE), .val (.ref b7), .val (.int cc), .val (.int rr), .val (.int (-1 : Int32)), .unset] []))
        refine Go.st (fun _ kk => XS.iload X44.here hx rfl (hb hby at_95) rfl  kk) ?_
        show Go p e below _ (T44.setTop (mkF m 97 #[.val (.int p1), .val (.int p2), .val (.int p3), .val (.int p4), .val (.int p5), .val (.int ((1 : Int32) + (p1 &&& (3 : Int32)))), .val (.int ((1 : Int32) + (p2 &&& (3 : Int32)))), .val (.ref w_SQUARE), .val (.ref b7), .val (.int cc), .val (.int rr), .val (.int (-1 : Int32)), .unset] [(.int cc)]))
        refine Go.st (fun _ kk => XS.ifYes X44.here hx rfl (pc0 := 97) (pc' := 123) rfl (hb hby at_97) rfl ((if0 _ _).trans (tlt hc_6).1) (by decide) (by decide) kk) ?_
        show Go p e below _ (T44.setTop (mkF m 123 #[.val (.int p1), .val (.int p2), .val (.int p3), .val (.int p4), .val (.int p5), .val (.int ((1 : Int32) + (p1 &&& (3 : Int32)))), .val (.int ((1 : Int32) + (p2 &&& (3 : Int32)))), .val (.ref w_SQUARE), .val (.ref b7), .val (.int cc), .val (.int rr), .val (.int (-1 : Int32)), .unset] []))
        refine Go.st (fun _ kk => XS.iconst X44.here hx rfl (hb hby at_123) kk) ?_
        show Go p e below _ (T44.setTop (mkF m 124 #[.val (.int p1), .val (.int p2), .val (.int p3), .val (.int p4), .val (.int p5), .val (.int ((1 : Int32) + (p1 &&& (3 : Int32)))), .val (.int ((1 : Int32) + (p2 &&& (3 : Int32)))), .val (.ref w_SQUARE), .val (.ref b7), .val (.int cc), .val (.int rr), .val (.int (-1 : Int32)), .unset] [(.int (0 : Int32))]))
        refine Go.st (fun _ kk => XS.istore X44.here hx rfl (hb hby at_124) rfl (l' := #[.val (.int p1), .val (.int p2), .val (.int p3), .val (.int p4), .val (.int p5), .val (.int ((1 : Int32) + (p1 &&& (3 : Int32)))), .val (.int ((1 : Int32) + (p2 &&& (3 : Int32)))), .val (.ref w_SQUARE), .val (.ref b7), .val (.int cc), .val (.int rr), .val (.int (-1 : Int32)), .val (.int (0 : Int32))]) rfl kk) ?_
        show Go p e below _ (T44.setTop (mkF m 126 #[.val (.int p1), .val (.int p2), .val (.int p3), .val (.int p4), .val (.int p5), .val (.int ((1 : Int32) + (p1 &&& (3 : Int32)))), .val (.int ((1 : Int32) + (p2 &&& (3 : Int32)))), .val (.ref w_SQUARE), .val (.ref b7), .val (.int cc), .val (.int rr), .val (.int (-1 : Int32)), .val (.int (0 : Int32))] []))
        refine Go.st (fun _ kk => XS.iload X44.here hx rfl (hb hby at_126) rfl  kk) ?_
        show Go p e below _ (T44.setTop (mkF m 128 #[.val (.int p1), .val (.int p2), .val (.int p3), .val (.int p4), .val (.int p5), .val (.int ((1 : Int32) + (p1 &&& (3 : Int32)))), .val (.int ((1 : Int32) + (p2 &&& (3 : Int32)))), .val (.ref w_SQUARE), .val (.ref b7), .val (.int cc), .val (.int rr), .val (.int (-1 : Int32)), .val (.int (0 : Int32))] [(.int (0 : Int32))]))
        refine Go.st (fun _ kk => XS.ifNo X44.here hx rfl (hb hby at_128) rfl ((if0 _ _).trans (teq (by decide : ((0 : Int32) = (0 : Int32)))).2) kk) ?_
        show Go p e below _ (T44.setTop (mkF m 131 #[.val (.int p1), .val (.int p2), .val (.int p3), .val (.int p4), .val (.int p5), .val (.int ((1 : Int32) + (p1 &&& (3 : Int32)))), .val (.int ((1 : Int32) + (p2 &&& (3 : Int32)))), .val (.ref w_SQUARE), .val (.ref b7), .val (.int cc), .val (.int rr), .val (.int (-1 : Int32)), .val (.int (0 : Int32))] []))
        refine Go.st (fun _ kk => XS.iload X44.here hx rfl (hb hby at_131) rfl  kk) ?_
        show Go p e below _ (T44.setTop (mkF m 133 #[.val (.int p1), .val (.int p2), .val (.int p3), .val (.int p4), .val (.int p5), .val (.int ((1 : Int32) + (p1 &&& (3 : Int32)))), .val (.int ((1 : Int32) + (p2 &&& (3 : Int32)))), .val (.ref w_SQUARE), .val (.ref b7), .val (.int cc), .val (.int rr), .val (.int (-1 : Int32)), .val (.int (0 : Int32))] [(.int (-1 : Int32))]))
        refine Go.st (fun _ kk => XS.iconst X44.here hx rfl (hb hby at_133) kk) ?_
        show Go p e below _ (T44.setTop (mkF m 134 #[.val (.int p1), .val (.int p2), .val (.int p3), .val (.int p4), .val (.int p5), .val (.int ((1 : Int32) + (p1 &&& (3 : Int32)))), .val (.int ((1 : Int32) + (p2 &&& (3 : Int32)))), .val (.ref w_SQUARE), .val (.ref b7), .val (.int cc), .val (.int rr), .val (.int (-1 : Int32)), .val (.int (0 : Int32))] [(.int (-1 : Int32)), (.int (-1 : Int32))]))
        refine Go.st (fun _ kk => XS.icmpNo X44.here hx rfl (hb hby at_134) rfl (teq (by decide : ((-1 : Int32) = (-1 : Int32)))).2 kk) ?_
        show Go p e below _ (T44.setTop (mkF m 137 #[.val (.int p1), .val (.int p2), .val (.int p3), .val (.int p4), .val (.int p5), .val (.int ((1 : Int32) + (p1 &&& (3 : Int32)))), .val (.int ((1 : Int32) + (p2 &&& (3 : Int32)))), .val (.ref w_SQUARE), .val (.ref b7), .val (.int cc), .val (.int rr), .val (.int (-1 : Int32)), .val (.int (0 : Int32))] []))
        refine Go.st (fun _ kk => XS.iconst X44.here hx rfl (hb hby at_137) kk) ?_
        show Go p e below _ (T44.setTop (mkF m 138 #[.val (.int p1), .val (.int p2), .val (.int p3), .val (.int p4), .val (.int p5), .val (.int ((1 : Int32) + (p1 &&& (3 : Int32)))), .val (.int ((1 : Int32) + (p2 &&& (3 : Int32)))), .val (.ref w_SQUARE), .val (.ref b7), .val (.int cc), .val (.int rr), .val (.int (-1 : Int32)), .val (.int (0 : Int32))] [(.int (1 : Int32))]))
        refine Go.st (fun _ kk => XS.goto X44.here hx rfl (pc0 := 138) (pc' := 142) rfl (hb hby at_138) (by decide) (by decide) kk) ?_
        show Go p e below _ (T44.setTop (mkF m 142 #[.val (.int p1), .val (.int p2), .val (.int p3), .val (.int p4), .val (.int p5), .val (.int ((1 : Int32) + (p1 &&& (3 : Int32)))), .val (.int ((1 : Int32) + (p2 &&& (3 : Int32)))), .val (.ref w_SQUARE), .val (.ref b7), .val (.int cc), .val (.int rr), .val (.int (-1 : Int32)), .val (.int (0 : Int32))] [(.int (1 : Int32))]))
        exact Go.ret (Q := Q0 n0) X44 (v := some (.int (1 : Int32))) (fun h => by rw [Bd.returns] at h; cases h) Bd.notSynchronized (fun fs hr => retN X44 hx (t := .boolean) Bd.returns (by simp) (hb hby at_142) hr) eq44 ⟨rfl, N44⟩ (by decide) (by decide)
      · skip
        by_cases hc_7 : cc < ((1 : Int32) + (p2 &&& (3 : Int32)))
        · skip
          by_cases hc_8 : rr < (0 : Int32)
          · skip
            obtain ⟨cq44, kq44, q44a, q44b, q44c⟩ := isOf hZ rfl P43_0
            obtain ⟨_, _, ⟨T44, L44, k44, n44⟩, -, X44, ⟨Lc44, hQ44, l44, y44, z44⟩, st44⟩ := X43.virtualBack hx (y := (⟨"com/example/tabulon/tabulon/game/Board", "siteAt", "(II)I"⟩ : MethodName)) (z := (⟨"com/example/tabulon/tabulon/game/Board", "siteAt", "(II)I"⟩ : MethodName)) hown (mvT hZ (hw _ (List.mem_of_getElem? (i := 74) rfl))) (mvT hZ (hw _ (List.mem_of_getElem? (i := 75) rfl))) (notFace_of_selects (args := #[]) (mvT hZ (hw _ (List.mem_of_getElem? (i := 77) rfl)))) (mvT hZ (hw _ (List.mem_of_getElem? (i := 77) rfl))) (mvT hZ (hw _ (List.mem_of_getElem? (i := 76) rfl))) (by decide) (backOf (W := 0) (rm8_ftt l Z a0 hw [] b7 cc rr ((1 : Int32) + (p2 &&& (3 : Int32))) T43.heap n0 (Nat.le_trans Z0 K43.1) hc_6 P43_2 hc_7 hc_8) hZ (hw _ (List.mem_of_getElem? (i := 78) rfl)) (hw _ (List.mem_of_getElem? (i := 5) rfl)) (by decide) (by decide)) q44a q44c (g := (mkF m 90 #[.val (.int p1), .val (.int p2), .val (.int p3), .val (.int p4), .val (.int p5), .val (.int ((1 : Int32) + (p1 &&& (3 : Int32)))), .val (.int ((1 : Int32) + (p2 &&& (3 : Int32)))), .val (.ref w_SQUARE), .val (.ref b7), .val (.int cc), .val (.int rr), .unset, .unset] [(.int rr), (.int cc), (.ref b7)])) rfl (by rw [hml]; rfl) (Steps.refl _) (argsL := [(.int cc), (.int rr)]) (rest := []) (lenOf pd_5 rfl) rfl (by show 2 * 0 + _ ≤ _; exact Nat.le_of_eq rfl) (hb hby at_90) (fun _ _ => ⟨rfl, rfl, (by decide : 5 + 0 ≤ _), (by decide : 156 + 0 ≤ _)⟩)
            dsimp only [Pt.U, Pt.locs, Pt.cells, Pt.slots] at X44 l44 y44 z44 st44 hQ44
            subst l44 y44 z44
            obtain ⟨rfl, N44q, eq44⟩ := hQ44
            have N44 := Fr.app N43 N44q
            refine Go.tr st44 ?_
            show Go p e below _ (T44.setTop (mkF m 93 #[.val (.int p1), .val (.int p2), .val (.int p3), .val (.int p4), .val (.int p5), .val (.int ((1 : Int32) + (p1 &&& (3 : Int32)))), .val (.int ((1 : Int32) + (p2 &&& (3 : Int32)))), .val (.ref w_SQUARE), .val (.ref b7), .val (.int cc), .val (.int rr), .unset, .unset] [(.int (-1 : Int32))]))
            refine Go.st (fun _ kk => XS.istore X44.here hx rfl (hb hby at_93) rfl (l' := #[.val (.int p1), .val (.int p2), .val (.int p3), .val (.int p4), .val (.int p5), .val (.int ((1 : Int32) + (p1 &&& (3 : Int32)))), .val (.int ((1 : Int32) + (p2 &&& (3 : Int32)))), .val (.ref w_SQUARE), .val (.ref b7), .val (.int cc), .val (.int rr), .val (.int (-1 : Int32)), .unset]) rfl kk) ?_
            show Go p e below _ (T44.setTop (mkF m 95 #[.val (.int p1), .val (.int p2), .val (.int p3), .val (.int p4), .val (.int p5), .val (.int ((1 : Int32) + (p1 &&& (3 : Int32)))), .val (.int ((1 : Int32) + (p2 &&& (3 : Int32)))), .val (.ref w_SQUARE), .val (.ref b7), .val (.int cc), .val (.int rr), .val (.int (-1 : Int32)), .unset] []))
            refine Go.st (fun _ kk => XS.iload X44.here hx rfl (hb hby at_95) rfl  kk) ?_
            show Go p e below _ (T44.setTop (mkF m 97 #[.val (.int p1), .val (.int p2), .val (.int p3), .val (.int p4), .val (.int p5), .val (.int ((1 : Int32) + (p1 &&& (3 : Int32)))), .val (.int ((1 : Int32) + (p2 &&& (3 : Int32)))), .val (.ref w_SQUARE), .val (.ref b7), .val (.int cc), .val (.int rr), .val (.int (-1 : Int32)), .unset] [(.int cc)]))
            refine Go.st (fun _ kk => XS.ifNo X44.here hx rfl (hb hby at_97) rfl ((if0 _ _).trans (flt hc_6).1) kk) ?_
            show Go p e below _ (T44.setTop (mkF m 100 #[.val (.int p1), .val (.int p2), .val (.int p3), .val (.int p4), .val (.int p5), .val (.int ((1 : Int32) + (p1 &&& (3 : Int32)))), .val (.int ((1 : Int32) + (p2 &&& (3 : Int32)))), .val (.ref w_SQUARE), .val (.ref b7), .val (.int cc), .val (.int rr), .val (.int (-1 : Int32)), .unset] []))
            refine Go.st (fun _ kk => XS.iload X44.here hx rfl (hb hby at_100) rfl  kk) ?_
            show Go p e below _ (T44.setTop (mkF m 102 #[.val (.int p1), .val (.int p2), .val (.int p3), .val (.int p4), .val (.int p5), .val (.int ((1 : Int32) + (p1 &&& (3 : Int32)))), .val (.int ((1 : Int32) + (p2 &&& (3 : Int32)))), .val (.ref w_SQUARE), .val (.ref b7), .val (.int cc), .val (.int rr), .val (.int (-1 : Int32)), .unset] [(.int cc)]))
            refine Go.st (fun _ kk => XS.iload X44.here hx rfl (hb hby at_102) rfl  kk) ?_
            show Go p e below _ (T44.setTop (mkF m 104 #[.val (.int p1), .val (.int p2), .val (.int p3), .val (.int p4), .val (.int p5), .val (.int ((1 : Int32) + (p1 &&& (3 : Int32)))), .val (.int ((1 : Int32) + (p2 &&& (3 : Int32)))), .val (.ref w_SQUARE), .val (.ref b7), .val (.int cc), .val (.int rr), .val (.int (-1 : Int32)), .unset] [(.int ((1 : Int32) + (p2 &&& (3 : Int32)))), (.int cc)]))
            refine Go.st (fun _ kk => XS.icmpNo X44.here hx rfl (hb hby at_104) rfl (tlt hc_7).2.1 kk) ?_
            show Go p e below _ (T44.setTop (mkF m 107 #[.val (.int p1), .val (.int p2), .val (.int p3), .val (.int p4), .val (.int p5), .val (.int ((1 : Int32) + (p1 &&& (3 : Int32)))), .val (.int ((1 : Int32) + (p2 &&& (3 : Int32)))), .val (.ref w_SQUARE), .val (.ref b7), .val (.int cc), .val (.int rr), .val (.int (-1 : Int32)), .unset] []))
            refine Go.st (fun _ kk => XS.iload X44.here hx rfl (hb hby at_107) rfl  kk) ?_
            show Go p e below _ (T44.setTop (mkF m 109 #[.val (.int p1), .val (.int p2), .val (.int p3), .val (.int p4), .val (.int p5), .val (.int ((1 : Int32) + (p1 &&& (3 : Int32)))), .val (.int ((1 : Int32) + (p2 &&& (3 : Int32)))), .val (.ref w_SQUARE), .val (.ref b7), .val (.int cc), .val (.int rr), .val (.int (-1 : Int32)), .unset] [(.int rr)]))
            refine Go.st (fun _ kk => XS.ifYes X44.here hx rfl (pc0 := 109) (pc' := 123) rfl (hb hby at_109) rfl ((if0 _ _).trans (tlt hc_8).1) (by decide) (by decide) kk) ?_
            show Go p e below _ (T44.setTop (mkF m 123 #[.val (.int p1), .val (.int p2), .val (.int p3), .val (.int p4), .val (.int p5), .val (.int ((1 : Int32) + (p1 &&& (3 : Int32)))), .val (.int ((1 : Int32) + (p2 &&& (3 : Int32)))), .val (.ref w_SQUARE), .val (.ref b7), .val (.int cc), .val (.int rr), .val (.int (-1 : Int32)), .unset] []))
            refine Go.st (fun _ kk => XS.iconst X44.here hx rfl (hb hby at_123) kk) ?_
            show Go p e below _ (T44.setTop (mkF m 124 #[.val (.int p1), .val (.int p2), .val (.int p3), .val (.int p4), .val (.int p5), .val (.int ((1 : Int32) + (p1 &&& (3 : Int32)))), .val (.int ((1 : Int32) + (p2 &&& (3 : Int32)))), .val (.ref w_SQUARE), .val (.ref b7), .val (.int cc), .val (.int rr), .val (.int (-1 : Int32)), .unset] [(.int (0 : Int32))]))
            refine Go.st (fun _ kk => XS.istore X44.here hx rfl (hb hby at_124) rfl (l' := #[.val (.int p1), .val (.int p2), .val (.int p3), .val (.int p4), .val (.int p5), .val (.int ((1 : Int32) + (p1 &&& (3 : Int32)))), .val (.int ((1 : Int32) + (p2 &&& (3 : Int32)))), .val (.ref w_SQUARE), .val (.ref b7), .val (.int cc), .val (.int rr), .val (.int (-1 : Int32)), .val (.int (0 : Int32))]) rfl kk) ?_
            show Go p e below _ (T44.setTop (mkF m 126 #[.val (.int p1), .val (.int p2), .val (.int p3), .val (.int p4), .val (.int p5), .val (.int ((1 : Int32) + (p1 &&& (3 : Int32)))), .val (.int ((1 : Int32) + (p2 &&& (3 : Int32)))), .val (.ref w_SQUARE), .val (.ref b7), .val (.int cc), .val (.int rr), .val (.int (-1 : Int32)), .val (.int (0 : Int32))] []))
            refine Go.st (fun _ kk => XS.iload X44.here hx rfl (hb hby at_126) rfl  kk) ?_
            show Go p e below _ (T44.setTop (mkF m 128 #[.val (.int p1), .val (.int p2), .val (.int p3), .val (.int p4), .val (.int p5), .val (.int ((1 : Int32) + (p1 &&& (3 : Int32)))), .val (.int ((1 : Int32) + (p2 &&& (3 : Int32)))), .val (.ref w_SQUARE), .val (.ref b7), .val (.int cc), .val (.int rr), .val (.int (-1 : Int32)), .val (.int (0 : Int32))] [(.int (0 : Int32))]))
            refine Go.st (fun _ kk => XS.ifNo X44.here hx rfl (hb hby at_128) rfl ((if0 _ _).trans (teq (by decide : ((0 : Int32) = (0 : Int32)))).2) kk) ?_
            show Go p e below _ (T44.setTop (mkF m 131 #[.val (.int p1), .val (.int p2), .val (.int p3), .val (.int p4), .val (.int p5), .val (.int ((1 : Int32) + (p1 &&& (3 : Int32)))), .val (.int ((1 : Int32) + (p2 &&& (3 : Int32)))), .val (.ref w_SQUARE), .val (.ref b7), .val (.int cc), .val (.int rr), .val (.int (-1 : Int32)), .val (.int (0 : Int32))] []))
            refine Go.st (fun _ kk => XS.iload X44.here hx rfl (hb hby at_131) rfl  kk) ?_
            show Go p e below _ (T44.setTop (mkF m 133 #[.val (.int p1), .val (.int p2), .val (.int p3), .val (.int p4), .val (.int p5), .val (.int ((1 : Int32) + (p1 &&& (3 : Int32)))), .val (.int ((1 : Int32) + (p2 &&& (3 : Int32)))), .val (.ref w_SQUARE), .val (.ref b7), .val (.int cc), .val (.int rr), .val (.int (-1 : Int32)), .val (.int (0 : Int32))] [(.int (-1 : Int32))]))
            refine Go.st (fun _ kk => XS.iconst X44.here hx rfl (hb hby at_133) kk) ?_
            show Go p e below _ (T44.setTop (mkF m 134 #[.val (.int p1), .val (.int p2), .val (.int p3), .val (.int p4), .val (.int p5), .val (.int ((1 : Int32) + (p1 &&& (3 : Int32)))), .val (.int ((1 : Int32) + (p2 &&& (3 : Int32)))), .val (.ref w_SQUARE), .val (.ref b7), .val (.int cc), .val (.int rr), .val (.int (-1 : Int32)), .val (.int (0 : Int32))] [(.int (-1 : Int32)), (.int (-1 : Int32))]))
            refine Go.st (fun _ kk => XS.icmpNo X44.here hx rfl (hb hby at_134) rfl (teq (by decide : ((-1 : Int32) = (-1 : Int32)))).2 kk) ?_
            show Go p e below _ (T44.setTop (mkF m 137 #[.val (.int p1), .val (.int p2), .val (.int p3), .val (.int p4), .val (.int p5), .val (.int ((1 : Int32) + (p1 &&& (3 : Int32)))), .val (.int ((1 : Int32) + (p2 &&& (3 : Int32)))), .val (.ref w_SQUARE), .val (.ref b7), .val (.int cc), .val (.int rr), .val (.int (-1 : Int32)), .val (.int (0 : Int32))] []))
            refine Go.st (fun _ kk => XS.iconst X44.here hx rfl (hb hby at_137) kk) ?_
            show Go p e below _ (T44.setTop (mkF m 138 #[.val (.int p1), .val (.int p2), .val (.int p3), .val (.int p4), .val (.int p5), .val (.int ((1 : Int32) + (p1 &&& (3 : Int32)))), .val (.int ((1 : Int32) + (p2 &&& (3 : Int32)))), .val (.ref w_SQUARE), .val (.ref b7), .val (.int cc), .val (.int rr), .val (.int (-1 : Int32)), .val (.int (0 : Int32))] [(.int (1 : Int32))]))
            refine Go.st (fun _ kk => XS.goto X44.here hx rfl (pc0 := 138) (pc' := 142) rfl (hb hby at_138) (by decide) (by decide) kk) ?_
            show Go p e below _ (T44.setTop (mkF m 142 #[.val (.int p1), .val (.int p2), .val (.int p3), .val (.int p4), .val (.int p5), .val (.int ((1 : Int32) + (p1 &&& (3 : Int32)))), .val (.int ((1 : Int32) + (p2 &&& (3 : Int32)))), .val (.ref w_SQUARE), .val (.ref b7), .val (.int cc), .val (.int rr), .val (.int (-1 : Int32)), .val (.int (0 : Int32))] [(.int (1 : Int32))]))
            exact Go.ret (Q := Q0 n0) X44 (v := some (.int (1 : Int32))) (fun h => by rw [Bd.returns] at h; cases h) Bd.notSynchronized (fun fs hr => retN X44 hx (t := .boolean) Bd.returns (by simp) (hb hby at_142) hr) eq44 ⟨rfl, N44⟩ (by decide) (by decide)
          · skip
            by_cases hc_9 : rr < ((1 : Int32) + (p1 &&& (3 : Int32)))
            · skip
              obtain ⟨cq44, kq44, q44a, q44b, q44c⟩ := isOf hZ rfl P43_0
              obtain ⟨_, _, ⟨T44, L44, k44, n44⟩, -, X44, ⟨Lc44, hQ44, l44, y44, z44⟩, st44⟩ := X43.virtualBack hx (y := (⟨"com/example/tabulon/tabulon/game/Board", "siteAt", "(II)I"⟩ : MethodName)) (z := (⟨"com/example/tabulon/tabulon/game/Board", "siteAt", "(II)I"⟩ : MethodName)) hown (mvT hZ (hw _ (List.mem_of_getElem? (i := 74) rfl))) (mvT hZ (hw _ (List.mem_of_getElem? (i := 75) rfl))) (notFace_of_selects (args := #[]) (mvT hZ (hw _ (List.mem_of_getElem? (i := 77) rfl)))) (mvT hZ (hw _ (List.mem_of_getElem? (i := 77) rfl))) (mvT hZ (hw _ (List.mem_of_getElem? (i := 76) rfl))) (by decide) (backOf (W := 0) (rm8_ftft l Z a0 hw [] b7 cc rr ((1 : Int32) + (p2 &&& (3 : Int32))) ((1 : Int32) + (p1 &&& (3 : Int32))) T43.heap n0 (Nat.le_trans Z0 K43.1) hc_6 P43_2 hc_7 hc_8 P43_1 hc_9) hZ (hw _ (List.mem_of_getElem? (i := 78) rfl)) (hw _ (List.mem_of_getElem? (i := 5) rfl)) (by decide) (by decide)) q44a q44c (g := (mkF m 90 #[.val (.int p1), .val (.int p2), .val (.int p3), .val (.int p4), .val (.int p5), .val (.int ((1 : Int32) + (p1 &&& (3 : Int32)))), .val (.int ((1 : Int32) + (p2 &&& (3 : Int32)))), .val (.ref w_SQUARE), .val (.ref b7), .val (.int cc), .val (.int rr), .unset, .unset] [(.int rr), (.int cc), (.ref b7)])) rfl (by rw [hml]; rfl) (Steps.refl _) (argsL := [(.int cc), (.int rr)]) (rest := []) (lenOf pd_5 rfl) rfl (by show 2 * 0 + _ ≤ _; exact Nat.le_of_eq rfl) (hb hby at_90) (fun _ _ => ⟨rfl, rfl, (by decide : 5 + 0 ≤ _), (by decide : 156 + 0 ≤ _)⟩)
              dsimp only [Pt.U, Pt.locs, Pt.cells, Pt.slots] at X44 l44 y44 z44 st44 hQ44
              subst l44 y44 z44
              obtain ⟨rfl, N44q, eq44⟩ := hQ44
              have N44 := Fr.app N43 N44q
              refine Go.tr st44 ?_
              show Go p e below _ (T44.setTop (mkF m 93 #[.val (.int p1), .val (.int p2), .val (.int p3), .val (.int p4), .val (.int p5), .val (.int ((1 : Int32) + (p1 &&& (3 : Int32)))), .val (.int ((1 : Int32) + (p2 &&& (3 : Int32)))), .val (.ref w_SQUARE), .val (.ref b7), .val (.int cc), .val (.int rr), .unset, .unset] [(.int ((rr * ((1 : Int32) + (p2 &&& (3 : Int32)))) + cc))]))
              refine Go.st (fun _ kk => XS.istore X44.here hx rfl (hb hby at_93) rfl (l' := #[.val (.int p1), .val (.int p2), .val (.int p3), .val (.int p4), .val (.int p5), .val (.int ((1 : Int32) + (p1 &&& (3 : Int32)))), .val (.int ((1 : Int32) + (p2 &&& (3 : Int32)))), .val (.ref w_SQUARE), .val (.ref b7), .val (.int cc), .val (.int rr), .val (.int ((rr * ((1 : Int32) + (p2 &&& (3 : Int32)))) + cc)), .unset]) rfl kk) ?_
              show Go p e below _ (T44.setTop (mkF m 95 #[.val (.int p1), .val (.int p2), .val (.int p3), .val (.int p4), .val (.int p5), .val (.int ((1 : Int32) + (p1 &&& (3 : Int32)))), .val (.int ((1 : Int32) + (p2 &&& (3 : Int32)))), .val (.ref w_SQUARE), .val (.ref b7), .val (.int cc), .val (.int rr), .val (.int ((rr * ((1 : Int32) + (p2 &&& (3 : Int32)))) + cc)), .unset] []))
              refine Go.st (fun _ kk => XS.iload X44.here hx rfl (hb hby at_95) rfl  kk) ?_
              show Go p e below _ (T44.setTop (mkF m 97 #[.val (.int p1), .val (.int p2), .val (.int p3), .val (.int p4), .val (.int p5), .val (.int ((1 : Int32) + (p1 &&& (3 : Int32)))), .val (.int ((1 : Int32) + (p2 &&& (3 : Int32)))), .val (.ref w_SQUARE), .val (.ref b7), .val (.int cc), .val (.int rr), .val (.int ((rr * ((1 : Int32) + (p2 &&& (3 : Int32)))) + cc)), .unset] [(.int cc)]))
              refine Go.st (fun _ kk => XS.ifNo X44.here hx rfl (hb hby at_97) rfl ((if0 _ _).trans (flt hc_6).1) kk) ?_
              show Go p e below _ (T44.setTop (mkF m 100 #[.val (.int p1), .val (.int p2), .val (.int p3), .val (.int p4), .val (.int p5), .val (.int ((1 : Int32) + (p1 &&& (3 : Int32)))), .val (.int ((1 : Int32) + (p2 &&& (3 : Int32)))), .val (.ref w_SQUARE), .val (.ref b7), .val (.int cc), .val (.int rr), .val (.int ((rr * ((1 : Int32) + (p2 &&& (3 : Int32)))) + cc)), .unset] []))
              refine Go.st (fun _ kk => XS.iload X44.here hx rfl (hb hby at_100) rfl  kk) ?_
              show Go p e below _ (T44.setTop (mkF m 102 #[.val (.int p1), .val (.int p2), .val (.int p3), .val (.int p4), .val (.int p5), .val (.int ((1 : Int32) + (p1 &&& (3 : Int32)))), .val (.int ((1 : Int32) + (p2 &&& (3 : Int32)))), .val (.ref w_SQUARE), .val (.ref b7), .val (.int cc), .val (.int rr), .val (.int ((rr * ((1 : Int32) + (p2 &&& (3 : Int32)))) + cc)), .unset] [(.int cc)]))
              refine Go.st (fun _ kk => XS.iload X44.here hx rfl (hb hby at_102) rfl  kk) ?_
              show Go p e below _ (T44.setTop (mkF m 104 #[.val (.int p1), .val (.int p2), .val (.int p3), .val (.int p4), .val (.int p5), .val (.int ((1 : Int32) + (p1 &&& (3 : Int32)))), .val (.int ((1 : Int32) + (p2 &&& (3 : Int32)))), .val (.ref w_SQUARE), .val (.ref b7), .val (.int cc), .val (.int rr), .val (.int ((rr * ((1 : Int32) + (p2 &&& (3 : Int32)))) + cc)), .unset] [(.int ((1 : Int32) + (p2 &&& (3 : Int32)))), (.int cc)]))
              refine Go.st (fun _ kk => XS.icmpNo X44.here hx rfl (hb hby at_104) rfl (tlt hc_7).2.1 kk) ?_
              show Go p e below _ (T44.setTop (mkF m 107 #[.val (.int p1), .val (.int p2), .val (.int p3), .val (.int p4), .val (.int p5), .val (.int ((1 : Int32) + (p1 &&& (3 : Int32)))), .val (.int ((1 : Int32) + (p2 &&& (3 : Int32)))), .val (.ref w_SQUARE), .val (.ref b7), .val (.int cc), .val (.int rr), .val (.int ((rr * ((1 : Int32) + (p2 &&& (3 : Int32)))) + cc)), .unset] []))
              refine Go.st (fun _ kk => XS.iload X44.here hx rfl (hb hby at_107) rfl  kk) ?_
              show Go p e below _ (T44.setTop (mkF m 109 #[.val (.int p1), .val (.int p2), .val (.int p3), .val (.int p4), .val (.int p5), .val (.int ((1 : Int32) + (p1 &&& (3 : Int32)))), .val (.int ((1 : Int32) + (p2 &&& (3 : Int32)))), .val (.ref w_SQUARE), .val (.ref b7), .val (.int cc), .val (.int rr), .val (.int ((rr * ((1 : Int32) + (p2 &&& (3 : Int32)))) + cc)), .unset] [(.int rr)]))
              refine Go.st (fun _ kk => XS.ifNo X44.here hx rfl (hb hby at_109) rfl ((if0 _ _).trans (flt hc_8).1) kk) ?_
              show Go p e below _ (T44.setTop (mkF m 112 #[.val (.int p1), .val (.int p2), .val (.int p3), .val (.int p4), .val (.int p5), .val (.int ((1 : Int32) + (p1 &&& (3 : Int32)))), .val (.int ((1 : Int32) + (p2 &&& (3 : Int32)))), .val (.ref w_SQUARE), .val (.ref b7), .val (.int cc), .val (.int rr), .val (.int ((rr * ((1 : Int32) + (p2 &&& (3 : Int32)))) + cc)), .unset] []))
              refine Go.st (fun _ kk => XS.iload X44.here hx rfl (hb hby at_112) rfl  kk) ?_
              show Go p e below _ (T44.setTop (mkF m 114 #[.val (.int p1), .val (.int p2), .val (.int p3), .val (.int p4), .val (.int p5), .val (.int ((1 : Int32) + (p1 &&& (3 : Int32)))), .val (.int ((1 : Int32) + (p2 &&& (3 : Int32)))), .val (.ref w_SQUARE), .val (.ref b7), .val (.int cc), .val (.int rr), .val (.int ((rr * ((1 : Int32) + (p2 &&& (3 : Int32)))) + cc)), .unset] [(.int rr)]))
              refine Go.st (fun _ kk => XS.iload X44.here hx rfl (hb hby at_114) rfl  kk) ?_
              show Go p e below _ (T44.setTop (mkF m 116 #[.val (.int p1), .val (.int p2), .val (.int p3), .val (.int p4), .val (.int p5), .val (.int ((1 : Int32) + (p1 &&& (3 : Int32)))), .val (.int ((1 : Int32) + (p2 &&& (3 : Int32)))), .val (.ref w_SQUARE), .val (.ref b7), .val (.int cc), .val (.int rr), .val (.int ((rr * ((1 : Int32) + (p2 &&& (3 : Int32)))) + cc)), .unset] [(.int ((1 : Int32) + (p1 &&& (3 : Int32)))), (.int rr)]))
              refine Go.st (fun _ kk => XS.icmpNo X44.here hx rfl (hb hby at_116) rfl (tlt hc_9).2.1 kk) ?_
              show Go p e below _ (T44.setTop (mkF m 119 #[.val (.int p1), .val (.int p2), .val (.int p3), .val (.int p4), .val (.int p5), .val (.int ((1 : Int32) + (p1 &&& (3 : Int32)))), .val (.int ((1 : Int32) + (p2 &&& (3 : Int32)))), .val (.ref w_SQUARE), .val (.ref b7), .val (.int cc), .val (.int rr), .val (.int ((rr * ((1 : Int32) + (p2 &&& (3 : Int32)))) + cc)), .unset] []))
              refine Go.st (fun _ kk => XS.iconst X44.here hx rfl (hb hby at_119) kk) ?_
              show Go p e below _ (T44.setTop (mkF m 120 #[.val (.int p1), .val (.int p2), .val (.int p3), .val (.int p4), .val (.int p5), .val (.int ((1 : Int32) + (p1 &&& (3 : Int32)))), .val (.int ((1 : Int32) + (p2 &&& (3 : Int32)))), .val (.ref w_SQUARE), .val (.ref b7), .val (.int cc), .val (.int rr), .val (.int ((rr * ((1 : Int32) + (p2 &&& (3 : Int32)))) + cc)), .unset] [(.int (1 : Int32))]))
              refine Go.st (fun _ kk => XS.goto X44.here hx rfl (pc0 := 120) (pc' := 124) rfl (hb hby at_120) (by decide) (by decide) kk) ?_
              show Go p e below _ (T44.setTop (mkF m 124 #[.val (.int p1), .val (.int p2), .val (.int p3), .val (.int p4), .val (.int p5), .val (.int ((1 : Int32) + (p1 &&& (3 : Int32)))), .val (.int ((1 : Int32) + (p2 &&& (3 : Int32)))), .val (.ref w_SQUARE), .val (.ref b7), .val (.int cc), .val (.int rr), .val (.int ((rr * ((1 : Int32) + (p2 &&& (3 : Int32)))) + cc)), .unset] [(.int (1 : Int32))]))
              refine Go.st (fun _ kk => XS.istore X44.here hx rfl (hb hby at_124) rfl (l' := #[.val (.int p1), .val (.int p2), .val (.int p3), .val (.int p4), .val (.int p5), .val (.int ((1 : Int32) + (p1 &&& (3 : Int32)))), .val (.int ((1 : Int32) + (p2 &&& (3 : Int32)))), .val (.ref w_SQUARE), .val (.ref b7), .val (.int cc), .val (.int rr), .val (.int ((rr * ((1 : Int32) + (p2 &&& (3 : Int32)))) + cc)), .val (.int (1 : Int32))]) rfl kk) ?_
              show Go p e below _ (T44.setTop (mkF m 126 #[.val (.int p1), .val (.int p2), .val (.int p3), .val (.int p4), .val (.int p5), .val (.int ((1 : Int32) + (p1 &&& (3 : Int32)))), .val (.int ((1 : Int32) + (p2 &&& (3 : Int32)))), .val (.ref w_SQUARE), .val (.ref b7), .val (.int cc), .val (.int rr), .val (.int ((rr * ((1 : Int32) + (p2 &&& (3 : Int32)))) + cc)), .val (.int (1 : Int32))] []))
              refine Go.st (fun _ kk => XS.iload X44.here hx rfl (hb hby at_126) rfl  kk) ?_
              show Go p e below _ (T44.setTop (mkF m 128 #[.val (.int p1), .val (.int p2), .val (.int p3), .val (.int p4), .val (.int p5), .val (.int ((1 : Int32) + (p1 &&& (3 : Int32)))), .val (.int ((1 : Int32) + (p2 &&& (3 : Int32)))), .val (.ref w_SQUARE), .val (.ref b7), .val (.int cc), .val (.int rr), .val (.int ((rr * ((1 : Int32) + (p2 &&& (3 : Int32)))) + cc)), .val (.int (1 : Int32))] [(.int (1 : Int32))]))
              refine Go.st (fun _ kk => XS.ifYes X44.here hx rfl (pc0 := 128) (pc' := 143) rfl (hb hby at_128) rfl ((if0 _ _).trans (feq (by decide : ¬ ((1 : Int32) = (0 : Int32)))).2) (by decide) (by decide) kk) ?_
              show Go p e below _ (T44.setTop (mkF m 143 #[.val (.int p1), .val (.int p2), .val (.int p3), .val (.int p4), .val (.int p5), .val (.int ((1 : Int32) + (p1 &&& (3 : Int32)))), .val (.int ((1 : Int32) + (p2 &&& (3 : Int32)))), .val (.ref w_SQUARE), .val (.ref b7), .val (.int cc), .val (.int rr), .val (.int ((rr * ((1 : Int32) + (p2 &&& (3 : Int32)))) + cc)), .val (.int (1 : Int32))] []))
              refine Go.st (fun _ kk => XS.iload X44.here hx rfl (hb hby at_143) rfl  kk) ?_
              show Go p e below _ (T44.setTop (mkF m 145 #[.val (.int p1), .val (.int p2), .val (.int p3), .val (.int p4), .val (.int p5), .val (.int ((1 : Int32) + (p1 &&& (3 : Int32)))), .val (.int ((1 : Int32) + (p2 &&& (3 : Int32)))), .val (.ref w_SQUARE), .val (.ref b7), .val (.int cc), .val (.int rr), .val (.int ((rr * ((1 : Int32) + (p2 &&& (3 : Int32)))) + cc)), .val (.int (1 : Int32))] [(.int ((rr * ((1 : Int32) + (p2 &&& (3 : Int32)))) + cc))]))
              refine Go.st (fun _ kk => XS.ifNo X44.here hx rfl (hb hby at_145) rfl ((if0 _ _).trans (flt (own_site (own_14 p1) (own_14 p2) hc_6 hc_7 hc_8 hc_9).1).1) kk) ?_
              show Go p e below _ (T44.setTop (mkF m 148 #[.val (.int p1), .val (.int p2), .val (.int p3), .val (.int p4), .val (.int p5), .val (.int ((1 : Int32) + (p1 &&& (3 : Int32)))), .val (.int ((1 : Int32) + (p2 &&& (3 : Int32)))), .val (.ref w_SQUARE), .val (.ref b7), .val (.int cc), .val (.int rr), .val (.int ((rr * ((1 : Int32) + (p2 &&& (3 : Int32)))) + cc)), .val (.int (1 : Int32))] []))
              refine Go.st (fun _ kk => XS.iload X44.here hx rfl (hb hby at_148) rfl  kk) ?_
              show Go p e below _ (T44.setTop (mkF m 150 #[.val (.int p1), .val (.int p2), .val (.int p3), .val (.int p4), .val (.int p5), .val (.int ((1 : Int32) + (p1 &&& (3 : Int32)))), .val (.int ((1 : Int32) + (p2 &&& (3 : Int32)))), .val (.ref w_SQUARE), .val (.ref b7), .val (.int cc), .val (.int rr), .val (.int ((rr * ((1 : Int32) + (p2 &&& (3 : Int32)))) + cc)), .val (.int (1 : Int32))] [(.int ((rr * ((1 : Int32) + (p2 &&& (3 : Int32)))) + cc))]))
              refine Go.st (fun _ kk => XS.iload X44.here hx rfl (hb hby at_150) rfl  kk) ?_
              show Go p e below _ (T44.setTop (mkF m 152 #[.val (.int p1), .val (.int p2), .val (.int p3), .val (.int p4), .val (.int p5), .val (.int ((1 : Int32) + (p1 &&& (3 : Int32)))), .val (.int ((1 : Int32) + (p2 &&& (3 : Int32)))), .val (.ref w_SQUARE), .val (.ref b7), .val (.int cc), .val (.int rr), .val (.int ((rr * ((1 : Int32) + (p2 &&& (3 : Int32)))) + cc)), .val (.int (1 : Int32))] [(.int ((1 : Int32) + (p1 &&& (3 : Int32)))), (.int ((rr * ((1 : Int32) + (p2 &&& (3 : Int32)))) + cc))]))
              refine Go.st (fun _ kk => XS.iload X44.here hx rfl (hb hby at_152) rfl  kk) ?_
              show Go p e below _ (T44.setTop (mkF m 154 #[.val (.int p1), .val (.int p2), .val (.int p3), .val (.int p4), .val (.int p5), .val (.int ((1 : Int32) + (p1 &&& (3 : Int32)))), .val (.int ((1 : Int32) + (p2 &&& (3 : Int32)))), .val (.ref w_SQUARE), .val (.ref b7), .val (.int cc), .val (.int rr), .val (.int ((rr * ((1 : Int32) + (p2 &&& (3 : Int32)))) + cc)), .val (.int (1 : Int32))] [(.int ((1 : Int32) + (p2 &&& (3 : Int32)))), (.int ((1 : Int32) + (p1 &&& (3 : Int32)))), (.int ((rr * ((1 : Int32) + (p2 &&& (3 : Int32)))) + cc))]))
              refine Go.st (fun _ kk => XS.imul X44.here hx rfl (hb hby at_154) rfl kk) ?_
              show Go p e below _ (T44.setTop (mkF m 155 #[.val (.int p1), .val (.int p2), .val (.int p3), .val (.int p4), .val (.int p5), .val (.int ((1 : Int32) + (p1 &&& (3 : Int32)))), .val (.int ((1 : Int32) + (p2 &&& (3 : Int32)))), .val (.ref w_SQUARE), .val (.ref b7), .val (.int cc), .val (.int rr), .val (.int ((rr * ((1 : Int32) + (p2 &&& (3 : Int32)))) + cc)), .val (.int (1 : Int32))] [(.int (((1 : Int32) + (p1 &&& (3 : Int32))) * ((1 : Int32) + (p2 &&& (3 : Int32))))), (.int ((rr * ((1 : Int32) + (p2 &&& (3 : Int32)))) + cc))]))
              refine Go.st (fun _ kk => XS.icmpNo X44.here hx rfl (hb hby at_155) rfl (tlt (own_site (own_14 p1) (own_14 p2) hc_6 hc_7 hc_8 hc_9).2.1).2.1 kk) ?_
              show Go p e below _ (T44.setTop (mkF m 158 #[.val (.int p1), .val (.int p2), .val (.int p3), .val (.int p4), .val (.int p5), .val (.int ((1 : Int32) + (p1 &&& (3 : Int32)))), .val (.int ((1 : Int32) + (p2 &&& (3 : Int32)))), .val (.ref w_SQUARE), .val (.ref b7), .val (.int cc), .val (.int rr), .val (.int ((rr * ((1 : Int32) + (p2 &&& (3 : Int32)))) + cc)), .val (.int (1 : Int32))] []))
              refine Go.st (fun _ kk => XS.aload X44.here hx rfl (hb hby at_158) rfl rfl  kk) ?_
              show Go p e below _ (T44.setTop (mkF m 160 #[.val (.int p1), .val (.int p2), .val (.int p3), .val (.int p4), .val (.int p5), .val (.int ((1 : Int32) + (p1 &&& (3 : Int32)))), .val (.int ((1 : Int32) + (p2 &&& (3 : Int32)))), .val (.ref w_SQUARE), .val (.ref b7), .val (.int cc), .val (.int rr), .val (.int ((rr * ((1 : Int32) + (p2 &&& (3 : Int32)))) + cc)), .val (.int (1 : Int32))] [(.ref b7)]))
              refine Go.st (fun _ kk => XS.iload X44.here hx rfl (hb hby at_160) rfl  kk) ?_
              show Go p e below _ (T44.setTop (mkF m 162 #[.val (.int p1), .val (.int p2), .val (.int p3), .val (.int p4), .val (.int p5), .val (.int ((1 : Int32) + (p1 &&& (3 : Int32)))), .val (.int ((1 : Int32) + (p2 &&& (3 : Int32)))), .val (.ref w_SQUARE), .val (.ref b7), .val (.int cc), .val (.int rr), .val (.int ((rr * ((1 : Int32) + (p2 &&& (3 : Int32)))) + cc)), .val (.int (1 : Int32))] [(.int ((rr * ((1 : Int32) + (p2 &&& (3 : Int32)))) + cc)), (.ref b7)]))
              obtain ⟨cq45, kq45, q45a, q45b, q45c⟩ := isOf hZ eq44 P43_0
              obtain ⟨_, _, ⟨T45, L45, k45, n45⟩, -, X45, ⟨Lc45, hQ45, l45, y45, z45⟩, st45⟩ := X44.virtualBack hx (y := (⟨"com/example/tabulon/tabulon/game/Board", "column", "(I)I"⟩ : MethodName)) (z := (⟨"com/example/tabulon/tabulon/game/Board", "column", "(I)I"⟩ : MethodName)) hown (mvT hZ (hw _ (List.mem_of_getElem? (i := 81) rfl))) (mvT hZ (hw _ (List.mem_of_getElem? (i := 65) rfl))) (notFace_of_selects (args := #[]) (mvT hZ (hw _ (List.mem_of_getElem? (i := 67) rfl)))) (mvT hZ (hw _ (List.mem_of_getElem? (i := 67) rfl))) (mvT hZ (hw _ (List.mem_of_getElem? (i := 66) rfl))) (by decide) (backOf (W := 0) (rm6_f l Z a0 hw [] b7 ((rr * ((1 : Int32) + (p2 &&& (3 : Int32)))) + cc) ((1 : Int32) + (p2 &&& (3 : Int32))) T43.heap n0 (Nat.le_trans Z0 K43.1) P43_2 (own_nz (own_14 p2))) hZ (hw _ (List.mem_of_getElem? (i := 68) rfl)) (hw _ (List.mem_of_getElem? (i := 5) rfl)) (by decide) (by decide)) q45a q45c (g := (mkF m 162 #[.val (.int p1), .val (.int p2), .val (.int p3), .val (.int p4), .val (.int p5), .val (.int ((1 : Int32) + (p1 &&& (3 : Int32)))), .val (.int ((1 : Int32) + (p2 &&& (3 : Int32)))), .val (.ref w_SQUARE), .val (.ref b7), .val (.int cc), .val (.int rr), .val (.int ((rr * ((1 : Int32) + (p2 &&& (3 : Int32)))) + cc)), .val (.int (1 : Int32))] [(.int ((rr * ((1 : Int32) + (p2 &&& (3 : Int32)))) + cc)), (.ref b7)])) rfl (by rw [hml]; rfl) (Steps.refl _) (argsL := [(.int ((rr * ((1 : Int32) + (p2 &&& (3 : Int32)))) + cc))]) (rest := []) (lenOf pd_0 rfl) rfl (by show 2 * 0 + _ ≤ _; exact Nat.le_of_eq rfl) (hb hby at_162) (fun _ _ => ⟨rfl, eq44, (by decide : 5 + 0 ≤ _), (by decide : 156 + 0 ≤ _)⟩)
              dsimp only [Pt.U, Pt.locs, Pt.cells, Pt.slots] at X45 l45 y45 z45 st45 hQ45
              subst l45 y45 z45
              obtain ⟨rfl, N45q, eq45⟩ := hQ45
              have N45 := Fr.app N44 N45q
              refine Go.tr st45 ?_
              show Go p e below _ (T45.setTop (mkF m 165 #[.val (.int p1), .val (.int p2), .val (.int p3), .val (.int p4), .val (.int p5), .val (.int ((1 : Int32) + (p1 &&& (3 : Int32)))), .val (.int ((1 : Int32) + (p2 &&& (3 : Int32)))), .val (.ref w_SQUARE), .val (.ref b7), .val (.int cc), .val (.int rr), .val (.int ((rr * ((1 : Int32) + (p2 &&& (3 : Int32)))) + cc)), .val (.int (1 : Int32))] [(.int (((rr * ((1 : Int32) + (p2 &&& (3 : Int32)))) + cc) % ((1 : Int32) + (p2 &&& (3 : Int32)))))]))
              refine Go.st (fun _ kk => XS.iload X45.here hx rfl (hb hby at_165) rfl  kk) ?_
              show Go p e below _ (T45.setTop (mkF m 167 #[.val (.int p1), .val (.int p2), .val (.int p3), .val (.int p4), .val (.int p5), .val (.int ((1 : Int32) + (p1 &&& (3 : Int32)))), .val (.int ((1 : Int32) + (p2 &&& (3 : Int32)))), .val (.ref w_SQUARE), .val (.ref b7), .val (.int cc), .val (.int rr), .val (.int ((rr * ((1 : Int32) + (p2 &&& (3 : Int32)))) + cc)), .val (.int (1 : Int32))] [(.int cc), (.int (((rr * ((1 : Int32) + (p2 &&& (3 : Int32)))) + cc) % ((1 : Int32) + (p2 &&& (3 : Int32)))))]))
              refine Go.st (fun _ kk => XS.icmpNo X45.here hx rfl (hb hby at_167) rfl (teq (own_site (own_14 p1) (own_14 p2) hc_6 hc_7 hc_8 hc_9).2.2.1).2 kk) ?_
              show Go p e below _ (T45.setTop (mkF m 170 #[.val (.int p1), .val (.int p2), .val (.int p3), .val (.int p4), .val (.int p5), .val (.int ((1 : Int32) + (p1 &&& (3 : Int32)))), .val (.int ((1 : Int32) + (p2 &&& (3 : Int32)))), .val (.ref w_SQUARE), .val (.ref b7), .val (.int cc), .val (.int rr), .val (.int ((rr * ((1 : Int32) + (p2 &&& (3 : Int32)))) + cc)), .val (.int (1 : Int32))] []))
              refine Go.st (fun _ kk => XS.aload X45.here hx rfl (hb hby at_170) rfl rfl  kk) ?_
              show Go p e below _ (T45.setTop (mkF m 172 #[.val (.int p1), .val (.int p2), .val (.int p3), .val (.int p4), .val (.int p5), .val (.int ((1 : Int32) + (p1 &&& (3 : Int32)))), .val (.int ((1 : Int32) + (p2 &&& (3 : Int32)))), .val (.ref w_SQUARE), .val (.ref b7), .val (.int cc), .val (.int rr), .val (.int ((rr * ((1 : Int32) + (p2 &&& (3 : Int32)))) + cc)), .val (.int (1 : Int32))] [(.ref b7)]))
              refine Go.st (fun _ kk => XS.iload X45.here hx rfl (hb hby at_172) rfl  kk) ?_
              show Go p e below _ (T45.setTop (mkF m 174 #[.val (.int p1), .val (.int p2), .val (.int p3), .val (.int p4), .val (.int p5), .val (.int ((1 : Int32) + (p1 &&& (3 : Int32)))), .val (.int ((1 : Int32) + (p2 &&& (3 : Int32)))), .val (.ref w_SQUARE), .val (.ref b7), .val (.int cc), .val (.int rr), .val (.int ((rr * ((1 : Int32) + (p2 &&& (3 : Int32)))) + cc)), .val (.int (1 : Int32))] [(.int ((rr * ((1 : Int32) + (p2 &&& (3 : Int32)))) + cc)), (.ref b7)]))
              obtain ⟨cq46, kq46, q46a, q46b, q46c⟩ := isOf hZ eq45 P43_0
              obtain ⟨_, _, ⟨T46, L46, k46, n46⟩, -, X46, ⟨Lc46, hQ46, l46, y46, z46⟩, st46⟩ := X45.virtualBack hx (y := (⟨"com/example/tabulon/tabulon/game/Board", "row", "(I)I"⟩ : MethodName)) (z := (⟨"com/example/tabulon/tabulon/game/Board", "row", "(I)I"⟩ : MethodName)) hown (mvT hZ (hw _ (List.mem_of_getElem? (i := 82) rfl))) (mvT hZ (hw _ (List.mem_of_getElem? (i := 70) rfl))) (notFace_of_selects (args := #[]) (mvT hZ (hw _ (List.mem_of_getElem? (i := 72) rfl)))) (mvT hZ (hw _ (List.mem_of_getElem? (i := 72) rfl))) (mvT hZ (hw _ (List.mem_of_getElem? (i := 71) rfl))) (by decide) (backOf (W := 0) (rm7_f l Z a0 hw [] b7 ((rr * ((1 : Int32) + (p2 &&& (3 : Int32)))) + cc) ((1 : Int32) + (p2 &&& (3 : Int32))) T43.heap n0 (Nat.le_trans Z0 K43.1) P43_2 (own_nz (own_14 p2))) hZ (hw _ (List.mem_of_getElem? (i := 73) rfl)) (hw _ (List.mem_of_getElem? (i := 5) rfl)) (by decide) (by decide)) q46a q46c (g := (mkF m 174 #[.val (.int p1), .val (.int p2), .val (.int p3), .val (.int p4), .val (.int p5), .val (.int ((1 : Int32) + (p1 &&& (3 : Int32)))), .val (.int ((1 : Int32) + (p2 &&& (3 : Int32)))), .val (.ref w_SQUARE), .val (.ref b7), .val (.int cc), .val (.int rr), .val (.int ((rr * ((1 : Int32) + (p2 &&& (3 : Int32)))) + cc)), .val (.int (1 : Int32))] [(.int ((rr * ((1 : Int32) + (p2 &&& (3 : Int32)))) + cc)), (.ref b7)])) rfl (by rw [hml]; rfl) (Steps.refl _) (argsL := [(.int ((rr * ((1 : Int32) + (p2 &&& (3 : Int32)))) + cc))]) (rest := []) (lenOf pd_0 rfl) rfl (by show 2 * 0 + _ ≤ _; exact Nat.le_of_eq rfl) (hb hby at_174) (fun _ _ => ⟨rfl, eq45, (by decide : 5 + 0 ≤ _), (by decide : 156 + 0 ≤ _)⟩)
              dsimp only [Pt.U, Pt.locs, Pt.cells, Pt.slots] at X46 l46 y46 z46 st46 hQ46
              subst l46 y46 z46
              obtain ⟨rfl, N46q, eq46⟩ := hQ46
              have N46 := Fr.app N45 N46q
              refine Go.tr st46 ?_
              show Go p e below _ (T46.setTop (mkF m 177 #[.val (.int p1), .val (.int p2), .val (.int p3), .val (.int p4), .val (.int p5), .val (.int ((1 : Int32) + (p1 &&& (3 : Int32)))), .val (.int ((1 : Int32) + (p2 &&& (3 : Int32)))), .val (.ref w_SQUARE), .val (.ref b7), .val (.int cc), .val (.int rr), .val (.int ((rr * ((1 : Int32) + (p2 &&& (3 : Int32)))) + cc)), .val (.int (1 : Int32))] [(.int (((rr * ((1 : Int32) + (p2 &&& (3 : Int32)))) + cc) / ((1 : Int32) + (p2 &&& (3 : Int32)))))]))
              refine Go.st (fun _ kk => XS.iload X46.here hx rfl (hb hby at_177) rfl  kk) ?_
              show Go p e below _ (T46.setTop (mkF m 179 #[.val (.int p1), .val (.int p2), .val (.int p3), .val (.int p4), .val (.int p5), .val (.int ((1 : Int32) + (p1 &&& (3 : Int32)))), .val (.int ((1 : Int32) + (p2 &&& (3 : Int32)))), .val (.ref w_SQUARE), .val (.ref b7), .val (.int cc), .val (.int rr), .val (.int ((rr * ((1 : Int32) + (p2 &&& (3 : Int32)))) + cc)), .val (.int (1 : Int32))] [(.int rr), (.int (((rr * ((1 : Int32) + (p2 &&& (3 : Int32)))) + cc) / ((1 : Int32) + (p2 &&& (3 : Int32)))))]))
              refine Go.st (fun _ kk => XS.icmpNo X46.here hx rfl (hb hby at_179) rfl (teq (own_site (own_14 p1) (own_14 p2) hc_6 hc_7 hc_8 hc_9).2.2.2).2 kk) ?_
              show Go p e below _ (T46.setTop (mkF m 182 #[.val (.int p1), .val (.int p2), .val (.int p3), .val (.int p4), .val (.int p5), .val (.int ((1 : Int32) + (p1 &&& (3 : Int32)))), .val (.int ((1 : Int32) + (p2 &&& (3 : Int32)))), .val (.ref w_SQUARE), .val (.ref b7), .val (.int cc), .val (.int rr), .val (.int ((rr * ((1 : Int32) + (p2 &&& (3 : Int32)))) + cc)), .val (.int (1 : Int32))] []))
              refine Go.st (fun _ kk => XS.iconst X46.here hx rfl (hb hby at_182) kk) ?_
              show Go p e below _ (T46.setTop (mkF m 183 #[.val (.int p1), .val (.int p2), .val (.int p3), .val (.int p4), .val (.int p5), .val (.int ((1 : Int32) + (p1 &&& (3 : Int32)))), .val (.int ((1 : Int32) + (p2 &&& (3 : Int32)))), .val (.ref w_SQUARE), .val (.ref b7), .val (.int cc), .val (.int rr), .val (.int ((rr * ((1 : Int32) + (p2 &&& (3 : Int32)))) + cc)), .val (.int (1 : Int32))] [(.int (1 : Int32))]))
              refine Go.st (fun _ kk => XS.goto X46.here hx rfl (pc0 := 183) (pc' := 187) rfl (hb hby at_183) (by decide) (by decide) kk) ?_
              show Go p e below _ (T46.setTop (mkF m 187 #[.val (.int p1), .val (.int p2), .val (.int p3), .val (.int p4), .val (.int p5), .val (.int ((1 : Int32) + (p1 &&& (3 : Int32)))), .val (.int ((1 : Int32) + (p2 &&& (3 : Int32)))), .val (.ref w_SQUARE), .val (.ref b7), .val (.int cc), .val (.int rr), .val (.int ((rr * ((1 : Int32) + (p2 &&& (3 : Int32)))) + cc)), .val (.int (1 : Int32))] [(.int (1 : Int32))]))
              exact Go.ret (Q := Q0 n0) X46 (v := some (.int (1 : Int32))) (fun h => by rw [Bd.returns] at h; cases h) Bd.notSynchronized (fun fs hr => retN X46 hx (t := .boolean) Bd.returns (by simp) (hb hby at_187) hr) eq46 ⟨rfl, N46⟩ (by decide) (by decide)
            · skip
              obtain ⟨cq44, kq44, q44a, q44b, q44c⟩ := isOf hZ rfl P43_0
              obtain ⟨_, _, ⟨T44, L44, k44, n44⟩, -, X44, ⟨Lc44, hQ44, l44, y44, z44⟩, st44⟩ := X43.virtualBack hx (y := (⟨"com/example/tabulon/tabulon/game/Board", "siteAt", "(II)I"⟩ : MethodName)) (z := (⟨"com/example/tabulon/tabulon/game/Board", "siteAt", "(II)I"⟩ : MethodName)) hown (mvT hZ (hw _ (List.mem_of_getElem? (i := 74) rfl))) (mvT hZ (hw _ (List.mem_of_getElem? (i := 75) rfl))) (notFace_of_selects (args := #[]) (mvT hZ (hw _ (List.mem_of_getElem? (i := 77) rfl)))) (mvT hZ (hw _ (List.mem_of_getElem? (i := 77) rfl))) (mvT hZ (hw _ (List.mem_of_getElem? (i := 76) rfl))) (by decide) (backOf (W := 0) (rm8_ftff l Z a0 hw [] b7 cc rr ((1 : Int32) + (p2 &&& (3 : Int32))) ((1 : Int32) + (p1 &&& (3 : Int32))) T43.heap n0 (Nat.le_trans Z0 K43.1) hc_6 P43_2 hc_7 hc_8 P43_1 hc_9) hZ (hw _ (List.mem_of_getElem? (i := 78) rfl)) (hw _ (List.mem_of_getElem? (i := 5) rfl)) (by decide) (by decide)) q44a q44c (g := (mkF m 90 #[.val (.int p1), .val (.int p2), .val (.int p3), .val (.int p4), .val (.int p5), .val (.int ((1 : Int32) + (p1 &&& (3 : Int32)))), .val (.int ((1 : Int32) + (p2 &&& (3 : Int32)))), .val (.ref w_SQUARE), .val (.ref b7), .val (.int cc), .val (.int rr), .unset, .unset] [(.int rr), (.int cc), (.ref b7)])) rfl (by rw [hml]; rfl) (Steps.refl _) (argsL := [(.int cc), (.int rr)]) (rest := []) (lenOf pd_5 rfl) rfl (by show 2 * 0 + _ ≤ _; exact Nat.le_of_eq rfl) (hb hby at_90) (fun _ _ => ⟨rfl, rfl, (by decide : 5 + 0 ≤ _), (by decide : 156 + 0 ≤ _)⟩)
              dsimp only [Pt.U, Pt.locs, Pt.cells, Pt.slots] at X44 l44 y44 z44 st44 hQ44
              subst l44 y44 z44
              obtain ⟨rfl, N44q, eq44⟩ := hQ44
              have N44 := Fr.app N43 N44q
              refine Go.tr st44 ?_
              show Go p e below _ (T44.setTop (mkF m 93 #[.val (.int p1), .val (.int p2), .val (.int p3), .val (.int p4), .val (.int p5), .val (.int ((1 : Int32) + (p1 &&& (3 : Int32)))), .val (.int ((1 : Int32) + (p2 &&& (3 : Int32)))), .val (.ref w_SQUARE), .val (.ref b7), .val (.int cc), .val (.int rr), .unset, .unset] [(.int (-1 : Int32))]))
              refine Go.st (fun _ kk => XS.istore X44.here hx rfl (hb hby at_93) rfl (l' := #[.val (.int p1), .val (.int p2), .val (.int p3), .val (.int p4), .val (.int p5), .val (.int ((1 : Int32) + (p1 &&& (3 : Int32)))), .val (.int ((1 : Int32) + (p2 &&& (3 : Int32)))), .val (.ref w_SQUARE), .val (.ref b7), .val (.int cc), .val (.int rr), .val (.int (-1 : Int32)), .unset]) rfl kk) ?_
              show Go p e below _ (T44.setTop (mkF m 95 #[.val (.int p1), .val (.int p2), .val (.int p3), .val (.int p4), .val (.int p5), .val (.int ((1 : Int32) + (p1 &&& (3 : Int32)))), .val (.int ((1 : Int32) + (p2 &&& (3 : Int32)))), .val (.ref w_SQUARE), .val (.ref b7), .val (.int cc), .val (.int rr), .val (.int (-1 : Int32)), .unset] []))
              refine Go.st (fun _ kk => XS.iload X44.here hx rfl (hb hby at_95) rfl  kk) ?_
              show Go p e below _ (T44.setTop (mkF m 97 #[.val (.int p1), .val (.int p2), .val (.int p3), .val (.int p4), .val (.int p5), .val (.int ((1 : Int32) + (p1 &&& (3 : Int32)))), .val (.int ((1 : Int32) + (p2 &&& (3 : Int32)))), .val (.ref w_SQUARE), .val (.ref b7), .val (.int cc), .val (.int rr), .val (.int (-1 : Int32)), .unset] [(.int cc)]))
              refine Go.st (fun _ kk => XS.ifNo X44.here hx rfl (hb hby at_97) rfl ((if0 _ _).trans (flt hc_6).1) kk) ?_
              show Go p e below _ (T44.setTop (mkF m 100 #[.val (.int p1), .val (.int p2), .val (.int p3), .val (.int p4), .val (.int p5), .val (.int ((1 : Int32) + (p1 &&& (3 : Int32)))), .val (.int ((1 : Int32) + (p2 &&& (3 : Int32)))), .val (.ref w_SQUARE), .val (.ref b7), .val (.int cc), .val (.int rr), .val (.int (-1 : Int32)), .unset] []))
              refine Go.st (fun _ kk => XS.iload X44.here hx rfl (hb hby at_100) rfl  kk) ?_
              show Go p e below _ (T44.setTop (mkF m 102 #[.val (.int p1), .val (.int p2), .val (.int p3), .val (.int p4), .val (.int p5), .val (.int ((1 : Int32) + (p1 &&& (3 : Int32)))), .val (.int ((1 : Int32) + (p2 &&& (3 : Int32)))), .val (.ref w_SQUARE), .val (.ref b7), .val (.int cc), .val (.int rr), .val (.int (-1 : Int32)), .unset] [(.int cc)]))
              refine Go.st (fun _ kk => XS.iload X44.here hx rfl (hb hby at_102) rfl  kk) ?_
              show Go p e below _ (T44.setTop (mkF m 104 #[.val (.int p1), .val (.int p2), .val (.int p3), .val (.int p4), .val (.int p5), .val (.int ((1 : Int32) + (p1 &&& (3 : Int32)))), .val (.int ((1 : Int32) + (p2 &&& (3 : Int32)))), .val (.ref w_SQUARE), .val (.ref b7), .val (.int cc), .val (.int rr), .val (.int (-1 : Int32)), .unset] [(.int ((1 : Int32) + (p2 &&& (3 : Int32)))), (.int cc)]))
              refine Go.st (fun _ kk => XS.icmpNo X44.here hx rfl (hb hby at_104) rfl (tlt hc_7).2.1 kk) ?_
              show Go p e below _ (T44.setTop (mkF m 107 #[.val (.int p1), .val (.int p2), .val (.int p3), .val (.int p4), .val (.int p5), .val (.int ((1 : Int32) + (p1 &&& (3 : Int32)))), .val (.int ((1 : Int32) + (p2 &&& (3 : Int32)))), .val (.ref w_SQUARE), .val (.ref b7), .val (.int cc), .val (.int rr), .val (.int (-1 : Int32)), .unset] []))
              refine Go.st (fun _ kk => XS.iload X44.here hx rfl (hb hby at_107) rfl  kk) ?_
              show Go p e below _ (T44.setTop (mkF m 109 #[.val (.int p1), .val (.int p2), .val (.int p3), .val (.int p4), .val (.int p5), .val (.int ((1 : Int32) + (p1 &&& (3 : Int32)))), .val (.int ((1 : Int32) + (p2 &&& (3 : Int32)))), .val (.ref w_SQUARE), .val (.ref b7), .val (.int cc), .val (.int rr), .val (.int (-1 : Int32)), .unset] [(.int rr)]))
              refine Go.st (fun _ kk => XS.ifNo X44.here hx rfl (hb hby at_109) rfl ((if0 _ _).trans (flt hc_8).1) kk) ?_
              show Go p e below _ (T44.setTop (mkF m 112 #[.val (.int p1), .val (.int p2), .val (.int p3), .val (.int p4), .val (.int p5), .val (.int ((1 : Int32) + (p1 &&& (3 : Int32)))), .val (.int ((1 : Int32) + (p2 &&& (3 : Int32)))), .val (.ref w_SQUARE), .val (.ref b7), .val (.int cc), .val (.int rr), .val (.int (-1 : Int32)), .unset] []))
              refine Go.st (fun _ kk => XS.iload X44.here hx rfl (hb hby at_112) rfl  kk) ?_
              show Go p e below _ (T44.setTop (mkF m 114 #[.val (.int p1), .val (.int p2), .val (.int p3), .val (.int p4), .val (.int p5), .val (.int ((1 : Int32) + (p1 &&& (3 : Int32)))), .val (.int ((1 : Int32) + (p2 &&& (3 : Int32)))), .val (.ref w_SQUARE), .val (.ref b7), .val (.int cc), .val (.int rr), .val (.int (-1 : Int32)), .unset] [(.int rr)]))
              refine Go.st (fun _ kk => XS.iload X44.here hx rfl (hb hby at_114) rfl  kk) ?_
              show Go p e below _ (T44.setTop (mkF m 116 #[.val (.int p1), .val (.int p2), .val (.int p3), .val (.int p4), .val (.int p5), .val (.int ((1 : Int32) + (p1 &&& (3 : Int32)))), .val (.int ((1 : Int32) + (p2 &&& (3 : Int32)))), .val (.ref w_SQUARE), .val (.ref b7), .val (.int cc), .val (.int rr), .val (.int (-1 : Int32)), .unset] [(.int ((1 : Int32) + (p1 &&& (3 : Int32)))), (.int rr)]))
              refine Go.st (fun _ kk => XS.icmpYes X44.here hx rfl (pc0 := 116) (pc' := 123) rfl (hb hby at_116) rfl (flt hc_9).2.1 (by decide) (by decide) kk) ?_
              show Go p e below _ (T44.setTop (mkF m 123 #[.val (.int p1), .val (.int p2), .val (.int p3), .val (.int p4), .val (.int p5), .val (.int ((1 : Int32) + (p1 &&& (3 : Int32)))), .val (.int ((1 : Int32) + (p2 &&& (3 : Int32)))), .val (.ref w_SQUARE), .val (.ref b7), .val (.int cc), .val (.int rr), .val (.int (-1 : Int32)), .unset] []))
              refine Go.st (fun _ kk => XS.iconst X44.here hx rfl (hb hby at_123) kk) ?_
              show Go p e below _ (T44.setTop (mkF m 124 #[.val (.int p1), .val (.int p2), .val (.int p3), .val (.int p4), .val (.int p5), .val (.int ((1 : Int32) + (p1 &&& (3 : Int32)))), .val (.int ((1 : Int32) + (p2 &&& (3 : Int32)))), .val (.ref w_SQUARE), .val (.ref b7), .val (.int cc), .val (.int rr), .val (.int (-1 : Int32)), .unset] [(.int (0 : Int32))]))
              refine Go.st (fun _ kk => XS.istore X44.here hx rfl (hb hby at_124) rfl (l' := #[.val (.int p1), .val (.int p2), .val (.int p3), .val (.int p4), .val (.int p5), .val (.int ((1 : Int32) + (p1 &&& (3 : Int32)))), .val (.int ((1 : Int32) + (p2 &&& (3 : Int32)))), .val (.ref w_SQUARE), .val (.ref b7), .val (.int cc), .val (.int rr), .val (.int (-1 : Int32)), .val (.int (0 : Int32))]) rfl kk) ?_
              show Go p e below _ (T44.setTop (mkF m 126 #[.val (.int p1), .val (.int p2), .val (.int p3), .val (.int p4), .val (.int p5), .val (.int ((1 : Int32) + (p1 &&& (3 : Int32)))), .val (.int ((1 : Int32) + (p2 &&& (3 : Int32)))), .val (.ref w_SQUARE), .val (.ref b7), .val (.int cc), .val (.int rr), .val (.int (-1 : Int32)), .val (.int (0 : Int32))] []))
              refine Go.st (fun _ kk => XS.iload X44.here hx rfl (hb hby at_126) rfl  kk) ?_
              show Go p e below _ (T44.setTop (mkF m 128 #[.val (.int p1), .val (.int p2), .val (.int p3), .val (.int p4), .val (.int p5), .val (.int ((1 : Int32) + (p1 &&& (3 : Int32)))), .val (.int ((1 : Int32) + (p2 &&& (3 : Int32)))), .val (.ref w_SQUARE), .val (.ref b7), .val (.int cc), .val (.int rr), .val (.int (-1 : Int32)), .val (.int (0 : Int32))] [(.int (0 : Int32))]))
              refine Go.st (fun _ kk => XS.ifNo X44.here hx rfl (hb hby at_128) rfl ((if0 _ _).trans (teq (by decide : ((0 : Int32) = (0 : Int32)))).2) kk) ?_
              show Go p e below _ (T44.setTop (mkF m 131 #[.val (.int p1), .val (.int p2), .val (.int p3), .val (.int p4), .val (.int p5), .val (.int ((1 : Int32) + (p1 &&& (3 : Int32)))), .val (.int ((1 : Int32) + (p2 &&& (3 : Int32)))), .val (.ref w_SQUARE), .val (.ref b7), .val (.int cc), .val (.int rr), .val (.int (-1 : Int32)), .val (.int (0 : Int32))] []))
              refine Go.st (fun _ kk => XS.iload X44.here hx rfl (hb hby at_131) rfl  kk) ?_
              show Go p e below _ (T44.setTop (mkF m 133 #[.val (.int p1), .val (.int p2), .val (.int p3), .val (.int p4), .val (.int p5), .val (.int ((1 : Int32) + (p1 &&& (3 : Int32)))), .val (.int ((1 : Int32) + (p2 &&& (3 : Int32)))), .val (.ref w_SQUARE), .val (.ref b7), .val (.int cc), .val (.int rr), .val (.int (-1 : Int32)), .val (.int (0 : Int32))] [(.int (-1 : Int32))]))
              refine Go.st (fun _ kk => XS.iconst X44.here hx rfl (hb hby at_133) kk) ?_
              show Go p e below _ (T44.setTop (mkF m 134 #[.val (.int p1), .val (.int p2), .val (.int p3), .val (.int p4), .val (.int p5), .val (.int ((1 : Int32) + (p1 &&& (3 : Int32)))), .val (.int ((1 : Int32) + (p2 &&& (3 : Int32)))), .val (.ref w_SQUARE), .val (.ref b7), .val (.int cc), .val (.int rr), .val (.int (-1 : Int32)), .val (.int (0 : Int32))] [(.int (-1 : Int32)), (.int (-1 : Int32))]))
              refine Go.st (fun _ kk => XS.icmpNo X44.here hx rfl (hb hby at_134) rfl (teq (by decide : ((-1 : Int32) = (-1 : Int32)))).2 kk) ?_
              show Go p e below _ (T44.setTop (mkF m 137 #[.val (.int p1), .val (.int p2), .val (.int p3), .val (.int p4), .val (.int p5), .val (.int ((1 : Int32) + (p1 &&& (3 : Int32)))), .val (.int ((1 : Int32) + (p2 &&& (3 : Int32)))), .val (.ref w_SQUARE), .val (.ref b7), .val (.int cc), .val (.int rr), .val (.int (-1 : Int32)), .val (.int (0 : Int32))] []))
              refine Go.st (fun _ kk => XS.iconst X44.here hx rfl (hb hby at_137) kk) ?_
              show Go p e below _ (T44.setTop (mkF m 138 #[.val (.int p1), .val (.int p2), .val (.int p3), .val (.int p4), .val (.int p5), .val (.int ((1 : Int32) + (p1 &&& (3 : Int32)))), .val (.int ((1 : Int32) + (p2 &&& (3 : Int32)))), .val (.ref w_SQUARE), .val (.ref b7), .val (.int cc), .val (.int rr), .val (.int (-1 : Int32)), .val (.int (0 : Int32))] [(.int (1 : Int32))]))
              refine Go.st (fun _ kk => XS.goto X44.here hx rfl (pc0 := 138) (pc' := 142) rfl (hb hby at_138) (by decide) (by decide) kk) ?_
              show Go p e below _ (T44.setTop (mkF m 142 #[.val (.int p1), .val (.int p2), .val (.int p3), .val (.int p4), .val (.int p5), .val (.int ((1 : Int32) + (p1 &&& (3 : Int32)))), .val (.int ((1 : Int32) + (p2 &&& (3 : Int32)))), .val (.ref w_SQUARE), .val (.ref b7), .val (.int cc), .val (.int rr), .val (.int (-1 : Int32)), .val (.int (0 : Int32))] [(.int (1 : Int32))]))
              exact Go.ret (Q := Q0 n0) X44 (v := some (.int (1 : Int32))) (fun h => by rw [Bd.returns] at h; cases h) Bd.notSynchronized (fun fs hr => retN X44 hx (t := .boolean) Bd.returns (by simp) (hb hby at_142) hr) eq44 ⟨rfl, N44⟩ (by decide) (by decide)
        · skip
          obtain ⟨cq44, kq44, q44a, q44b, q44c⟩ := isOf hZ rfl P43_0
          obtain ⟨_, _, ⟨T44, L44, k44, n44⟩, -, X44, ⟨Lc44, hQ44, l44, y44, z44⟩, st44⟩ := X43.virtualBack hx (y := (⟨"com/example/tabulon/tabulon/game/Board", "siteAt", "(II)I"⟩ : MethodName)) (z := (⟨"com/example/tabulon/tabulon/game/Board", "siteAt", "(II)I"⟩ : MethodName)) hown (mvT hZ (hw _ (List.mem_of_getElem? (i := 74) rfl))) (mvT hZ (hw _ (List.mem_of_getElem? (i := 75) rfl))) (notFace_of_selects (args := #[]) (mvT hZ (hw _ (List.mem_of_getElem? (i := 77) rfl)))) (mvT hZ (hw _ (List.mem_of_getElem? (i := 77) rfl))) (mvT hZ (hw _ (List.mem_of_getElem? (i := 76) rfl))) (by decide) (backOf (W := 0) (rm8_ff l Z a0 hw [] b7 cc rr ((1 : Int32) + (p2 &&& (3 : Int32))) T43.heap n0 (Nat.le_trans Z0 K43.1) hc_6 P43_2 hc_7) hZ (hw _ (List.mem_of_getElem? (i := 78) rfl)) (hw _ (List.mem_of_getElem? (i := 5) rfl)) (by decide) (by decide)) q44a q44c (g := (mkF m 90 #[.val (.int p1), .val (.int p2), .val (.int p3), .val (.int p4), .val (.int p5), .val (.int ((1 : Int32) + (p1 &&& (3 : Int32)))), .val (.int ((1 : Int32) + (p2 &&& (3 : Int32)))), .val (.ref w_SQUARE), .val (.ref b7), .val (.int cc), .val (.int rr), .unset, .unset] [(.int rr), (.int cc), (.ref b7)])) rfl (by rw [hml]; rfl) (Steps.refl _) (argsL := [(.int cc), (.int rr)]) (rest := []) (lenOf pd_5 rfl) rfl (by show 2 * 0 + _ ≤ _; exact Nat.le_of_eq rfl) (hb hby at_90) (fun _ _ => ⟨rfl, rfl, (by decide : 5 + 0 ≤ _), (by decide : 156 + 0 ≤ _)⟩)
          dsimp only [Pt.U, Pt.locs, Pt.cells, Pt.slots] at X44 l44 y44 z44 st44 hQ44
          subst l44 y44 z44
          obtain ⟨rfl, N44q, eq44⟩ := hQ44
          have N44 := Fr.app N43 N44q
          refine Go.tr st44 ?_
          show Go p e below _ (T44.setTop (mkF m 93 #[.val (.int p1), .val (.int p2), .val (.int p3), .val (.int p4), .val (.int p5), .val (.int ((1 : Int32) + (p1 &&& (3 : Int32)))), .val (.int ((1 : Int32) + (p2 &&& (3 : Int32)))), .val (.ref w_SQUARE), .val (.ref b7), .val (.int cc), .val (.int rr), .unset, .unset] [(.int (-1 : Int32))]))
          refine Go.st (fun _ kk => XS.istore X44.here hx rfl (hb hby at_93) rfl (l' := #[.val (.int p1), .val (.int p2), .val (.int p3), .val (.int p4), .val (.int p5), .val (.int ((1 : Int32) + (p1 &&& (3 : Int32)))), .val (.int ((1 : Int32) + (p2 &&& (3 : Int32)))), .val (.ref w_SQUARE), .val (.ref b7), .val (.int cc), .val (.int rr), .val (.int (-1 : Int32)), .unset]) rfl kk) ?_
          show Go p e below _ (T44.setTop (mkF m 95 #[.val (.int p1), .val (.int p2), .val (.int p3), .val (.int p4), .val (.int p5), .val (.int ((1 : Int32) + (p1 &&& (3 : Int32)))), .val (.int ((1 : Int32) + (p2 &&& (3 : Int32)))), .val (.ref w_SQUARE), .val (.ref b7), .val (.int cc), .val (.int rr), .val (.int (-1 : Int32)), .unset] []))
          refine Go.st (fun _ kk => XS.iload X44.here hx rfl (hb hby at_95) rfl  kk) ?_
          show Go p e below _ (T44.setTop (mkF m 97 #[.val (.int p1), .val (.int p2), .val (.int p3), .val (.int p4), .val (.int p5), .val (.int ((1 : Int32) + (p1 &&& (3 : Int32)))), .val (.int ((1 : Int32) + (p2 &&& (3 : Int32)))), .val (.ref w_SQUARE), .val (.ref b7), .val (.int cc), .val (.int rr), .val (.int (-1 : Int32)), .unset] [(.int cc)]))
          refine Go.st (fun _ kk => XS.ifNo X44.here hx rfl (hb hby at_97) rfl ((if0 _ _).trans (flt hc_6).1) kk) ?_
          show Go p e below _ (T44.setTop (mkF m 100 #[.val (.int p1), .val (.int p2), .val (.int p3), .val (.int p4), .val (.int p5), .val (.int ((1 : Int32) + (p1 &&& (3 : Int32)))), .val (.int ((1 : Int32) + (p2 &&& (3 : Int32)))), .val (.ref w_SQUARE), .val (.ref b7), .val (.int cc), .val (.int rr), .val (.int (-1 : Int32)), .unset] []))
          refine Go.st (fun _ kk => XS.iload X44.here hx rfl (hb hby at_100) rfl  kk) ?_
          show Go p e below _ (T44.setTop (mkF m 102 #[.val (.int p1), .val (.int p2), .val (.int p3), .val (.int p4), .val (.int p5), .val (.int ((1 : Int32) + (p1 &&& (3 : Int32)))), .val (.int ((1 : Int32) + (p2 &&& (3 : Int32)))), .val (.ref w_SQUARE), .val (.ref b7), .val (.int cc), .val (.int rr), .val (.int (-1 : Int32)), .unset] [(.int cc)]))
          refine Go.st (fun _ kk => XS.iload X44.here hx rfl (hb hby at_102) rfl  kk) ?_
          show Go p e below _ (T44.setTop (mkF m 104 #[.val (.int p1), .val (.int p2), .val (.int p3), .val (.int p4), .val (.int p5), .val (.int ((1 : Int32) + (p1 &&& (3 : Int32)))), .val (.int ((1 : Int32) + (p2 &&& (3 : Int32)))), .val (.ref w_SQUARE), .val (.ref b7), .val (.int cc), .val (.int rr), .val (.int (-1 : Int32)), .unset] [(.int ((1 : Int32) + (p2 &&& (3 : Int32)))), (.int cc)]))
          refine Go.st (fun _ kk => XS.icmpYes X44.here hx rfl (pc0 := 104) (pc' := 123) rfl (hb hby at_104) rfl (flt hc_7).2.1 (by decide) (by decide) kk) ?_
          show Go p e below _ (T44.setTop (mkF m 123 #[.val (.int p1), .val (.int p2), .val (.int p3), .val (.int p4), .val (.int p5), .val (.int ((1 : Int32) + (p1 &&& (3 : Int32)))), .val (.int ((1 : Int32) + (p2 &&& (3 : Int32)))), .val (.ref w_SQUARE), .val (.ref b7), .val (.int cc), .val (.int rr), .val (.int (-1 : Int32)), .unset] []))
          refine Go.st (fun _ kk => XS.iconst X44.here hx rfl (hb hby at_123) kk) ?_
          show Go p e below _ (T44.setTop (mkF m 124 #[.val (.int p1), .val (.int p2), .val (.int p3), .val (.int p4), .val (.int p5), .val (.int ((1 : Int32) + (p1 &&& (3 : Int32)))), .val (.int ((1 : Int32) + (p2 &&& (3 : Int32)))), .val (.ref w_SQUARE), .val (.ref b7), .val (.int cc), .val (.int rr), .val (.int (-1 : Int32)), .unset] [(.int (0 : Int32))]))
          refine Go.st (fun _ kk => XS.istore X44.here hx rfl (hb hby at_124) rfl (l' := #[.val (.int p1), .val (.int p2), .val (.int p3), .val (.int p4), .val (.int p5), .val (.int ((1 : Int32) + (p1 &&& (3 : Int32)))), .val (.int ((1 : Int32) + (p2 &&& (3 : Int32)))), .val (.ref w_SQUARE), .val (.ref b7), .val (.int cc), .val (.int rr), .val (.int (-1 : Int32)), .val (.int (0 : Int32))]) rfl kk) ?_
          show Go p e below _ (T44.setTop (mkF m 126 #[.val (.int p1), .val (.int p2), .val (.int p3), .val (.int p4), .val (.int p5), .val (.int ((1 : Int32) + (p1 &&& (3 : Int32)))), .val (.int ((1 : Int32) + (p2 &&& (3 : Int32)))), .val (.ref w_SQUARE), .val (.ref b7), .val (.int cc), .val (.int rr), .val (.int (-1 : Int32)), .val (.int (0 : Int32))] []))
          refine Go.st (fun _ kk => XS.iload X44.here hx rfl (hb hby at_126) rfl  kk) ?_
          show Go p e below _ (T44.setTop (mkF m 128 #[.val (.int p1), .val (.int p2), .val (.int p3), .val (.int p4), .val (.int p5), .val (.int ((1 : Int32) + (p1 &&& (3 : Int32)))), .val (.int ((1 : Int32) + (p2 &&& (3 : Int32)))), .val (.ref w_SQUARE), .val (.ref b7), .val (.int cc), .val (.int rr), .val (.int (-1 : Int32)), .val (.int (0 : Int32))] [(.int (0 : Int32))]))
          refine Go.st (fun _ kk => XS.ifNo X44.here hx rfl (hb hby at_128) rfl ((if0 _ _).trans (teq (by decide : ((0 : Int32) = (0 : Int32)))).2) kk) ?_
          show Go p e below _ (T44.setTop (mkF m 131 #[.val (.int p1), .val (.int p2), .val (.int p3), .val (.int p4), .val (.int p5), .val (.int ((1 : Int32) + (p1 &&& (3 : Int32)))), .val (.int ((1 : Int32) + (p2 &&& (3 : Int32)))), .val (.ref w_SQUARE), .val (.ref b7), .val (.int cc), .val (.int rr), .val (.int (-1 : Int32)), .val (.int (0 : Int32))] []))
          refine Go.st (fun _ kk => XS.iload X44.here hx rfl (hb hby at_131) rfl  kk) ?_
          show Go p e below _ (T44.setTop (mkF m 133 #[.val (.int p1), .val (.int p2), .val (.int p3), .val (.int p4), .val (.int p5), .val (.int ((1 : Int32) + (p1 &&& (3 : Int32)))), .val (.int ((1 : Int32) + (p2 &&& (3 : Int32)))), .val (.ref w_SQUARE), .val (.ref b7), .val (.int cc), .val (.int rr), .val (.int (-1 : Int32)), .val (.int (0 : Int32))] [(.int (-1 : Int32))]))
          refine Go.st (fun _ kk => XS.iconst X44.here hx rfl (hb hby at_133) kk) ?_
          show Go p e below _ (T44.setTop (mkF m 134 #[.val (.int p1), .val (.int p2), .val (.int p3), .val (.int p4), .val (.int p5), .val (.int ((1 : Int32) + (p1 &&& (3 : Int32)))), .val (.int ((1 : Int32) + (p2 &&& (3 : Int32)))), .val (.ref w_SQUARE), .val (.ref b7), .val (.int cc), .val (.int rr), .val (.int (-1 : Int32)), .val (.int (0 : Int32))] [(.int (-1 : Int32)), (.int (-1 : Int32))]))
          refine Go.st (fun _ kk => XS.icmpNo X44.here hx rfl (hb hby at_134) rfl (teq (by decide : ((-1 : Int32) = (-1 : Int32)))).2 kk) ?_
          show Go p e below _ (T44.setTop (mkF m 137 #[.val (.int p1), .val (.int p2), .val (.int p3), .val (.int p4), .val (.int p5), .val (.int ((1 : Int32) + (p1 &&& (3 : Int32)))), .val (.int ((1 : Int32) + (p2 &&& (3 : Int32)))), .val (.ref w_SQUARE), .val (.ref b7), .val (.int cc), .val (.int rr), .val (.int (-1 : Int32)), .val (.int (0 : Int32))] []))
          refine Go.st (fun _ kk => XS.iconst X44.here hx rfl (hb hby at_137) kk) ?_
          show Go p e below _ (T44.setTop (mkF m 138 #[.val (.int p1), .val (.int p2), .val (.int p3), .val (.int p4), .val (.int p5), .val (.int ((1 : Int32) + (p1 &&& (3 : Int32)))), .val (.int ((1 : Int32) + (p2 &&& (3 : Int32)))), .val (.ref w_SQUARE), .val (.ref b7), .val (.int cc), .val (.int rr), .val (.int (-1 : Int32)), .val (.int (0 : Int32))] [(.int (1 : Int32))]))
          refine Go.st (fun _ kk => XS.goto X44.here hx rfl (pc0 := 138) (pc' := 142) rfl (hb hby at_138) (by decide) (by decide) kk) ?_
          show Go p e below _ (T44.setTop (mkF m 142 #[.val (.int p1), .val (.int p2), .val (.int p3), .val (.int p4), .val (.int p5), .val (.int ((1 : Int32) + (p1 &&& (3 : Int32)))), .val (.int ((1 : Int32) + (p2 &&& (3 : Int32)))), .val (.ref w_SQUARE), .val (.ref b7), .val (.int cc), .val (.int rr), .val (.int (-1 : Int32)), .val (.int (0 : Int32))] [(.int (1 : Int32))]))
          exact Go.ret (Q := Q0 n0) X44 (v := some (.int (1 : Int32))) (fun h => by rw [Bd.returns] at h; cases h) Bd.notSynchronized (fun fs hr => retN X44 hx (t := .boolean) Bd.returns (by simp) (hb hby at_142) hr) eq44 ⟨rfl, N44⟩ (by decide) (by decide)
    refine Go.st (fun _ kk => XS.iloadN X43.here hx rfl (hb hby at_46) rfl  kk) ?_
    show Go p e below _ (T43.setTop (mkF m 47 #[.val (.int p1), .val (.int p2), .val (.int p3), .val (.int p4), .val (.int p5), .val (.int ((1 : Int32) + (p1 &&& (3 : Int32)))), .val (.int ((1 : Int32) + (p2 &&& (3 : Int32)))), .val (.ref w_SQUARE), .val (.ref b7), .unset, .unset, .unset, .unset] [(.int p3)]))
    refine Go.st (fun _ kk => XS.iconst X43.here hx rfl (hb hby at_47) kk) ?_
    show Go p e below _ (T43.setTop (mkF m 48 #[.val (.int p1), .val (.int p2), .val (.int p3), .val (.int p4), .val (.int p5), .val (.int ((1 : Int32) + (p1 &&& (3 : Int32)))), .val (.int ((1 : Int32) + (p2 &&& (3 : Int32)))), .val (.ref w_SQUARE), .val (.ref b7), .unset, .unset, .unset, .unset] [(.int (1 : Int32)), (.int p3)]))
    refine Go.st (fun _ kk => XS.iand X43.here hx rfl (hb hby at_48) rfl kk) ?_
    show Go p e below _ (T43.setTop (mkF m 49 #[.val (.int p1), .val (.int p2), .val (.int p3), .val (.int p4), .val (.int p5), .val (.int ((1 : Int32) + (p1 &&& (3 : Int32)))), .val (.int ((1 : Int32) + (p2 &&& (3 : Int32)))), .val (.ref w_SQUARE), .val (.ref b7), .unset, .unset, .unset, .unset] [(.int (p3 &&& (1 : Int32)))]))
    by_cases hc_10 : (p3 &&& (1 : Int32)) = (0 : Int32)
    · skip
      refine Go.st (fun _ kk => XS.ifYes X43.here hx rfl (pc0 := 49) (pc' := 56) rfl (hb hby at_49) rfl ((if0 _ _).trans (teq hc_10).1) (by decide) (by decide) kk) ?_
      show Go p e below _ (T43.setTop (mkF m 56 #[.val (.int p1), .val (.int p2), .val (.int p3), .val (.int p4), .val (.int p5), .val (.int ((1 : Int32) + (p1 &&& (3 : Int32)))), .val (.int ((1 : Int32) + (p2 &&& (3 : Int32)))), .val (.ref w_SQUARE), .val (.ref b7), .unset, .unset, .unset, .unset] []))
      refine Go.st (fun _ kk => XS.iloadN X43.here hx rfl (hb hby at_56) rfl  kk) ?_
      show Go p e below _ (T43.setTop (mkF m 57 #[.val (.int p1), .val (.int p2), .val (.int p3), .val (.int p4), .val (.int p5), .val (.int ((1 : Int32) + (p1 &&& (3 : Int32)))), .val (.int ((1 : Int32) + (p2 &&& (3 : Int32)))), .val (.ref w_SQUARE), .val (.ref b7), .unset, .unset, .unset, .unset] [(.int p4)]))
      refine Go.st (fun _ kk => XS.bipush X43.here hx rfl (hb hby at_57) kk) ?_
      show Go p e below _ (T43.setTop (mkF m 59 #[.val (.int p1), .val (.int p2), .val (.int p3), .val (.int p4), .val (.int p5), .val (.int ((1 : Int32) + (p1 &&& (3 : Int32)))), .val (.int ((1 : Int32) + (p2 &&& (3 : Int32)))), .val (.ref w_SQUARE), .val (.ref b7), .unset, .unset, .unset, .unset] [(.int (7 : Int32)), (.int p4)]))
      refine Go.st (fun _ kk => XS.iand X43.here hx rfl (hb hby at_59) rfl kk) ?_
      show Go p e below _ (T43.setTop (mkF m 60 #[.val (.int p1), .val (.int p2), .val (.int p3), .val (.int p4), .val (.int p5), .val (.int ((1 : Int32) + (p1 &&& (3 : Int32)))), .val (.int ((1 : Int32) + (p2 &&& (3 : Int32)))), .val (.ref w_SQUARE), .val (.ref b7), .unset, .unset, .unset, .unset] [(.int (p4 &&& (7 : Int32)))]))
      refine Go.st (fun _ kk => XS.iconst X43.here hx rfl (hb hby at_60) kk) ?_
      show Go p e below _ (T43.setTop (mkF m 61 #[.val (.int p1), .val (.int p2), .val (.int p3), .val (.int p4), .val (.int p5), .val (.int ((1 : Int32) + (p1 &&& (3 : Int32)))), .val (.int ((1 : Int32) + (p2 &&& (3 : Int32)))), .val (.ref w_SQUARE), .val (.ref b7), .unset, .unset, .unset, .unset] [(.int (2 : Int32)), (.int (p4 &&& (7 : Int32)))]))
      refine Go.st (fun _ kk => XS.isub X43.here hx rfl (hb hby at_61) rfl kk) ?_
      show Go p e below _ (T43.setTop (mkF m 62 #[.val (.int p1), .val (.int p2), .val (.int p3), .val (.int p4), .val (.int p5), .val (.int ((1 : Int32) + (p1 &&& (3 : Int32)))), .val (.int ((1 : Int32) + (p2 &&& (3 : Int32)))), .val (.ref w_SQUARE), .val (.ref b7), .unset, .unset, .unset, .unset] [(.int ((p4 &&& (7 : Int32)) - (2 : Int32)))]))
      refine Go.st (fun _ kk => XS.istore X43.here hx rfl (hb hby at_62) rfl (l' := #[.val (.int p1), .val (.int p2), .val (.int p3), .val (.int p4), .val (.int p5), .val (.int ((1 : Int32) + (p1 &&& (3 : Int32)))), .val (.int ((1 : Int32) + (p2 &&& (3 : Int32)))), .val (.ref w_SQUARE), .val (.ref b7), .val (.int ((p4 &&& (7 : Int32)) - (2 : Int32))), .unset, .unset, .unset]) rfl kk) ?_
      show Go p e below _ (T43.setTop (mkF m 64 #[.val (.int p1), .val (.int p2), .val (.int p3), .val (.int p4), .val (.int p5), .val (.int ((1 : Int32) + (p1 &&& (3 : Int32)))), .val (.int ((1 : Int32) + (p2 &&& (3 : Int32)))), .val (.ref w_SQUARE), .val (.ref b7), .val (.int ((p4 &&& (7 : Int32)) - (2 : Int32))), .unset, .unset, .unset] []))
      refine Go.st (fun _ kk => XS.iloadN X43.here hx rfl (hb hby at_64) rfl  kk) ?_
      show Go p e below _ (T43.setTop (mkF m 65 #[.val (.int p1), .val (.int p2), .val (.int p3), .val (.int p4), .val (.int p5), .val (.int ((1 : Int32) + (p1 &&& (3 : Int32)))), .val (.int ((1 : Int32) + (p2 &&& (3 : Int32)))), .val (.ref w_SQUARE), .val (.ref b7), .val (.int ((p4 &&& (7 : Int32)) - (2 : Int32))), .unset, .unset, .unset] [(.int p3)]))
      refine Go.st (fun _ kk => XS.iconst X43.here hx rfl (hb hby at_65) kk) ?_
      show Go p e below _ (T43.setTop (mkF m 66 #[.val (.int p1), .val (.int p2), .val (.int p3), .val (.int p4), .val (.int p5), .val (.int ((1 : Int32) + (p1 &&& (3 : Int32)))), .val (.int ((1 : Int32) + (p2 &&& (3 : Int32)))), .val (.ref w_SQUARE), .val (.ref b7), .val (.int ((p4 &&& (7 : Int32)) - (2 : Int32))), .unset, .unset, .unset] [(.int (2 : Int32)), (.int p3)]))
      refine Go.st (fun _ kk => XS.iand X43.here hx rfl (hb hby at_66) rfl kk) ?_
      show Go p e below _ (T43.setTop (mkF m 67 #[.val (.int p1), .val (.int p2), .val (.int p3), .val (.int p4), .val (.int p5), .val (.int ((1 : Int32) + (p1 &&& (3 : Int32)))), .val (.int ((1 : Int32) + (p2 &&& (3 : Int32)))), .val (.ref w_SQUARE), .val (.ref b7), .val (.int ((p4 &&& (7 : Int32)) - (2 : Int32))), .unset, .unset, .unset] [(.int (p3 &&& (2 : Int32)))]))
      by_cases hc_11 : (p3 &&& (2 : Int32)) = (0 : Int32)
      · skip
        refine Go.st (fun _ kk => XS.ifYes X43.here hx rfl (pc0 := 67) (pc' := 75) rfl (hb hby at_67) rfl ((if0 _ _).trans (teq hc_11).1) (by decide) (by decide) kk) ?_
        show Go p e below _ (T43.setTop (mkF m 75 #[.val (.int p1), .val (.int p2), .val (.int p3), .val (.int p4), .val (.int p5), .val (.int ((1 : Int32) + (p1 &&& (3 : Int32)))), .val (.int ((1 : Int32) + (p2 &&& (3 : Int32)))), .val (.ref w_SQUARE), .val (.ref b7), .val (.int ((p4 &&& (7 : Int32)) - (2 : Int32))), .unset, .unset, .unset] []))
        refine Go.st (fun _ kk => XS.iload X43.here hx rfl (hb hby at_75) rfl  kk) ?_
        show Go p e below _ (T43.setTop (mkF m 77 #[.val (.int p1), .val (.int p2), .val (.int p3), .val (.int p4), .val (.int p5), .val (.int ((1 : Int32) + (p1 &&& (3 : Int32)))), .val (.int ((1 : Int32) + (p2 &&& (3 : Int32)))), .val (.ref w_SQUARE), .val (.ref b7), .val (.int ((p4 &&& (7 : Int32)) - (2 : Int32))), .unset, .unset, .unset] [(.int p5)]))
        refine Go.st (fun _ kk => XS.bipush X43.here hx rfl (hb hby at_77) kk) ?_
        show Go p e below _ (T43.setTop (mkF m 79 #[.val (.int p1), .val (.int p2), .val (.int p3), .val (.int p4), .val (.int p5), .val (.int ((1 : Int32) + (p1 &&& (3 : Int32)))), .val (.int ((1 : Int32) + (p2 &&& (3 : Int32)))), .val (.ref w_SQUARE), .val (.ref b7), .val (.int ((p4 &&& (7 : Int32)) - (2 : Int32))), .unset, .unset, .unset] [(.int (7 : Int32)), (.int p5)]))
        refine Go.st (fun _ kk => XS.iand X43.here hx rfl (hb hby at_79) rfl kk) ?_
        show Go p e below _ (T43.setTop (mkF m 80 #[.val (.int p1), .val (.int p2), .val (.int p3), .val (.int p4), .val (.int p5), .val (.int ((1 : Int32) + (p1 &&& (3 : Int32)))), .val (.int ((1 : Int32) + (p2 &&& (3 : Int32)))), .val (.ref w_SQUARE), .val (.ref b7), .val (.int ((p4 &&& (7 : Int32)) - (2 : Int32))), .unset, .unset, .unset] [(.int (p5 &&& (7 : Int32)))]))
        refine Go.st (fun _ kk => XS.iconst X43.here hx rfl (hb hby at_80) kk) ?_
        show Go p e below _ (T43.setTop (mkF m 81 #[.val (.int p1), .val (.int p2), .val (.int p3), .val (.int p4), .val (.int p5), .val (.int ((1 : Int32) + (p1 &&& (3 : Int32)))), .val (.int ((1 : Int32) + (p2 &&& (3 : Int32)))), .val (.ref w_SQUARE), .val (.ref b7), .val (.int ((p4 &&& (7 : Int32)) - (2 : Int32))), .unset, .unset, .unset] [(.int (2 : Int32)), (.int (p5 &&& (7 : Int32)))]))
        refine Go.st (fun _ kk => XS.isub X43.here hx rfl (hb hby at_81) rfl kk) ?_
        show Go p e below _ (T43.setTop (mkF m 82 #[.val (.int p1), .val (.int p2), .val (.int p3), .val (.int p4), .val (.int p5), .val (.int ((1 : Int32) + (p1 &&& (3 : Int32)))), .val (.int ((1 : Int32) + (p2 &&& (3 : Int32)))), .val (.ref w_SQUARE), .val (.ref b7), .val (.int ((p4 &&& (7 : Int32)) - (2 : Int32))), .unset, .unset, .unset] [(.int ((p5 &&& (7 : Int32)) - (2 : Int32)))]))
        refine Go.st (fun _ kk => XS.istore X43.here hx rfl (hb hby at_82) rfl (l' := #[.val (.int p1), .val (.int p2), .val (.int p3), .val (.int p4), .val (.int p5), .val (.int ((1 : Int32) + (p1 &&& (3 : Int32)))), .val (.int ((1 : Int32) + (p2 &&& (3 : Int32)))), .val (.ref w_SQUARE), .val (.ref b7), .val (.int ((p4 &&& (7 : Int32)) - (2 : Int32))), .val (.int ((p5 &&& (7 : Int32)) - (2 : Int32))), .unset, .unset]) rfl kk) ?_
        show Go p e below _ (T43.setTop (mkF m 84 #[.val (.int p1), .val (.int p2), .val (.int p3), .val (.int p4), .val (.int p5), .val (.int ((1 : Int32) + (p1 &&& (3 : Int32)))), .val (.int ((1 : Int32) + (p2 &&& (3 : Int32)))), .val (.ref w_SQUARE), .val (.ref b7), .val (.int ((p4 &&& (7 : Int32)) - (2 : Int32))), .val (.int ((p5 &&& (7 : Int32)) - (2 : Int32))), .unset, .unset] []))
        exact tail _ _
      · skip
        refine Go.st (fun _ kk => XS.ifNo X43.here hx rfl (hb hby at_67) rfl ((if0 _ _).trans (feq hc_11).1) kk) ?_
        show Go p e below _ (T43.setTop (mkF m 70 #[.val (.int p1), .val (.int p2), .val (.int p3), .val (.int p4), .val (.int p5), .val (.int ((1 : Int32) + (p1 &&& (3 : Int32)))), .val (.int ((1 : Int32) + (p2 &&& (3 : Int32)))), .val (.ref w_SQUARE), .val (.ref b7), .val (.int ((p4 &&& (7 : Int32)) - (2 : Int32))), .unset, .unset, .unset] []))
        refine Go.st (fun _ kk => XS.iload X43.here hx rfl (hb hby at_70) rfl  kk) ?_
        show Go p e below _ (T43.setTop (mkF m 72 #[.val (.int p1), .val (.int p2), .val (.int p3), .val (.int p4), .val (.int p5), .val (.int ((1 : Int32) + (p1 &&& (3 : Int32)))), .val (.int ((1 : Int32) + (p2 &&& (3 : Int32)))), .val (.ref w_SQUARE), .val (.ref b7), .val (.int ((p4 &&& (7 : Int32)) - (2 : Int32))), .unset, .unset, .unset] [(.int p5)]))
        refine Go.st (fun _ kk => XS.goto X43.here hx rfl (pc0 := 72) (pc' := 82) rfl (hb hby at_72) (by decide) (by decide) kk) ?_
        show Go p e below _ (T43.setTop (mkF m 82 #[.val (.int p1), .val (.int p2), .val (.int p3), .val (.int p4), .val (.int p5), .val (.int ((1 : Int32) + (p1 &&& (3 : Int32)))), .val (.int ((1 : Int32) + (p2 &&& (3 : Int32)))), .val (.ref w_SQUARE), .val (.ref b7), .val (.int ((p4 &&& (7 : Int32)) - (2 : Int32))), .unset, .unset, .unset] [(.int p5)]))
        refine Go.st (fun _ kk => XS.istore X43.here hx rfl (hb hby at_82) rfl (l' := #[.val (.int p1), .val (.int p2), .val (.int p3), .val (.int p4), .val (.int p5), .val (.int ((1 : Int32) + (p1 &&& (3 : Int32)))), .val (.int ((1 : Int32) + (p2 &&& (3 : Int32)))), .val (.ref w_SQUARE), .val (.ref b7), .val (.int ((p4 &&& (7 : Int32)) - (2 : Int32))), .val (.int p5), .unset, .unset]) rfl kk) ?_
        show Go p e below _ (T43.setTop (mkF m 84 #[.val (.int p1), .val (.int p2), .val (.int p3), .val (.int p4), .val (.int p5), .val (.int ((1 : Int32) + (p1 &&& (3 : Int32)))), .val (.int ((1 : Int32) + (p2 &&& (3 : Int32)))), .val (.ref w_SQUARE), .val (.ref b7), .val (.int ((p4 &&& (7 : Int32)) - (2 : Int32))), .val (.int p5), .unset, .unset] []))
        exact tail _ _
    · skip
      refine Go.st (fun _ kk => XS.ifNo X43.here hx rfl (hb hby at_49) rfl ((if0 _ _).trans (feq hc_10).1) kk) ?_
      show Go p e below _ (T43.setTop (mkF m 52 #[.val (.int p1), .val (.int p2), .val (.int p3), .val (.int p4), .val (.int p5), .val (.int ((1 : Int32) + (p1 &&& (3 : Int32)))), .val (.int ((1 : Int32) + (p2 &&& (3 : Int32)))), .val (.ref w_SQUARE), .val (.ref b7), .unset, .unset, .unset, .unset] []))
      refine Go.st (fun _ kk => XS.iloadN X43.here hx rfl (hb hby at_52) rfl  kk) ?_
      show Go p e below _ (T43.setTop (mkF m 53 #[.val (.int p1), .val (.int p2), .val (.int p3), .val (.int p4), .val (.int p5), .val (.int ((1 : Int32) + (p1 &&& (3 : Int32)))), .val (.int ((1 : Int32) + (p2 &&& (3 : Int32)))), .val (.ref w_SQUARE), .val (.ref b7), .unset, .unset, .unset, .unset] [(.int p4)]))
      refine Go.st (fun _ kk => XS.goto X43.here hx rfl (pc0 := 53) (pc' := 62) rfl (hb hby at_53) (by decide) (by decide) kk) ?_
      show Go p e below _ (T43.setTop (mkF m 62 #[.val (.int p1), .val (.int p2), .val (.int p3), .val (.int p4), .val (.int p5), .val (.int ((1 : Int32) + (p1 &&& (3 : Int32)))), .val (.int ((1 : Int32) + (p2 &&& (3 : Int32)))), .val (.ref w_SQUARE), .val (.ref b7), .unset, .unset, .unset, .unset] [(.int p4)]))
      refine Go.st (fun _ kk => XS.istore X43.here hx rfl (hb hby at_62) rfl (l' := #[.val (.int p1), .val (.int p2), .val (.int p3), .val (.int p4), .val (.int p5), .val (.int ((1 : Int32) + (p1 &&& (3 : Int32)))), .val (.int ((1 : Int32) + (p2 &&& (3 : Int32)))), .val (.ref w_SQUARE), .val (.ref b7), .val (.int p4), .unset, .unset, .unset]) rfl kk) ?_
      show Go p e below _ (T43.setTop (mkF m 64 #[.val (.int p1), .val (.int p2), .val (.int p3), .val (.int p4), .val (.int p5), .val (.int ((1 : Int32) + (p1 &&& (3 : Int32)))), .val (.int ((1 : Int32) + (p2 &&& (3 : Int32)))), .val (.ref w_SQUARE), .val (.ref b7), .val (.int p4), .unset, .unset, .unset] []))
      refine Go.st (fun _ kk => XS.iloadN X43.here hx rfl (hb hby at_64) rfl  kk) ?_
      show Go p e below _ (T43.setTop (mkF m 65 #[.val (.int p1), .val (.int p2), .val (.int p3), .val (.int p4), .val (.int p5), .val (.int ((1 : Int32) + (p1 &&& (3 : Int32)))), .val (.int ((1 : Int32) + (p2 &&& (3 : Int32)))), .val (.ref w_SQUARE), .val (.ref b7), .val (.int p4), .unset, .unset, .unset] [(.int p3)]))
      refine Go.st (fun _ kk => XS.iconst X43.here hx rfl (hb hby at_65) kk) ?_
      show Go p e below _ (T43.setTop (mkF m 66 #[.val (.int p1), .val (.int p2), .val (.int p3), .val (.int p4), .val (.int p5), .val (.int ((1 : Int32) + (p1 &&& (3 : Int32)))), .val (.int ((1 : Int32) + (p2 &&& (3 : Int32)))), .val (.ref w_SQUARE), .val (.ref b7), .val (.int p4), .unset, .unset, .unset] [(.int (2 : Int32)), (.int p3)]))
      refine Go.st (fun _ kk => XS.iand X43.here hx rfl (hb hby at_66) rfl kk) ?_
      show Go p e below _ (T43.setTop (mkF m 67 #[.val (.int p1), .val (.int p2), .val (.int p3), .val (.int p4), .val (.int p5), .val (.int ((1 : Int32) + (p1 &&& (3 : Int32)))), .val (.int ((1 : Int32) + (p2 &&& (3 : Int32)))), .val (.ref w_SQUARE), .val (.ref b7), .val (.int p4), .unset, .unset, .unset] [(.int (p3 &&& (2 : Int32)))]))
      by_cases hc_12 : (p3 &&& (2 : Int32)) = (0 : Int32)
      · skip
        refine Go.st (fun _ kk => XS.ifYes X43.here hx rfl (pc0 := 67) (pc' := 75) rfl (hb hby at_67) rfl ((if0 _ _).trans (teq hc_12).1) (by decide) (by decide) kk) ?_
        show Go p e below _ (T43.setTop (mkF m 75 #[.val (.int p1), .val (.int p2), .val (.int p3), .val (.int p4), .val (.int p5), .val (.int ((1 : Int32) + (p1 &&& (3 : Int32)))), .val (.int ((1 : Int32) + (p2 &&& (3 : Int32)))), .val (.ref w_SQUARE), .val (.ref b7), .val (.int p4), .unset, .unset, .unset] []))
        refine Go.st (fun _ kk => XS.iload X43.here hx rfl (hb hby at_75) rfl  kk) ?_
        show Go p e below _ (T43.setTop (mkF m 77 #[.val (.int p1), .val (.int p2), .val (.int p3), .val (.int p4), .val (.int p5), .val (.int ((1 : Int32) + (p1 &&& (3 : Int32)))), .val (.int ((1 : Int32) + (p2 &&& (3 : Int32)))), .val (.ref w_SQUARE), .val (.ref b7), .val (.int p4), .unset, .unset, .unset] [(.int p5)]))
        refine Go.st (fun _ kk => XS.bipush X43.here hx rfl (hb hby at_77) kk) ?_
        show Go p e below _ (T43.setTop (mkF m 79 #[.val (.int p1), .val (.int p2), .val (.int p3), .val (.int p4), .val (.int p5), .val (.int ((1 : Int32) + (p1 &&& (3 : Int32)))), .val (.int ((1 : Int32) + (p2 &&& (3 : Int32)))), .val (.ref w_SQUARE), .val (.ref b7), .val (.int p4), .unset, .unset, .unset] [(.int (7 : Int32)), (.int p5)]))
        refine Go.st (fun _ kk => XS.iand X43.here hx rfl (hb hby at_79) rfl kk) ?_
        show Go p e below _ (T43.setTop (mkF m 80 #[.val (.int p1), .val (.int p2), .val (.int p3), .val (.int p4), .val (.int p5), .val (.int ((1 : Int32) + (p1 &&& (3 : Int32)))), .val (.int ((1 : Int32) + (p2 &&& (3 : Int32)))), .val (.ref w_SQUARE), .val (.ref b7), .val (.int p4), .unset, .unset, .unset] [(.int (p5 &&& (7 : Int32)))]))
        refine Go.st (fun _ kk => XS.iconst X43.here hx rfl (hb hby at_80) kk) ?_
        show Go p e below _ (T43.setTop (mkF m 81 #[.val (.int p1), .val (.int p2), .val (.int p3), .val (.int p4), .val (.int p5), .val (.int ((1 : Int32) + (p1 &&& (3 : Int32)))), .val (.int ((1 : Int32) + (p2 &&& (3 : Int32)))), .val (.ref w_SQUARE), .val (.ref b7), .val (.int p4), .unset, .unset, .unset] [(.int (2 : Int32)), (.int (p5 &&& (7 : Int32)))]))
        refine Go.st (fun _ kk => XS.isub X43.here hx rfl (hb hby at_81) rfl kk) ?_
        show Go p e below _ (T43.setTop (mkF m 82 #[.val (.int p1), .val (.int p2), .val (.int p3), .val (.int p4), .val (.int p5), .val (.int ((1 : Int32) + (p1 &&& (3 : Int32)))), .val (.int ((1 : Int32) + (p2 &&& (3 : Int32)))), .val (.ref w_SQUARE), .val (.ref b7), .val (.int p4), .unset, .unset, .unset] [(.int ((p5 &&& (7 : Int32)) - (2 : Int32)))]))
        refine Go.st (fun _ kk => XS.istore X43.here hx rfl (hb hby at_82) rfl (l' := #[.val (.int p1), .val (.int p2), .val (.int p3), .val (.int p4), .val (.int p5), .val (.int ((1 : Int32) + (p1 &&& (3 : Int32)))), .val (.int ((1 : Int32) + (p2 &&& (3 : Int32)))), .val (.ref w_SQUARE), .val (.ref b7), .val (.int p4), .val (.int ((p5 &&& (7 : Int32)) - (2 : Int32))), .unset, .unset]) rfl kk) ?_
        show Go p e below _ (T43.setTop (mkF m 84 #[.val (.int p1), .val (.int p2), .val (.int p3), .val (.int p4), .val (.int p5), .val (.int ((1 : Int32) + (p1 &&& (3 : Int32)))), .val (.int ((1 : Int32) + (p2 &&& (3 : Int32)))), .val (.ref w_SQUARE), .val (.ref b7), .val (.int p4), .val (.int ((p5 &&& (7 : Int32)) - (2 : Int32))), .unset, .unset] []))
        exact tail _ _
      · skip
        refine Go.st (fun _ kk => XS.ifNo X43.here hx rfl (hb hby at_67) rfl ((if0 _ _).trans (feq hc_12).1) kk) ?_
        show Go p e below _ (T43.setTop (mkF m 70 #[.val (.int p1), .val (.int p2), .val (.int p3), .val (.int p4), .val (.int p5), .val (.int ((1 : Int32) + (p1 &&& (3 : Int32)))), .val (.int ((1 : Int32) + (p2 &&& (3 : Int32)))), .val (.ref w_SQUARE), .val (.ref b7), .val (.int p4), .unset, .unset, .unset] []))
        refine Go.st (fun _ kk => XS.iload X43.here hx rfl (hb hby at_70) rfl  kk) ?_
        show Go p e below _ (T43.setTop (mkF m 72 #[.val (.int p1), .val (.int p2), .val (.int p3), .val (.int p4), .val (.int p5), .val (.int ((1 : Int32) + (p1 &&& (3 : Int32)))), .val (.int ((1 : Int32) + (p2 &&& (3 : Int32)))), .val (.ref w_SQUARE), .val (.ref b7), .val (.int p4), .unset, .unset, .unset] [(.int p5)]))
        refine Go.st (fun _ kk => XS.goto X43.here hx rfl (pc0 := 72) (pc' := 82) rfl (hb hby at_72) (by decide) (by decide) kk) ?_
        show Go p e below _ (T43.setTop (mkF m 82 #[.val (.int p1), .val (.int p2), .val (.int p3), .val (.int p4), .val (.int p5), .val (.int ((1 : Int32) + (p1 &&& (3 : Int32)))), .val (.int ((1 : Int32) + (p2 &&& (3 : Int32)))), .val (.ref w_SQUARE), .val (.ref b7), .val (.int p4), .unset, .unset, .unset] [(.int p5)]))
        refine Go.st (fun _ kk => XS.istore X43.here hx rfl (hb hby at_82) rfl (l' := #[.val (.int p1), .val (.int p2), .val (.int p3), .val (.int p4), .val (.int p5), .val (.int ((1 : Int32) + (p1 &&& (3 : Int32)))), .val (.int ((1 : Int32) + (p2 &&& (3 : Int32)))), .val (.ref w_SQUARE), .val (.ref b7), .val (.int p4), .val (.int p5), .unset, .unset]) rfl kk) ?_
        show Go p e below _ (T43.setTop (mkF m 84 #[.val (.int p1), .val (.int p2), .val (.int p3), .val (.int p4), .val (.int p5), .val (.int ((1 : Int32) + (p1 &&& (3 : Int32)))), .val (.int ((1 : Int32) + (p2 &&& (3 : Int32)))), .val (.ref w_SQUARE), .val (.ref b7), .val (.int p4), .val (.int p5), .unset, .unset] []))
        exact tail _ _
  · skip
    refine Go.st (fun _ kk => XS.ifNo X0.here hx rfl (hb hby at_17) rfl ((if0 _ _).trans (feq hc_5).1) kk) ?_
    show Go p e below _ (s₁.setTop (mkF m 20 #[.val (.int p1), .val (.int p2), .val (.int p3), .val (.int p4), .val (.int p5), .val (.int ((1 : Int32) + (p1 &&& (3 : Int32)))), .val (.int ((1 : Int32) + (p2 &&& (3 : Int32)))), .unset, .unset, .unset, .unset, .unset, .unset] []))
    obtain ⟨T6, X6, e6, st6⟩ := getS2 X0 hx hZ hown (host := "") (Or.inl (hw _ (List.mem_of_getElem? (i := 79) rfl))) Via.refl e0 S_HEXAGON (g := (mkF m 20 #[.val (.int p1), .val (.int p2), .val (.int p3), .val (.int p4), .val (.int p5), .val (.int ((1 : Int32) + (p1 &&& (3 : Int32)))), .val (.int ((1 : Int32) + (p2 &&& (3 : Int32)))), .unset, .unset, .unset, .unset, .unset, .unset] [])) rfl (hb hby at_20)
    refine Go.st st6 ?_
    show Go p e below _ (T6.setTop (mkF m 23 #[.val (.int p1), .val (.int p2), .val (.int p3), .val (.int p4), .val (.int p5), .val (.int ((1 : Int32) + (p1 &&& (3 : Int32)))), .val (.int ((1 : Int32) + (p2 &&& (3 : Int32)))), .unset, .unset, .unset, .unset, .unset, .unset] [(.ref w_HEXAGON)]))
    refine Go.st (fun _ kk => XS.goto X6.here hx rfl (pc0 := 23) (pc' := 29) rfl (hb hby at_23) (by decide) (by decide) kk) ?_
    show Go p e below _ (T6.setTop (mkF m 29 #[.val (.int p1), .val (.int p2), .val (.int p3), .val (.int p4), .val (.int p5), .val (.int ((1 : Int32) + (p1 &&& (3 : Int32)))), .val (.int ((1 : Int32) + (p2 &&& (3 : Int32)))), .unset, .unset, .unset, .unset, .unset, .unset] [(.ref w_HEXAGON)]))
    refine Go.st (fun _ kk => XS.astore X6.here hx rfl (hb hby at_29) rfl rfl (l' := #[.val (.int p1), .val (.int p2), .val (.int p3), .val (.int p4), .val (.int p5), .val (.int ((1 : Int32) + (p1 &&& (3 : Int32)))), .val (.int ((1 : Int32) + (p2 &&& (3 : Int32)))), .val (.ref w_HEXAGON), .unset, .unset, .unset, .unset, .unset]) rfl kk) ?_
    show Go p e below _ (T6.setTop (mkF m 31 #[.val (.int p1), .val (.int p2), .val (.int p3), .val (.int p4), .val (.int p5), .val (.int ((1 : Int32) + (p1 &&& (3 : Int32)))), .val (.int ((1 : Int32) + (p2 &&& (3 : Int32)))), .val (.ref w_HEXAGON), .unset, .unset, .unset, .unset, .unset] []))
    obtain ⟨T7, h7, X7, e7, E7, A7, D7, -, st7⟩ := newO X6 hx hZ hown (hw _ (List.mem_of_getElem? (i := 3) rfl)) (hw _ (List.mem_of_getElem? (i := 4) rfl)) (hw _ (List.mem_of_getElem? (i := 5) rfl)) e6 (g := (mkF m 31 #[.val (.int p1), .val (.int p2), .val (.int p3), .val (.int p4), .val (.int p5), .val (.int ((1 : Int32) + (p1 &&& (3 : Int32)))), .val (.int ((1 : Int32) + (p2 &&& (3 : Int32)))), .val (.ref w_HEXAGON), .unset, .unset, .unset, .unset, .unset] [])) rfl (hb hby at_31) (by decide) (by decide)
    obtain ⟨b7, g7⟩ : ∃ z, z = h0.size := ⟨_, rfl⟩
    rw [← g7] at A7 D7 st7
    refine Go.st st7 ?_
    have g_b7 : n0 ≤ b7 := Nat.le_trans Z0 (Nat.le_of_eq g7.symm)
    have sz_b7 : h0.size ≤ b7 := Nat.le_of_eq g7.symm
    have K7 : Keep h0 h7 [] := (Keep.refl h0 []).ext E7
    have E_b7 : Exa Z h7 b7 "com/example/tabulon/tabulon/game/Board" := A7
    have F_cells_b7 : Fld Z h7 b7 "com/example/tabulon/tabulon/game/Board" "cells" "Lcom/example/tabulon/tabulon/game/Board$Cells;" .null := D7 (Or.inr (hw _ (List.mem_of_getElem? (i := 38) rfl))) (ty := (.object "com/example/tabulon/tabulon/game/Board$Cells")) (by decide)
    have F_rows_b7 : Fld Z h7 b7 "com/example/tabulon/tabulon/game/Board" "rows" "I" (.int (0 : Int32)) := D7 (Or.inr (hw _ (List.mem_of_getElem? (i := 40) rfl))) (ty := .int) (by decide)
    have F_columns_b7 : Fld Z h7 b7 "com/example/tabulon/tabulon/game/Board" "columns" "I" (.int (0 : Int32)) := D7 (Or.inr (hw _ (List.mem_of_getElem? (i := 42) rfl))) (ty := .int) (by decide)
    have F_steps_b7 : Fld Z h7 b7 "com/example/tabulon/tabulon/game/Board" "steps" "[I" .null := D7 (Or.inr (hw _ (List.mem_of_getElem? (i := 45) rfl))) (ty := (.array .int)) (by decide)
    show Go p e below _ (T7.setTop (mkF m 34 #[.val (.int p1), .val (.int p2), .val (.int p3), .val (.int p4), .val (.int p5), .val (.int ((1 : Int32) + (p1 &&& (3 : Int32)))), .val (.int ((1 : Int32) + (p2 &&& (3 : Int32)))), .val (.ref w_HEXAGON), .unset, .unset, .unset, .unset, .unset] [(.ref b7)]))
    refine Go.st (fun _ kk => XS.dup X7.here hx rfl (hb hby at_34) rfl rfl kk) ?_
    show Go p e below _ (T7.setTop (mkF m 35 #[.val (.int p1), .val (.int p2), .val (.int p3), .val (.int p4), .val (.int p5), .val (.int ((1 : Int32) + (p1 &&& (3 : Int32)))), .val (.int ((1 : Int32) + (p2 &&& (3 : Int32)))), .val (.ref w_HEXAGON), .unset, .unset, .unset, .unset, .unset] [(.ref b7), (.ref b7)]))
    refine Go.st (fun _ kk => XS.aload X7.here hx rfl (hb hby at_35) rfl rfl  kk) ?_
    show Go p e below _ (T7.setTop (mkF m 37 #[.val (.int p1), .val (.int p2), .val (.int p3), .val (.int p4), .val (.int p5), .val (.int ((1 : Int32) + (p1 &&& (3 : Int32)))), .val (.int ((1 : Int32) + (p2 &&& (3 : Int32)))), .val (.ref w_HEXAGON), .unset, .unset, .unset, .unset, .unset] [(.ref w_HEXAGON), (.ref b7), (.ref b7)]))
    refine Go.st (fun _ kk => XS.iload X7.here hx rfl (hb hby at_37) rfl  kk) ?_
    show Go p e below _ (T7.setTop (mkF m 39 #[.val (.int p1), .val (.int p2), .val (.int p3), .val (.int p4), .val (.int p5), .val (.int ((1 : Int32) + (p1 &&& (3 : Int32)))), .val (.int ((1 : Int32) + (p2 &&& (3 : Int32)))), .val (.ref w_HEXAGON), .unset, .unset, .unset, .unset, .unset] [(.int ((1 : Int32) + (p1 &&& (3 : Int32)))), (.ref w_HEXAGON), (.ref b7), (.ref b7)]))
    refine Go.st (fun _ kk => XS.iload X7.here hx rfl (hb hby at_39) rfl  kk) ?_
    show Go p e below _ (T7.setTop (mkF m 41 #[.val (.int p1), .val (.int p2), .val (.int p3), .val (.int p4), .val (.int p5), .val (.int ((1 : Int32) + (p1 &&& (3 : Int32)))), .val (.int ((1 : Int32) + (p2 &&& (3 : Int32)))), .val (.ref w_HEXAGON), .unset, .unset, .unset, .unset, .unset] [(.int ((1 : Int32) + (p2 &&& (3 : Int32)))), (.int ((1 : Int32) + (p1 &&& (3 : Int32)))), (.ref w_HEXAGON), (.ref b7), (.ref b7)]))
    have f_8 := (staKeep0 S__VALUES K7)
    have f_9 := (E_w__VALUES.keep K7)
    have f_10 := (V_w__VALUES.keep K7 nin0)
    have f_11 := (E_w_N.keep K7)
    have f_12 := (F_ordinal_w_N.keep K7 nin0)
    have f_13 := (F_columnStep_w_N.keep K7 nin0)
    have f_14 := (F_rowStep_w_N.keep K7 nin0)
    have f_15 := (E_w_NE.keep K7)
    have f_16 := (F_ordinal_w_NE.keep K7 nin0)
    have f_17 := (F_columnStep_w_NE.keep K7 nin0)
    have f_18 := (F_rowStep_w_NE.keep K7 nin0)
    have f_19 := (E_w_E.keep K7)
    have f_20 := (F_ordinal_w_E.keep K7 nin0)
    have f_21 := (F_columnStep_w_E.keep K7 nin0)
    have f_22 := (F_rowStep_w_E.keep K7 nin0)
    have f_23 := (E_w_SE.keep K7)
    have f_24 := (F_ordinal_w_SE.keep K7 nin0)
    have f_25 := (F_columnStep_w_SE.keep K7 nin0)
    have f_26 := (F_rowStep_w_SE.keep K7 nin0)
    have f_27 := (E_w_S.keep K7)
    have f_28 := (F_ordinal_w_S.keep K7 nin0)
    have f_29 := (F_columnStep_w_S.keep K7 nin0)
    have f_30 := (F_rowStep_w_S.keep K7 nin0)
    have f_31 := (E_w_SW.keep K7)
    have f_32 := (F_ordinal_w_SW.keep K7 nin0)
    have f_33 := (F_columnStep_w_SW.keep K7 nin0)
    have f_34 := (F_rowStep_w_SW.keep K7 nin0)
    have f_35 := (E_w_W.keep K7)
    have f_36 := (F_ordinal_w_W.keep K7 nin0)
    have f_37 := (F_columnStep_w_W.keep K7 nin0)
    have f_38 := (F_rowStep_w_W.keep K7 nin0)
    have f_39 := (E_w_NW.keep K7)
    have f_40 := (F_ordinal_w_NW.keep K7 nin0)
    have f_41 := (F_columnStep_w_NW.keep K7 nin0)
    have f_42 := (F_rowStep_w_NW.keep K7 nin0)
    obtain ⟨_, _, ⟨T43, L43, k43, n43⟩, -, X43, ⟨Lc43, hQ43, l43, y43, z43⟩, st43⟩ := X7.specialBack hx (y := (⟨"com/example/tabulon/tabulon/game/Board", "<init>", "(Lcom/example/tabulon/tabulon/game/Board$Cells;II)V"⟩ : MethodName)) rfl hown (mvT hZ (hw _ (List.mem_of_getElem? (i := 6) rfl))) (mvT hZ (hw _ (List.mem_of_getElem? (i := 7) rfl))) (mvT hZ (hw _ (List.mem_of_getElem? (i := 8) rfl))) (by decide) (backOf (W := 1) (rm1_o l Z a0 hw [] b7 w_HEXAGON ((1 : Int32) + (p1 &&& (3 : Int32))) ((1 : Int32) + (p2 &&& (3 : Int32))) w__VALUES w_N w_NE w_E w_SE w_S w_SW w_W w_NW kv .null (.int (0 : Int32)) (.int (0 : Int32)) .null h7 n0 (Nat.le_trans Z0 K7.1) E_b7 (own_14 p1) (own_14 p2) f_8 f_9 f_10 (own_fitc K7 nin0 Ar_VALUES hfc) f_11 f_12 f_13 f_14 f_15 f_16 f_17 f_18 f_19 f_20 f_21 f_22 f_23 f_24 f_25 f_26 f_27 f_28 f_29 f_30 f_31 f_32 f_33 f_34 f_35 f_36 f_37 f_38 f_39 f_40 f_41 f_42 (Nat.ne_of_lt (Nat.lt_of_lt_of_le E_w__VALUES.lt sz_b7)) F_cells_b7 g_b7 F_rows_b7 F_columns_b7 F_steps_b7) hZ (hw _ (List.mem_of_getElem? (i := 8) rfl)) (hw _ (List.mem_of_getElem? (i := 5) rfl)) (by decide) (by decide)) (g := (mkF m 41 #[.val (.int p1), .val (.int p2), .val (.int p3), .val (.int p4), .val (.int p5), .val (.int ((1 : Int32) + (p1 &&& (3 : Int32)))), .val (.int ((1 : Int32) + (p2 &&& (3 : Int32)))), .val (.ref w_HEXAGON), .unset, .unset, .unset, .unset, .unset] [(.int ((1 : Int32) + (p2 &&& (3 : Int32)))), (.int ((1 : Int32) + (p1 &&& (3 : Int32)))), (.ref w_HEXAGON), (.ref b7), (.ref b7)])) rfl (by rw [hml]; rfl) (Steps.refl _) (a := b7) (argsL := [(.ref w_HEXAGON), (.int ((1 : Int32) + (p1 &&& (3 : Int32)))), (.int ((1 : Int32) + (p2 &&& (3 : Int32))))]) (rest := [(.ref b7)]) (lenOf pd_4 rfl) rfl (by show 2 * 0 + _ ≤ _; exact Nat.le_of_eq rfl) (hb hby at_41) (fun _ _ => ⟨rfl, e7, (by decide : 1 + 4 ≤ _), (by decide : 4 + 152 ≤ _)⟩)
    dsimp only [Pt.U, Pt.locs, Pt.cells, Pt.slots] at X43 l43 y43 z43 st43 hQ43
    subst l43 y43 z43
    obtain ⟨rfl, N43q, Kc43, P43_0, P43_1, P43_2⟩ := hQ43
    have K43 : Keep h0 T43.heap [] := K7.trans Kc43 (allS (Or.inr sz_b7) all0)
    have N43 := Fr.app N0 N43q
    refine Go.tr st43 ?_
    show Go p e below _ (T43.setTop (mkF m 44 #[.val (.int p1), .val (.int p2), .val (.int p3), .val (.int p4), .val (.int p5), .val (.int ((1 : Int32) + (p1 &&& (3 : Int32)))), .val (.int ((1 : Int32) + (p2 &&& (3 : Int32)))), .val (.ref w_HEXAGON), .unset, .unset, .unset, .unset, .unset] [(.ref b7)]))
    refine Go.st (fun _ kk => XS.astore X43.here hx rfl (hb hby at_44) rfl rfl (l' := #[.val (.int p1), .val (.int p2), .val (.int p3), .val (.int p4), .val (.int p5), .val (.int ((1 : Int32) + (p1 &&& (3 : Int32)))), .val (.int ((1 : Int32) + (p2 &&& (3 : Int32)))), .val (.ref w_HEXAGON), .val (.ref b7), .unset, .unset, .unset, .unset]) rfl kk) ?_
    show Go p e below _ (T43.setTop (mkF m 46 #[.val (.int p1), .val (.int p2), .val (.int p3), .val (.int p4), .val (.int p5), .val (.int ((1 : Int32) + (p1 &&& (3 : Int32)))), .val (.int ((1 : Int32) + (p2 &&& (3 : Int32)))), .val (.ref w_HEXAGON), .val (.ref b7), .unset, .unset, .unset, .unset] []))
    have tail : ∀ (cc rr : Int32), Go p e below (fun o s₂ => ∃ v L, o = .returned v ∧ Q0 n0 v s₂.heap L ∧ FrameEnd s o s₂ L room_1.cells room_1.slots) (T43.setTop (mkF m 84 #[.val (.int p1), .val (.int p2), .val (.int p3), .val (.int p4), .val (.int p5), .val (.int ((1 : Int32) + (p1 &&& (3 : Int32)))), .val (.int ((1 : Int32) + (p2 &&& (3 : Int32)))), .val (.ref w_HEXAGON), .val (.ref b7), .val (.int cc), .val (.int rr), .unset, .unset] [])) := by
      intro cc rr
      refine Go.st (fun _ kk => XS.aload X43.here hx rfl (hb hby at_84) rfl rfl  kk) ?_
      show Go p e below _ (T43.setTop (mkF m 86 #[.val (.int p1), .val (.int p2), .val (.int p3), .val (.int p4), .val (.int p5), .val (.int ((1 : Int32) + (p1 &&& (3 : Int32)))), .val (.int ((1 : Int32) + (p2 &&& (3 : Int32)))), .val (.ref w_HEXAGON), .val (.ref b7), .val (.int cc), .val (.int rr), .unset, .unset] [(.ref b7)]))
      refine Go.st (fun _ kk => XS.iload X43.here hx rfl (hb hby at_86) rfl  kk) ?_
      show Go p e below _ (T43.setTop (mkF m 88 #[.val (.int p1), .val (.int p2), .val (.int p3), .val (.int p4), .val (.int p5), .val (.int ((1 : Int32) + (p1 &&& (3 : Int32)))), .val (.int ((1 : Int32) + (p2 &&& (3 : Int32)))), .val (.ref w_HEXAGON), .val (.ref b7), .val (.int cc), .val (.int rr), .unset, .unset] [(.int cc), (.ref b7)]))
      refine Go.st (fun _ kk => XS.iload X43.here hx rfl (hb hby at_88) rfl  kk) ?_
      show Go p e below _ (T43.setTop (mkF m 90 #[.val (.int p1), .val (.int p2), .val (.int p3), .val (.int p4), .val (.int p5), .val (.int ((1 : Int32) + (p1 &&& (3 : Int32)))), .val (.int ((1 : Int32) + (p2 &&& (3 : Int32)))), .val (.ref w_HEXAGON), .val (.ref b7), .val (.int cc), .val (.int rr), .unset, .unset] [(.int rr), (.int cc), (.ref b7)]))
      by_cases hc_13 : cc < (0 : Int32)
      · skip
        obtain ⟨cq44, kq44, q44a, q44b, q44c⟩ := isOf hZ rfl P43_0
        obtain ⟨_, _, ⟨T44, L44, k44, n44⟩, -, X44, ⟨Lc44, hQ44, l44, y44, z44⟩, st44⟩ := X43.virtualBack hx (y := (⟨"com/example/tabulon/tabulon/game/Board", "siteAt", "(II)I"⟩ : MethodName)) (z := (⟨"com/example/tabulon/tabulon/game/Board", "siteAt", "(II)I"⟩ : MethodName)) hown (mvT hZ (hw _ (List.mem_of_getElem? (i := 74) rfl))) (mvT hZ (hw _ (List.mem_of_getElem? (i := 75) rfl))) (notFace_of_selects (args := #[]) (mvT hZ (hw _ (List.mem_of_getElem? (i := 77) rfl)))) (mvT hZ (hw _ (List.mem_of_getElem? (i := 77) rfl))) (mvT hZ (hw _ (List.mem_of_getElem? (i := 76) rfl))) (by decide) (backOf (W := 0) (rm8_t l Z a0 hw [] b7 cc rr T43.heap n0 (Nat.le_trans Z0 K43.1) hc_13) hZ (hw _ (List.mem_of_getElem? (i := 78) rfl)) (hw _ (List.mem_of_getElem? (i := 5) rfl)) (by decide) (by decide)) q44a q44c (g := (mkF m 90 #[.val (.int p1), .val (.int p2), .val (.int p3), .val (.int p4), .val (.int p5), .val (.int ((1 : Int32) + (p1 &&& (3 : Int32)))), .val (.int ((1 : Int32) + (p2 &&& (3 : Int32)))), .val (.ref w_HEXAGON), .val (.ref b7), .val (.int cc), .val (.int rr), .unset, .unset] [(.int rr), (.int cc), (.ref b7)])) rfl (by rw [hml]; rfl) (Steps.refl _) (argsL := [(.int cc), (.int rr)]) (rest := []) (lenOf pd_5 rfl) rfl (by show 2 * 0 + _ ≤ _; exact Nat.le_of_eq rfl) (hb hby at_90) (fun _ _ => ⟨rfl, rfl, (by decide : 5 + 0 ≤ _), (by decide : 156 + 0 ≤ _)⟩)
        dsimp only [Pt.U, Pt.locs, Pt.cells, Pt.slots] at X44 l44 y44 z44 st44 hQ44
        subst l44 y44 z44
        obtain ⟨rfl, N44q, eq44⟩ := hQ44
        have N44 := Fr.app N43 N44q
        refine Go.tr st44 ?_
        show Go p e below _ (T44.setTop (mkF m 93 #[.val (.int p1), .val (.int p2), .val (.int p3), .val (.int p4), .val (.int p5), .val (.int ((1 : Int32) + (p1 &&& (3 : Int32)))), .val (.int ((1 : Int32) + (p2 &&& (3 : Int32)))), .val (.ref w_HEXAGON), .val (.ref b7), .val (.int cc), .val (.int rr), .unset, .unset] [(.int (-1 : Int32))]))
        refine Go.st (fun _ kk => XS.istore X44.here hx rfl (hb hby at_93) rfl (l' := #[.val (.int p1), .val (.int p2), .val (.int p3), .val (.int p4), .val (.int p5), .val (.int ((1 : Int32) + (p1 &&& (3 : Int32)))), .val (.int ((1 : Int32) + (p2 &&& (3 : Int32)))), .val (.ref w_HEXAGON), .val (.ref b7), .val (.int cc), .val (.int rr), .val (.int (-1 : Int32)), .unset]) rfl kk) ?_
        show Go p e below _ (T44.setTop (mkF m 95 #[.val (.int p1), .val (.int p2), .val (.int p3), .val (.int p4), .val (.int p5), .val (.int ((1 : Int32) + (p1 &&& (3 : Int32)))), .val (.int ((1 : Int32) + (p2 &&& (3 : Int32)))), .val (.ref w_HEXAGON), .val (.ref b7), .val (.int cc), .val (.int rr), .val (.int (-1 : Int32)), .unset] []))
        refine Go.st (fun _ kk => XS.iload X44.here hx rfl (hb hby at_95) rfl  kk) ?_
        show Go p e below _ (T44.setTop (mkF m 97 #[.val (.int p1), .val (.int p2), .val (.int p3), .val (.int p4), .val (.int p5), .val (.int ((1 : Int32) + (p1 &&& (3 : Int32)))), .val (.int ((1 : Int32) + (p2 &&& (3 : Int32)))), .val (.ref w_HEXAGON), .val (.ref b7), .val (.int cc), .val (.int rr), .val (.int (-1 : Int32)), .unset] [(.int cc)]))
        refine Go.st (fun _ kk => XS.ifYes X44.here hx rfl (pc0 := 97) (pc' := 123) rfl (hb hby at_97) rfl ((if0 _ _).trans (tlt hc_13).1) (by decide) (by decide) kk) ?_
        show Go p e below _ (T44.setTop (mkF m 123 #[.val (.int p1), .val (.int p2), .val (.int p3), .val (.int p4), .val (.int p5), .val (.int ((1 : Int32) + (p1 &&& (3 : Int32)))), .val (.int ((1 : Int32) + (p2 &&& (3 : Int32)))), .val (.ref w_HEXAGON), .val (.ref b7), .val (.int cc), .val (.int rr), .val (.int (-1 : Int32)), .unset] []))
        refine Go.st (fun _ kk => XS.iconst X44.here hx rfl (hb hby at_123) kk) ?_
        show Go p e below _ (T44.setTop (mkF m 124 #[.val (.int p1), .val (.int p2), .val (.int p3), .val (.int p4), .val (.int p5), .val (.int ((1 : Int32) + (p1 &&& (3 : Int32)))), .val (.int ((1 : Int32) + (p2 &&& (3 : Int32)))), .val (.ref w_HEXAGON), .val (.ref b7), .val (.int cc), .val (.int rr), .val (.int (-1 : Int32)), .unset] [(.int (0 : Int32))]))
        refine Go.st (fun _ kk => XS.istore X44.here hx rfl (hb hby at_124) rfl (l' := #[.val (.int p1), .val (.int p2), .val (.int p3), .val (.int p4), .val (.int p5), .val (.int ((1 : Int32) + (p1 &&& (3 : Int32)))), .val (.int ((1 : Int32) + (p2 &&& (3 : Int32)))), .val (.ref w_HEXAGON), .val (.ref b7), .val (.int cc), .val (.int rr), .val (.int (-1 : Int32)), .val (.int (0 : Int32))]) rfl kk) ?_
        show Go p e below _ (T44.setTop (mkF m 126 #[.val (.int p1), .val (.int p2), .val (.int p3), .val (.int p4), .val (.int p5), .val (.int ((1 : Int32) + (p1 &&& (3 : Int32)))), .val (.int ((1 : Int32) + (p2 &&& (3 : Int32)))), .val (.ref w_HEXAGON), .val (.ref b7), .val (.int cc), .val (.int rr), .val (.int (-1 : Int32)), .val (.int (0 : Int32))] []))
        refine Go.st (fun _ kk => XS.iload X44.here hx rfl (hb hby at_126) rfl  kk) ?_
        show Go p e below _ (T44.setTop (mkF m 128 #[.val (.int p1), .val (.int p2), .val (.int p3), .val (.int p4), .val (.int p5), .val (.int ((1 : Int32) + (p1 &&& (3 : Int32)))), .val (.int ((1 : Int32) + (p2 &&& (3 : Int32)))), .val (.ref w_HEXAGON), .val (.ref b7), .val (.int cc), .val (.int rr), .val (.int (-1 : Int32)), .val (.int (0 : Int32))] [(.int (0 : Int32))]))
        refine Go.st (fun _ kk => XS.ifNo X44.here hx rfl (hb hby at_128) rfl ((if0 _ _).trans (teq (by decide : ((0 : Int32) = (0 : Int32)))).2) kk) ?_
        show Go p e below _ (T44.setTop (mkF m 131 #[.val (.int p1), .val (.int p2), .val (.int p3), .val (.int p4), .val (.int p5), .val (.int ((1 : Int32) + (p1 &&& (3 : Int32)))), .val (.int ((1 : Int32) + (p2 &&& (3 : Int32)))), .val (.ref w_HEXAGON), .val (.ref b7), .val (.int cc), .val (.int rr), .val (.int (-1 : Int32)), .val (.int (0 : Int32))] []))
        refine Go.st (fun _ kk => XS.iload X44.here hx rfl (hb hby at_131) rfl  kk) ?_
        show Go p e below _ (T44.setTop (mkF m 133 #[.val (.int p1), .val (.int p2), .val (.int p3), .val (.int p4), .val (.int p5), .val (.int ((1 : Int32) + (p1 &&& (3 : Int32)))), .val (.int ((1 : Int32) + (p2 &&& (3 : Int32)))), .val (.ref w_HEXAGON), .val (.ref b7), .val (.int cc), .val (.int rr), .val (.int (-1 : Int32)), .val (.int (0 : Int32))] [(.int (-1 : Int32))]))
        refine Go.st (fun _ kk => XS.iconst X44.here hx rfl (hb hby at_133) kk) ?_
        show Go p e below _ (T44.setTop (mkF m 134 #[.val (.int p1), .val (.int p2), .val (.int p3), .val (.int p4), .val (.int p5), .val (.int ((1 : Int32) + (p1 &&& (3 : Int32)))), .val (.int ((1 : Int32) + (p2 &&& (3 : Int32)))), .val (.ref w_HEXAGON), .val (.ref b7), .val (.int cc), .val (.int rr), .val (.int (-1 : Int32)), .val (.int (0 : Int32))] [(.int (-1 : Int32)), (.int (-1 : Int32))]))
        refine Go.st (fun _ kk => XS.icmpNo X44.here hx rfl (hb hby at_134) rfl (teq (by decide : ((-1 : Int32) = (-1 : Int32)))).2 kk) ?_
        show Go p e below _ (T44.setTop (mkF m 137 #[.val (.int p1), .val (.int p2), .val (.int p3), .val (.int p4), .val (.int p5), .val (.int ((1 : Int32) + (p1 &&& (3 : Int32)))), .val (.int ((1 : Int32) + (p2 &&& (3 : Int32)))), .val (.ref w_HEXAGON), .val (.ref b7), .val (.int cc), .val (.int rr), .val (.int (-1 : Int32)), .val (.int (0 : Int32))] []))
        refine Go.st (fun _ kk => XS.iconst X44.here hx rfl (hb hby at_137) kk) ?_
        show Go p e below _ (T44.setTop (mkF m 138 #[.val (.int p1), .val (.int p2), .val (.int p3), .val (.int p4), .val (.int p5), .val (.int ((1 : Int32) + (p1 &&& (3 : Int32)))), .val (.int ((1 : Int32) + (p2 &&& (3 : Int32)))), .val (.ref w_HEXAGON), .val (.ref b7), .val (.int cc), .val (.int rr), .val (.int (-1 : Int32)), .val (.int (0 : Int32))] [(.int (1 : Int32))]))
        refine Go.st (fun _ kk => XS.goto X44.here hx rfl (pc0 := 138) (pc' := 142) rfl (hb hby at_138) (by decide) (by decide) kk) ?_
        show Go p e below _ (T44.setTop (mkF m 142 #[.val (.int p1), .val (.int p2), .val (.int p3), .val (.int p4), .val (.int p5), .val (.int ((1 : Int32) + (p1 &&& (3 : Int32)))), .val (.int ((1 : Int32) + (p2 &&& (3 : Int32)))), .val (.ref w_HEXAGON), .val (.ref b7), .val (.int cc), .val (.int rr), .val (.int (-1 : Int32)), .val (.int (0 : Int32))] [(.int (1 : Int32))]))
        exact Go.ret (Q := Q0 n0) X44 (v := some (.int (1 : Int32))) (fun h => by rw [Bd.returns] at h; cases h) Bd.notSynchronized (fun fs hr => retN X44 hx (t := .boolean) Bd.returns (by simp) (hb hby at_142) hr) eq44 ⟨rfl, N44⟩ (by decide) (by decide)
      · skip
        by_cases hc_14 : cc < ((1 : Int32) + (p2 &&& (3 : Int32)))
        · skip
          by_cases hc_15 : rr < (0 : Int32)
          · skip
            obtain ⟨cq44, kq44, q44a, q44b, q44c⟩ := isOf hZ rfl P43_0
            obtain ⟨_, _, ⟨T44, L44, k44, n44⟩, -, X44, ⟨Lc44, hQ44, l44, y44, z44⟩, st44⟩ := X43.virtualBack hx (y := (⟨"com/example/tabulon/tabulon/game/Board", "siteAt", "(II)I"⟩ : MethodName)) (z := (⟨"com/example/tabulon/tabulon/game/Board", "siteAt", "(II)I"⟩ : MethodName)) hown (mvT hZ (hw _ (List.mem_of_getElem? (i := 74) rfl))) (mvT hZ (hw _ (List.mem_of_getElem? (i := 75) rfl))) (notFace_of_selects (args := #[]) (mvT hZ (hw _ (List.mem_of_getElem? (i := 77) rfl)))) (mvT hZ (hw _ (List.mem_of_getElem? (i := 77) rfl))) (mvT hZ (hw _ (List.mem_of_getElem? (i := 76) rfl))) (by decide) (backOf (W := 0) (rm8_ftt l Z a0 hw [] b7 cc rr ((1 : Int32) + (p2 &&& (3 : Int32))) T43.heap n0 (Nat.le_trans Z0 K43.1) hc_13 P43_2 hc_14 hc_15) hZ (hw _ (List.mem_of_getElem? (i := 78) rfl)) (hw _ (List.mem_of_getElem? (i := 5) rfl)) (by decide) (by decide)) q44a q44c (g := (mkF m 90 #[.val (.int p1), .val (.int p2), .val (.int p3), .val (.int p4), .val (.int p5), .val (.int ((1 : Int32) + (p1 &&& (3 : Int32)))), .val (.int ((1 : Int32) + (p2 &&& (3 : Int32)))), .val (.ref w_HEXAGON), .val (.ref b7), .val (.int cc), .val (.int rr), .unset, .unset] [(.int rr), (.int cc), (.ref b7)])) rfl (by rw [hml]; rfl) (Steps.refl _) (argsL := [(.int cc), (.int rr)]) (rest := []) (lenOf pd_5 rfl) rfl (by show 2 * 0 + _ ≤ _; exact Nat.le_of_eq rfl) (hb hby at_90) (fun _ _ => ⟨rfl, rfl, (by decide : 5 + 0 ≤ _), (by decide : 156 + 0 ≤ _)⟩)
            dsimp only [Pt.U, Pt.locs, Pt.cells, Pt.slots] at X44 l44 y44 z44 st44 hQ44
            subst l44 y44 z44
            obtain ⟨rfl, N44q, eq44⟩ := hQ44
            have N44 := Fr.app N43 N44q
            refine Go.tr st44 ?_
            show Go p e below _ (T44.setTop (mkF m 93 #[.val (.int p1), .val (.int p2), .val (.int p3), .val (.int p4), .val (.int p5), .val (.int ((1 : Int32) + (p1 &&& (3 : Int32)))), .val (.int ((1 : Int32) + (p2 &&& (3 : Int32)))), .val (.ref w_HEXAGON), .val (.ref b7), .val (.int cc), .val (.int rr), .unset, .unset] [(.int (-1 : Int32))]))
            refine Go.st (fun _ kk => XS.istore X44.here hx rfl (hb hby at_93) rfl (l' := #[.val (.int p1), .val (.int p2), .val (.int p3), .val (.int p4), .val (.int p5), .val (.int ((1 : Int32) + (p1 &&& (3 : Int32)))), .val (.int ((1 : Int32) + (p2 &&& (3 : Int32)))), .val (.ref w_HEXAGON), .val (.ref b7), .val (.int cc), .val (.int rr), .val (.int (-1 : Int32)), .unset]) rfl kk) ?_
            show Go p e below _ (T44.setTop (mkF m 95 #[.val (.int p1), .val (.int p2), .val (.int p3), .val (.int p4), .val (.int p5), .val (.int ((1 : Int32) + (p1 &&& (3 : Int32)))), .val (.int ((1 : Int32) + (p2 &&& (3 : Int32)))), .val (.ref w_HEXAGON), .val (.ref b7), .val (.int cc), .val (.int rr), .val (.int (-1 : Int32)), .unset] []))
            refine Go.st (fun _ kk => XS.iload X44.here hx rfl (hb hby at_95) rfl  kk) ?_
            show Go p e below _ (T44.setTop (mkF m 97 #[.val (.int p1), .val (.int p2), .val (.int p3), .val (.int p4), .val (.int p5), .val (.int ((1 : Int32) + (p1 &&& (3 : Int32)))), .val (.int ((1 : Int32) + (p2 &&& (3 : Int32)))), .val (.ref w_HEXAGON), .val (.ref b7), .val (.int cc), .val (.int rr), .val (.int (-1 : Int32)), .unset] [(.int cc)]))
            refine Go.st (fun _ kk => XS.ifNo X44.here hx rfl (hb hby at_97) rfl ((if0 _ _).trans (flt hc_13).1) kk) ?_
            show Go p e below _ (T44.setTop (mkF m 100 #[.val (.int p1), .val (.int p2), .val (.int p3), .val (.int p4), .val (.int p5), .val (.int ((1 : Int32) + (p1 &&& (3 : Int32)))), .val (.int ((1 : Int32) + (p2 &&& (3 : Int32)))), .val (.ref w_HEXAGON), .val (.ref b7), .val (.int cc), .val (.int rr), .val (.int (-1 : Int32)), .unset] []))
            refine Go.st (fun _ kk => XS.iload X44.here hx rfl (hb hby at_100) rfl  kk) ?_
            show Go p e below _ (T44.setTop (mkF m 102 #[.val (.int p1), .val (.int p2), .val (.int p3), .val (.int p4), .val (.int p5), .val (.int ((1 : Int32) + (p1 &&& (3 : Int32)))), .val (.int ((1 : Int32) + (p2 &&& (3 : Int32)))), .val (.ref w_HEXAGON), .val (.ref b7), .val (.int cc), .val (.int rr), .val (.int (-1 : Int32)), .unset] [(.int cc)]))
            refine Go.st (fun _ kk => XS.iload X44.here hx rfl (hb hby at_102) rfl  kk) ?_
            show Go p e below _ (T44.setTop (mkF m 104 #[.val (.int p1), .val (.int p2), .val (.int p3), .val (.int p4), .val (.int p5), .val (.int ((1 : Int32) + (p1 &&& (3 : Int32)))), .val (.int ((1 : Int32) + (p2 &&& (3 : Int32)))), .val (.ref w_HEXAGON), .val (.ref b7), .val (.int cc), .val (.int rr), .val (.int (-1 : Int32)), .unset] [(.int ((1 : Int32) + (p2 &&& (3 : Int32)))), (.int cc)]))
            refine Go.st (fun _ kk => XS.icmpNo X44.here hx rfl (hb hby at_104) rfl (tlt hc_14).2.1 kk) ?_
            show Go p e below _ (T44.setTop (mkF m 107 #[.val (.int p1), .val (.int p2), .val (.int p3), .val (.int p4), .val (.int p5), .val (.int ((1 : Int32) + (p1 &&& (3 : Int32)))), .val (.int ((1 : Int32) + (p2 &&& (3 : Int32)))), .val (.ref w_HEXAGON), .val (.ref b7), .val (.int cc), .val (.int rr), .val (.int (-1 : Int32)), .unset] []))
            refine Go.st (fun _ kk => XS.iload X44.here hx rfl (hb hby at_107) rfl  kk) ?_
            show Go p e below _ (T44.setTop (mkF m 109 #[.val (.int p1), .val (.int p2), .val (.int p3), .val (.int p4), .val (.int p5), .val (.int ((1 : Int32) + (p1 &&& (3 : Int32)))), .val (.int ((1 : Int32) + (p2 &&& (3 : Int32)))), .val (.ref w_HEXAGON), .val (.ref b7), .val (.int cc), .val (.int rr), .val (.int (-1 : Int32)), .unset] [(.int rr)]))
            refine Go.st (fun _ kk => XS.ifYes X44.here hx rfl (pc0 := 109) (pc' := 123) rfl (hb hby at_109) rfl ((if0 _ _).trans (tlt hc_15).1) (by decide) (by decide) kk) ?_
            show Go p e below _ (T44.setTop (mkF m 123 #[.val (.int p1), .val (.int p2), .val (.int p3), .val (.int p4), .val (.int p5), .val (.int ((1 : Int32) + (p1 &&& (3 : Int32)))), .val (.int ((1 : Int32) + (p2 &&& (3 : Int32)))), .val (.ref w_HEXAGON), .val (.ref b7), .val (.int cc), .val (.int rr), .val (.int (-1 : Int32)), .unset] []))
            refine Go.st (fun _ kk => XS.iconst X44.here hx rfl (hb hby at_123) kk) ?_
            show Go p e below _ (T44.setTop (mkF m 124 #[.val (.int p1), .val (.int p2), .val (.int p3), .val (.int p4), .val (.int p5), .val (.int ((1 : Int32) + (p1 &&& (3 : Int32)))), .val (.int ((1 : Int32) + (p2 &&& (3 : Int32)))), .val (.ref w_HEXAGON), .val (.ref b7), .val (.int cc), .val (.int rr), .val (.int (-1 : Int32)), .unset] [(.int (0 : Int32))]))
            refine Go.st (fun _ kk => XS.istore X44.here hx rfl (hb hby at_124) rfl (l' := #[.val (.int p1), .val (.int p2), .val (.int p3), .val (.int p4), .val (.int p5), .val (.int ((1 : Int32) + (p1 &&& (3 : Int32)))), .val (.int ((1 : Int32) + (p2 &&& (3 : Int32)))), .val (.ref w_HEXAGON), .val (.ref b7), .val (.int cc), .val (.int rr), .val (.int (-1 : Int32)), .val (.int (0 : Int32))]) rfl kk) ?_
            show Go p e below _ (T44.setTop (mkF m 126 #[.val (.int p1), .val (.int p2), .val (.int p3), .val (.int p4), .val (.int p5), .val (.int ((1 : Int32) + (p1 &&& (3 : Int32)))), .val (.int ((1 : Int32) + (p2 &&& (3 : Int32)))), .val (.ref w_HEXAGON), .val (.ref b7), .val (.int cc), .val (.int rr), .val (.int (-1 : Int32)), .val (.int (0 : Int32))] []))
            refine Go.st (fun _ kk => XS.iload X44.here hx rfl (hb hby at_126) rfl  kk) ?_
            show Go p e below _ (T44.setTop (mkF m 128 #[.val (.int p1), .val (.int p2), .val (.int p3), .val (.int p4), .val (.int p5), .val (.int ((1 : Int32) + (p1 &&& (3 : Int32)))), .val (.int ((1 : Int32) + (p2 &&& (3 : Int32)))), .val (.ref w_HEXAGON), .val (.ref b7), .val (.int cc), .val (.int rr), .val (.int (-1 : Int32)), .val (.int (0 : Int32))] [(.int (0 : Int32))]))
            refine Go.st (fun _ kk => XS.ifNo X44.here hx rfl (hb hby at_128) rfl ((if0 _ _).trans (teq (by decide : ((0 : Int32) = (0 : Int32)))).2) kk) ?_
            show Go p e below _ (T44.setTop (mkF m 131 #[.val (.int p1), .val (.int p2), .val (.int p3), .val (.int p4), .val (.int p5), .val (.int ((1 : Int32) + (p1 &&& (3 : Int32)))), .val (.int ((1 : Int32) + (p2 &&& (3 : Int32)))), .val (.ref w_HEXAGON), .val (.ref b7), .val (.int cc), .val (.int rr), .val (.int (-1 : Int32)), .val (.int (0 : Int32))] []))
            refine Go.st (fun _ kk => XS.iload X44.here hx rfl (hb hby at_131) rfl  kk) ?_
            show Go p e below _ (T44.setTop (mkF m 133 #[.val (.int p1), .val (.int p2), .val (.int p3), .val (.int p4), .val (.int p5), .val (.int ((1 : Int32) + (p1 &&& (3 : Int32)))), .val (.int ((1 : Int32) + (p2 &&& (3 : Int32)))), .val (.ref w_HEXAGON), .val (.ref b7), .val (.int cc), .val (.int rr), .val (.int (-1 : Int32)), .val (.int (0 : Int32))] [(.int (-1 : Int32))]))
            refine Go.st (fun _ kk => XS.iconst X44.here hx rfl (hb hby at_133) kk) ?_
            show Go p e below _ (T44.setTop (mkF m 134 #[.val (.int p1), .val (.int p2), .val (.int p3), .val (.int p4), .val (.int p5), .val (.int ((1 : Int32) + (p1 &&& (3 : Int32)))), .val (.int ((1 : Int32) + (p2 &&& (3 : Int32)))), .val (.ref w_HEXAGON), .val (.ref b7), .val (.int cc), .val (.int rr), .val (.int (-1 : Int32)), .val (.int (0 : Int32))] [(.int (-1 : Int32)), (.int (-1 : Int32))]))
            refine Go.st (fun _ kk => XS.icmpNo X44.here hx rfl (hb hby at_134) rfl (teq (by decide : ((-1 : Int32) = (-1 : Int32)))).2 kk) ?_
            show Go p e below _ (T44.setTop (mkF m 137 #[.val (.int p1), .val (.int p2), .val (.int p3), .val (.int p4), .val (.int p5), .val (.int ((1 : Int32) + (p1 &&& (3 : Int32)))), .val (.int ((1 : Int32) + (p2 &&& (3 : Int32)))), .val (.ref w_HEXAGON), .val (.ref b7), .val (.int cc), .val (.int rr), .val (.int (-1 : Int32)), .val (.int (0 : Int32))] []))
            refine Go.st (fun _ kk => XS.iconst X44.here hx rfl (hb hby at_137) kk) ?_
            show Go p e below _ (T44.setTop (mkF m 138 #[.val (.int p1), .val (.int p2), .val (.int p3), .val (.int p4), .val (.int p5), .val (.int ((1 : Int32) + (p1 &&& (3 : Int32)))), .val (.int ((1 : Int32) + (p2 &&& (3 : Int32)))), .val (.ref w_HEXAGON), .val (.ref b7), .val (.int cc), .val (.int rr), .val (.int (-1 : Int32)), .val (.int (0 : Int32))] [(.int (1 : Int32))]))
            refine Go.st (fun _ kk => XS.goto X44.here hx rfl (pc0 := 138) (pc' := 142) rfl (hb hby at_138) (by decide) (by decide) kk) ?_
            show Go p e below _ (T44.setTop (mkF m 142 #[.val (.int p1), .val (.int p2), .val (.int p3), .val (.int p4), .val (.int p5), .val (.int ((1 : Int32) + (p1 &&& (3 : Int32)))), .val (.int ((1 : Int32) + (p2 &&& (3 : Int32)))), .val (.ref w_HEXAGON), .val (.ref b7), .val (.int cc), .val (.int rr), .val (.int (-1 : Int32)), .val (.int (0 : Int32))] [(.int (1 : Int32))]))
            exact Go.ret (Q := Q0 n0) X44 (v := some (.int (1 : Int32))) (fun h => by rw [Bd.returns] at h; cases h) Bd.notSynchronized (fun fs hr => retN X44 hx (t := .boolean) Bd.returns (by simp) (hb hby at_142) hr) eq44 ⟨rfl, N44⟩ (by decide) (by decide)
          · skip
            by_cases hc_16 : rr < ((1 : Int32) + (p1 &&& (3 : Int32)))
            · skip
              obtain ⟨cq44, kq44, q44a, q44b, q44c⟩ := isOf hZ rfl P43_0
              obtain ⟨_, _, ⟨T44, L44, k44, n44⟩, -, X44, ⟨Lc44, hQ44, l44, y44, z44⟩, st44⟩ := X43.virtualBack hx (y := (⟨"com/example/tabulon/tabulon/game/Board", "siteAt", "(II)I"⟩ : MethodName)) (z := (⟨"com/example/tabulon/tabulon/game/Board", "siteAt", "(II)I"⟩ : MethodName)) hown (mvT hZ (hw _ (List.mem_of_getElem? (i := 74) rfl))) (mvT hZ (hw _ (List.mem_of_getElem? (i := 75) rfl))) (notFace_of_selects (args := #[]) (mvT hZ (hw _ (List.mem_of_getElem? (i := 77) rfl)))) (mvT hZ (hw _ (List.mem_of_getElem? (i := 77) rfl))) (mvT hZ (hw _ (List.mem_of_getElem? (i := 76) rfl))) (by decide) (backOf (W := 0) (rm8_ftft l Z a0 hw [] b7 cc rr ((1 : Int32) + (p2 &&& (3 : Int32))) ((1 : Int32) + (p1 &&& (3 : Int32))) T43.heap n0 (Nat.le_trans Z0 K43.1) hc_13 P43_2 hc_14 hc_15 P43_1 hc_16) hZ (hw _ (List.mem_of_getElem? (i := 78) rfl)) (hw _ (List.mem_of_getElem? (i := 5) rfl)) (by decide) (by decide)) q44a q44c (g := (mkF m 90 #[.val (.int p1), .val (.int p2), .val (.int p3), .val (.int p4), .val (.int p5), .val (.int ((1 : Int32) + (p1 &&& (3 : Int32)))), .val (.int ((1 : Int32) + (p2 &&& (3 : Int32)))), .val (.ref w_HEXAGON), .val (.ref b7), .val (.int cc), .val (.int rr), .unset, .unset] [(.int rr), (.int cc), (.ref b7)])) rfl (by rw [hml]; rfl) (Steps.refl _) (argsL := [(.int cc), (.int rr)]) (rest := []) (lenOf pd_5 rfl) rfl (by show 2 * 0 + _ ≤ _; exact Nat.le_of_eq rfl) (hb hby at_90) (fun _ _ => ⟨rfl, rfl, (by decide : 5 + 0 ≤ _), (by decide : 156 + 0 ≤ _)⟩)
              dsimp only [Pt.U, Pt.locs, Pt.cells, Pt.slots] at X44 l44 y44 z44 st44 hQ44
              subst l44 y44 z44
              obtain ⟨rfl, N44q, eq44⟩ := hQ44
              have N44 := Fr.app N43 N44q
              refine Go.tr st44 ?_
              show Go p e below _ (T44.setTop (mkF m 93 #[.val (.int p1), .val (.int p2), .val (.int p3), .val (.int p4), .val (.int p5), .val (.int ((1 : Int32) + (p1 &&& (3 : Int32)))), .val (.int ((1 : Int32) + (p2 &&& (3 : Int32)))), .val (.ref w_HEXAGON), .val (.ref b7), .val (.int cc), .val (.int rr), .unset, .unset] [(.int ((rr * ((1 : Int32) + (p2 &&& (3 : Int32)))) + cc))]))
              refine Go.st (fun _ kk => XS.istore X44.here hx rfl (hb hby at_93) rfl (l' := #[.val (.int p1), .val (.int p2), .val (.int p3), .val (.int p4), .val (.int p5), .val (.int ((1 : Int32) + (p1 &&& (3 : Int32)))), .val (.int ((1 : Int32) + (p2 &&& (3 : Int32)))), .val (.ref w_HEXAGON), .val (.ref b7), .val (.int cc), .val (.int rr), .val (.int ((rr * ((1 : Int32) + (p2 &&& (3 : Int32)))) + cc)), .unset]) rfl kk) ?_
              show Go p e below _ (T44.setTop (mkF m 95 #[.val (.int p1), .val (.int p2), .val (.int p3), .val (.int p4), .val (.int p5), .val (.int ((1 : Int32) + (p1 &&& (3 : Int32)))), .val (.int ((1 : Int32) + (p2 &&& (3 : Int32)))), .val (.ref w_HEXAGON), .val (.ref b7), .val (.int cc), .val (.int rr), .val (.int ((rr * ((1 : Int32) + (p2 &&& (3 : Int32)))) + cc)), .unset] []))
              refine Go.st (fun _ kk => XS.iload X44.here hx rfl (hb hby at_95) rfl  kk) ?_
              show Go p e below _ (T44.setTop (mkF m 97 #[.val (.int p1), .val (.int p2), .val (.int p3), .val (.int p4), .val (.int p5), .val (.int ((1 : Int32) + (p1 &&& (3 : Int32)))), .val (.int ((1 : Int32) + (p2 &&& (3 : Int32)))), .val (.ref w_HEXAGON), .val (.ref b7), .val (.int cc), .val (.int rr), .val (.int ((rr * ((1 : Int32) + (p2 &&& (3 : Int32)))) + cc)), .unset] [(.int cc)]))
              refine Go.st (fun _ kk => XS.ifNo X44.here hx rfl (hb hby at_97) rfl ((if0 _ _).trans (flt hc_13).1) kk) ?_
              show Go p e below _ (T44.setTop (mkF m 100 #[.val (.int p1), .val (.int p2), .val (.int p3), .val (.int p4), .val (.int p5), .val (.int ((1 : Int32) + (p1 &&& (3 : Int32)))), .val (.int ((1 : Int32) + (p2 &&& (3 : Int32)))), .val (.ref w_HEXAGON), .val (.ref b7), .val (.int cc), .val (.int rr), .val (.int ((rr * ((1 : Int32) + (p2 &&& (3 : Int32)))) + cc)), .unset] []))
              refine Go.st (fun _ kk => XS.iload X44.here hx rfl (hb hby at_100) rfl  kk) ?_
              show Go p e below _ (T44.setTop (mkF m 102 #[.val (.int p1), .val (.int p2), .val (.int p3), .val (.int p4), .val (.int p5), .val (.int ((1 : Int32) + (p1 &&& (3 : Int32)))), .val (.int ((1 : Int32) + (p2 &&& (3 : Int32)))), .val (.ref w_HEXAGON), .val (.ref b7), .val (.int cc), .val (.int rr), .val (.int ((rr * ((1 : Int32) + (p2 &&& (3 : Int32)))) + cc)), .unset] [(.int cc)]))
              refine Go.st (fun _ kk => XS.iload X44.here hx rfl (hb hby at_102) rfl  kk) ?_
              show Go p e below _ (T44.setTop (mkF m 104 #[.val (.int p1), .val (.int p2), .val (.int p3), .val (.int p4), .val (.int p5), .val (.int ((1 : Int32) + (p1 &&& (3 : Int32)))), .val (.int ((1 : Int32) + (p2 &&& (3 : Int32)))), .val (.ref w_HEXAGON), .val (.ref b7), .val (.int cc), .val (.int rr), .val (.int ((rr * ((1 : Int32) + (p2 &&& (3 : Int32)))) + cc)), .unset] [(.int ((1 : Int32) + (p2 &&& (3 : Int32)))), (.int cc)]))
              refine Go.st (fun _ kk => XS.icmpNo X44.here hx rfl (hb hby at_104) rfl (tlt hc_14).2.1 kk) ?_
              show Go p e below _ (T44.setTop (mkF m 107 #[.val (.int p1), .val (.int p2), .val (.int p3), .val (.int p4), .val (.int p5), .val (.int ((1 : Int32) + (p1 &&& (3 : Int32)))), .val (.int ((1 : Int32) + (p2 &&& (3 : Int32)))), .val (.ref w_HEXAGON), .val (.ref b7), .val (.int cc), .val (.int rr), .val (.int ((rr * ((1 : Int32) + (p2 &&& (3 : Int32)))) + cc)), .unset] []))
              refine Go.st (fun _ kk => XS.iload X44.here hx rfl (hb hby at_107) rfl  kk) ?_
              show Go p e below _ (T44.setTop (mkF m 109 #[.val (.int p1), .val (.int p2), .val (.int p3), .val (.int p4), .val (.int p5), .val (.int ((1 : Int32) + (p1 &&& (3 : Int32)))), .val (.int ((1 : Int32) + (p2 &&& (3 : Int32)))), .val (.ref w_HEXAGON), .val (.ref b7), .val (.int cc), .val (.int rr), .val (.int ((rr * ((1 : Int32) + (p2 &&& (3 : Int32)))) + cc)), .unset] [(.int rr)]))
              refine Go.st (fun _ kk => XS.ifNo X44.here hx rfl (hb hby at_109) rfl ((if0 _ _).trans (flt hc_15).1) kk) ?_
              show Go p e below _ (T44.setTop (mkF m 112 #[.val (.int p1), .val (.int p2), .val (.int p3), .val (.int p4), .val (.int p5), .val (.int ((1 : Int32) + (p1 &&& (3 : Int32)))), .val (.int ((1 : Int32) + (p2 &&& (3 : Int32)))), .val (.ref w_HEXAGON), .val (.ref b7), .val (.int cc), .val (.int rr), .val (.int ((rr * ((1 : Int32) + (p2 &&& (3 : Int32)))) + cc)), .unset] []))
              refine Go.st (fun _ kk => XS.iload X44.here hx rfl (hb hby at_112) rfl  kk) ?_
              show Go p e below _ (T44.setTop (mkF m 114 #[.val (.int p1), .val (.int p2), .val (.int p3), .val (.int p4), .val (.int p5), .val (.int ((1 : Int32) + (p1 &&& (3 : Int32)))), .val (.int ((1 : Int32) + (p2 &&& (3 : Int32)))), .val (.ref w_HEXAGON), .val (.ref b7), .val (.int cc), .val (.int rr), .val (.int ((rr * ((1 : Int32) + (p2 &&& (3 : Int32)))) + cc)), .unset] [(.int rr)]))
              refine Go.st (fun _ kk => XS.iload X44.here hx rfl (hb hby at_114) rfl  kk) ?_
              show Go p e below _ (T44.setTop (mkF m 116 #[.val (.int p1), .val (.int p2), .val (.int p3), .val (.int p4), .val (.int p5), .val (.int ((1 : Int32) + (p1 &&& (3 : Int32)))), .val (.int ((1 : Int32) + (p2 &&& (3 : Int32)))), .val (.ref w_HEXAGON), .val (.ref b7), .val (.int cc), .val (.int rr), .val (.int ((rr * ((1 : Int32) + (p2 &&& (3 : Int32)))) + cc)), .unset] [(.int ((1 : Int32) + (p1 &&& (3 : Int32)))), (.int rr)]))
              refine Go.st (fun _ kk => XS.icmpNo X44.here hx rfl (hb hby at_116) rfl (tlt hc_16).2.1 kk) ?_
              show Go p e below _ (T44.setTop (mkF m 119 #[.val (.int p1), .val (.int p2), .val (.int p3), .val (.int p4), .val (.int p5), .val (.int ((1 : Int32) + (p1 &&& (3 : Int32)))), .val (.int ((1 : Int32) + (p2 &&& (3 : Int32)))), .val (.ref w_HEXAGON), .val (.ref b7), .val (.int cc), .val (.int rr), .val (.int ((rr * ((1 : Int32) + (p2 &&& (3 : Int32)))) + cc)), .unset] []))
              refine Go.st (fun _ kk => XS.iconst X44.here hx rfl (hb hby at_119) kk) ?_
              show Go p e below _ (T44.setTop (mkF m 120 #[.val (.int p1), .val (.int p2), .val (.int p3), .val (.int p4), .val (.int p5), .val (.int ((1 : Int32) + (p1 &&& (3 : Int32)))), .val (.int ((1 : Int32) + (p2 &&& (3 : Int32)))), .val (.ref w_HEXAGON), .val (.ref b7), .val (.int cc), .val (.int rr), .val (.int ((rr * ((1 : Int32) + (p2 &&& (3 : Int32)))) + cc)), .unset] [(.int (1 : Int32))]))
              refine Go.st (fun _ kk => XS.goto X44.here hx rfl (pc0 := 120) (pc' := 124) rfl (hb hby at_120) (by decide) (by decide) kk) ?_
              show Go p e below _ (T44.setTop (mkF m 124 #[.val (.int p1), .val (.int p2), .val (.int p3), .val (.int p4), .val (.int p5), .val (.int ((1 : Int32) + (p1 &&& (3 : Int32)))), .val (.int ((1 : Int32) + (p2 &&& (3 : Int32)))), .val (.ref w_HEXAGON), .val (.ref b7), .val (.int cc), .val (.int rr), .val (.int ((rr * ((1 : Int32) + (p2 &&& (3 : Int32)))) + cc)), .unset] [(.int (1 : Int32))]))
              refine Go.st (fun _ kk => XS.istore X44.here hx rfl (hb hby at_124) rfl (l' := #[.val (.int p1), .val (.int p2), .val (.int p3), .val (.int p4), .val (.int p5), .val (.int ((1 : Int32) + (p1 &&& (3 : Int32)))), .val (.int ((1 : Int32) + (p2 &&& (3 : Int32)))), .val (.ref w_HEXAGON), .val (.ref b7), .val (.int cc), .val (.int rr), .val (.int ((rr * ((1 : Int32) + (p2 &&& (3 : Int32)))) + cc)), .val (.int (1 : Int32))]) rfl kk) ?_
              show Go p e below _ (T44.setTop (mkF m 126 #[.val (.int p1), .val (.int p2), .val (.int p3), .val (.int p4), .val (.int p5), .val (.int ((1 : Int32) + (p1 &&& (3 : Int32)))), .val (.int ((1 : Int32) + (p2 &&& (3 : Int32)))), .val (.ref w_HEXAGON), .val (.ref b7), .val (.int cc), .val (.int rr), .val (.int ((rr * ((1 : Int32) + (p2 &&& (3 : Int32)))) + cc)), .val (.int (1 : Int32))] []))
              refine Go.st (fun _ kk => XS.iload X44.here hx rfl (hb hby at_126) rfl  kk) ?_
              show Go p e below _ (T44.setTop (mkF m 128 #[.val (.int p1), .val (.int p2), .val (.int p3), .val (.int p4), .val (.int p5), .val (.int ((1 : Int32) + (p1 &&& (3 : Int32)))), .val (.int ((1 : Int32) + (p2 &&& (3 : Int32)))), .val (.ref w_HEXAGON), .val (.ref b7), .val (.int cc), .val (.int rr), .val (.int ((rr * ((1 : Int32) + (p2 &&& (3 : Int32)))) + cc)), .val (.int (1 : Int32))] [(.int (1 : Int32))]))
              refine Go.st (fun _ kk => XS.ifYes X44.here hx rfl (pc0 := 128) (pc' := 143) rfl (hb hby at_128) rfl ((if0 _ _).trans (feq (by decide : ¬ ((1 : Int32) = (0 : Int32)))).2) (by decide) (by decide) kk) ?_
              show Go p e below _ (T44.setTop (mkF m 143 #[.val (.int p1), .val (.int p2), .val (.int p3), .val (.int p4), .val (.int p5), .val (.int ((1 : Int32) + (p1 &&& (3 : Int32)))), .val (.int ((1 : Int32) + (p2 &&& (3 : Int32)))), .val (.ref w_HEXAGON), .val (.ref b7), .val (.int cc), .val (.int rr), .val (.int ((rr * ((1 : Int32) + (p2 &&& (3 : Int32)))) + cc)), .val (.int (1 : Int32))] []))
              refine Go.st (fun _ kk => XS.iload X44.here hx rfl (hb hby at_143) rfl  kk) ?_
              show Go p e below _ (T44.setTop (mkF m 145 #[.val (.int p1), .val (.int p2), .val (.int p3), .val (.int p4), .val (.int p5), .val (.int ((1 : Int32) + (p1 &&& (3 : Int32)))), .val (.int ((1 : Int32) + (p2 &&& (3 : Int32)))), .val (.ref w_HEXAGON), .val (.ref b7), .val (.int cc), .val (.int rr), .val (.int ((rr * ((1 : Int32) + (p2 &&& (3 : Int32)))) + cc)), .val (.int (1 : Int32))] [(.int ((rr * ((1 : Int32) + (p2 &&& (3 : Int32)))) + cc))]))
              refine Go.st (fun _ kk => XS.ifNo X44.here hx rfl (hb hby at_145) rfl ((if0 _ _).trans (flt (own_site (own_14 p1) (own_14 p2) hc_13 hc_14 hc_15 hc_16).1).1) kk) ?_
              show Go p e below _ (T44.setTop (mkF m 148 #[.val (.int p1), .val (.int p2), .val (.int p3), .val (.int p4), .val (.int p5), .val (.int ((1 : Int32) + (p1 &&& (3 : Int32)))), .val (.int ((1 : Int32) + (p2 &&& (3 : Int32)))), .val (.ref w_HEXAGON), .val (.ref b7), .val (.int cc), .val (.int rr), .val (.int ((rr * ((1 : Int32) + (p2 &&& (3 : Int32)))) + cc)), .val (.int (1 : Int32))] []))
              refine Go.st (fun _ kk => XS.iload X44.here hx rfl (hb hby at_148) rfl  kk) ?_
              show Go p e below _ (T44.setTop (mkF m 150 #[.val (.int p1), .val (.int p2), .val (.int p3), .val (.int p4), .val (.int p5), .val (.int ((1 : Int32) + (p1 &&& (3 : Int32)))), .val (.int ((1 : Int32) + (p2 &&& (3 : Int32)))), .val (.ref w_HEXAGON), .val (.ref b7), .val (.int cc), .val (.int rr), .val (.int ((rr * ((1 : Int32) + (p2 &&& (3 : Int32)))) + cc)), .val (.int (1 : Int32))] [(.int ((rr * ((1 : Int32) + (p2 &&& (3 : Int32)))) + cc))]))
              refine Go.st (fun _ kk => XS.iload X44.here hx rfl (hb hby at_150) rfl  kk) ?_
              show Go p e below _ (T44.setTop (mkF m 152 #[.val (.int p1), .val (.int p2), .val (.int p3), .val (.int p4), .val (.int p5), .val (.int ((1 : Int32) + (p1 &&& (3 : Int32)))), .val (.int ((1 : Int32) + (p2 &&& (3 : Int32)))), .val (.ref w_HEXAGON), .val (.ref b7), .val (.int cc), .val (.int rr), .val (.int ((rr * ((1 : Int32) + (p2 &&& (3 : Int32)))) + cc)), .val (.int (1 : Int32))] [(.int ((1 : Int32) + (p1 &&& (3 : Int32)))), (.int ((rr * ((1 : Int32) + (p2 &&& (3 : Int32)))) + cc))]))
              refine Go.st (fun _ kk => XS.iload X44.here hx rfl (hb hby at_152) rfl  kk) ?_
              show Go p e below _ (T44.setTop (mkF m 154 #[.val (.int p1), .val (.int p2), .val (.int p3), .val (.int p4), .val (.int p5), .val (.int ((1 : Int32) + (p1 &&& (3 : Int32)))), .val (.int ((1 : Int32) + (p2 &&& (3 : Int32)))), .val (.ref w_HEXAGON), .val (.ref b7), .val (.int cc), .val (.int rr), .val (.int ((rr * ((1 : Int32) + (p2 &&& (3 : Int32)))) + cc)), .val (.int (1 : Int32))] [(.int ((1 : Int32) + (p2 &&& (3 : Int32)))), (.int ((1 : Int32) + (p1 &&& (3 : Int32)))), (.int ((rr * ((1 : Int32) + (p2 &&& (3 : Int32)))) + cc))]))
              refine Go.st (fun _ kk => XS.imul X44.here hx rfl (hb hby at_154) rfl kk) ?_
              show Go p e below _ (T44.setTop (mkF m 155 #[.val (.int p1), .val (.int p2), .val (.int p3), .val (.int p4), .val (.int p5), .val (.int ((1 : Int32) + (p1 &&& (3 : Int32)))), .val (.int ((1 : Int32) + (p2 &&& (3 : Int32)))), .val (.ref w_HEXAGON), .val (.ref b7), .val (.int cc), .val (.int rr), .val (.int ((rr * ((1 : Int32) + (p2 &&& (3 : Int32)))) + cc)), .val (.int (1 : Int32))] [(.int (((1 : Int32) + (p1 &&& (3 : Int32))) * ((1 : Int32) + (p2 &&& (3 : Int32))))), (.int ((rr * ((1 : Int32) + (p2 &&& (3 : Int32)))) + cc))]))
              refine Go.st (fun _ kk => XS.icmpNo X44.here hx rfl (hb hby at_155) rfl (tlt (own_site (own_14 p1) (own_14 p2) hc_13 hc_14 hc_15 hc_16).2.1).2.1 kk) ?_
              show Go p e below _ (T44.setTop (mkF m 158 #[.val (.int p1), .val (.int p2), .val (.int p3), .val (.int p4), .val (.int p5), .val (.int ((1 : Int32) + (p1 &&& (3 : Int32)))), .val (.int ((1 : Int32) + (p2 &&& (3 : Int32)))), .val (.ref w_HEXAGON), .val (.ref b7), .val (.int cc), .val (.int rr), .val (.int ((rr * ((1 : Int32) + (p2 &&& (3 : Int32)))) + cc)), .val (.int (1 : Int32))] []))
              refine Go.st (fun _ kk => XS.aload X44.here hx rfl (hb hby at_158) rfl rfl  kk) ?_
              show Go p e below _ (T44.setTop (mkF m 160 #[.val (.int p1), .val (.int p2), .val (.int p3), .val (.int p4), .val (.int p5), .val (.int ((1 : Int32) + (p1 &&& (3 : Int32)))), .val (.int ((1 : Int32) + (p2 &&& (3 : Int32)))), .val (.ref w_HEXAGON), .val (.ref b7), .val (.int cc), .val (.int rr), .val (.int ((rr * ((1 : Int32) + (p2 &&& (3 : Int32)))) + cc)), .val (.int (1 : Int32))] [(.ref b7)]))
              refine Go.st (fun _ kk => XS.iload X44.here hx rfl (hb hby at_160) rfl  kk) ?_
              show Go p e below _ (T44.setTop (mkF m 162 #[.val (.int p1), .val (.int p2), .val (.int p3), .val (.int p4), .val (.int p5), .val (.int ((1 : Int32) + (p1 &&& (3 : Int32)))), .val (.int ((1 : Int32) + (p2 &&& (3 : Int32)))), .val (.ref w_HEXAGON), .val (.ref b7), .val (.int cc), .val (.int rr), .val (.int ((rr * ((1 : Int32) + (p2 &&& (3 : Int32)))) + cc)), .val (.int (1 : Int32))] [(.int ((rr * ((1 : Int32) + (p2 &&& (3 : Int32)))) + cc)), (.ref b7)]))
              obtain ⟨cq45, kq45, q45a, q45b, q45c⟩ := isOf hZ eq44 P43_0
              obtain ⟨_, _, ⟨T45, L45, k45, n45⟩, -, X45, ⟨Lc45, hQ45, l45, y45, z45⟩, st45⟩ := X44.virtualBack hx (y := (⟨"com/example/tabulon/tabulon/game/Board", "column", "(I)I"⟩ : MethodName)) (z := (⟨"com/example/tabulon/tabulon/game/Board", "column", "(I)I"⟩ : MethodName)) hown (mvT hZ (hw _ (List.mem_of_getElem? (i := 81) rfl))) (mvT hZ (hw _ (List.mem_of_getElem? (i := 65) rfl))) (notFace_of_selects (args := #[]) (mvT hZ (hw _ (List.mem_of_getElem? (i := 67) rfl)))) (mvT hZ (hw _ (List.mem_of_getElem? (i := 67) rfl))) (mvT hZ (hw _ (List.mem_of_getElem? (i := 66) rfl))) (by decide) (backOf (W := 0) (rm6_f l Z a0 hw [] b7 ((rr * ((1 : Int32) + (p2 &&& (3 : Int32)))) + cc) ((1 : Int32) + (p2 &&& (3 : Int32))) T43.heap n0 (Nat.le_trans Z0 K43.1) P43_2 (own_nz (own_14 p2))) hZ (hw _ (List.mem_of_getElem? (i := 68) rfl)) (hw _ (List.mem_of_getElem? (i := 5) rfl)) (by decide) (by decide)) q45a q45c (g := (mkF m 162 #[.val (.int p1), .val (.int p2), .val (.int p3), .val (.int p4), .val (.int p5), .val (.int ((1 : Int32) + (p1 &&& (3 : Int32)))), .val (.int ((1 : Int32) + (p2 &&& (3 : Int32)))), .val (.ref w_HEXAGON), .val (.ref b7), .val (.int cc), .val (.int rr), .val (.int ((rr * ((1 : Int32) + (p2 &&& (3 : Int32)))) + cc)), .val (.int (1 : Int32))] [(.int ((rr * ((1 : Int32) + (p2 &&& (3 : Int32)))) + cc)), (.ref b7)])) rfl (by rw [hml]; rfl) (Steps.refl _) (argsL := [(.int ((rr * ((1 : Int32) + (p2 &&& (3 : Int32)))) + cc))]) (rest := []) (lenOf pd_0 rfl) rfl (by show 2 * 0 + _ ≤ _; exact Nat.le_of_eq rfl) (hb hby at_162) (fun _ _ => ⟨rfl, eq44, (by decide : 5 + 0 ≤ _), (by decide : 156 + 0 ≤ _)⟩)
              dsimp only [Pt.U, Pt.locs, Pt.cells, Pt.slots] at X45 l45 y45 z45 st45 hQ45
              subst l45 y45 z45
              obtain ⟨rfl, N45q, eq45⟩ := hQ45
              have N45 := Fr.app N44 N45q
              refine Go.tr st45 ?_
              show Go p e below _ (T45.setTop (mkF m 165 #[.val (.int p1), .val (.int p2), .val (.int p3), .val (.int p4), .val (.int p5), .val (.int ((1 : Int32) + (p1 &&& (3 : Int32)))), .val (.int ((1 : Int32) + (p2 &&& (3 : Int32)))), .val (.ref w_HEXAGON), .val (.ref b7), .val (.int cc), .val (.int rr), .val (.int ((rr * ((1 : Int32) + (p2 &&& (3 : Int32)))) + cc)), .val (.int (1 : Int32))] [(.int (((rr * ((1 : Int32) + (p2 &&& (3 : Int32)))) + cc) % ((1 : Int32) + (p2 &&& (3 : Int32)))))]))
              refine Go.st (fun _ kk => XS.iload X45.here hx rfl (hb hby at_165) rfl  kk) ?_
              show Go p e below _ (T45.setTop (mkF m 167 #[.val (.int p1), .val (.int p2), .val (.int p3), .val (.int p4), .val (.int p5), .val (.int ((1 : Int32) + (p1 &&& (3 : Int32)))), .val (.int ((1 : Int32) + (p2 &&& (3 : Int32)))), .val (.ref w_HEXAGON), .val (.ref b7), .val (.int cc), .val (.int rr), .val (.int ((rr * ((1 : Int32) + (p2 &&& (3 : Int32)))) + cc)), .val (.int (1 : Int32))] [(.int cc), (.int (((rr * ((1 : Int32) + (p2 &&& (3 : Int32)))) + cc) % ((1 : Int32) + (p2 &&& (3 : Int32)))))]))
              refine Go.st (fun _ kk => XS.icmpNo X45.here hx rfl (hb hby at_167) rfl (teq (own_site (own_14 p1) (own_14 p2) hc_13 hc_14 hc_15 hc_16).2.2.1).2 kk) ?_
              show Go p e below _ (T45.setTop (mkF m 170 #[.val (.int p1), .val (.int p2), .val (.int p3), .val (.int p4), .val (.int p5), .val (.int ((1 : Int32) + (p1 &&& (3 : Int32)))), .val (.int ((1 : Int32) + (p2 &&& (3 : Int32)))), .val (.ref w_HEXAGON), .val (.ref b7), .val (.int cc), .val (.int rr), .val (.int ((rr * ((1 : Int32) + (p2 &&& (3 : Int32)))) + cc)), .val (.int (1 : Int32))] []))
              refine Go.st (fun _ kk => XS.aload X45.here hx rfl (hb hby at_170) rfl rfl  kk) ?_
              show Go p e below _ (T45.setTop (mkF m 172 #[.val (.int p1), .val (.int p2), .val (.int p3), .val (.int p4), .val (.int p5), .val (.int ((1 : Int32) + (p1 &&& (3 : Int32)))), .val (.int ((1 : Int32) + (p2 &&& (3 : Int32)))), .val (.ref w_HEXAGON), .val (.ref b7), .val (.int cc), .val (.int rr), .val (.int ((rr * ((1 : Int32) + (p2 &&& (3 : Int32)))) + cc)), .val (.int (1 : Int32))] [(.ref b7)]))
              refine Go.st (fun _ kk => XS.iload X45.here hx rfl (hb hby at_172) rfl  kk) ?_
              show Go p e below _ (T45.setTop (mkF m 174 #[.val (.int p1), .val (.int p2), .val (.int p3), .val (.int p4), .val (.int p5), .val (.int ((1 : Int32) + (p1 &&& (3 : Int32)))), .val (.int ((1 : Int32) + (p2 &&& (3 : Int32)))), .val (.ref w_HEXAGON), .val (.ref b7), .val (.int cc), .val (.int rr), .val (.int ((rr * ((1 : Int32) + (p2 &&& (3 : Int32)))) + cc)), .val (.int (1 : Int32))] [(.int ((rr * ((1 : Int32) + (p2 &&& (3 : Int32)))) + cc)), (.ref b7)]))
              obtain ⟨cq46, kq46, q46a, q46b, q46c⟩ := isOf hZ eq45 P43_0
              obtain ⟨_, _, ⟨T46, L46, k46, n46⟩, -, X46, ⟨Lc46, hQ46, l46, y46, z46⟩, st46⟩ := X45.virtualBack hx (y := (⟨"com/example/tabulon/tabulon/game/Board", "row", "(I)I"⟩ : MethodName)) (z := (⟨"com/example/tabulon/tabulon/game/Board", "row", "(I)I"⟩ : MethodName)) hown (mvT hZ (hw _ (List.mem_of_getElem? (i := 82) rfl))) (mvT hZ (hw _ (List.mem_of_getElem? (i := 70) rfl))) (notFace_of_selects (args := #[]) (mvT hZ (hw _ (List.mem_of_getElem? (i := 72) rfl)))) (mvT hZ (hw _ (List.mem_of_getElem? (i := 72) rfl))) (mvT hZ (hw _ (List.mem_of_getElem? (i := 71) rfl))) (by decide) (backOf (W := 0) (rm7_f l Z a0 hw [] b7 ((rr * ((1 : Int32) + (p2 &&& (3 : Int32)))) + cc) ((1 : Int32) + (p2 &&& (3 : Int32))) T43.heap n0 (Nat.le_trans Z0 K43.1) P43_2 (own_nz (own_14 p2))) hZ (hw _ (List.mem_of_getElem? (i := 73) rfl)) (hw _ (List.mem_of_getElem? (i := 5) rfl)) (by decide) (by decide)) q46a q46c (g := (mkF m 174 #[.val (.int p1), .val (.int p2), .val (.int p3), .val (.int p4), .val (.int p5), .val (.int ((1 : Int32) + (p1 &&& (3 : Int32)))), .val (.int ((1 : Int32) + (p2 &&& (3 : Int32)))), .val (.ref w_HEXAGON), .val (.ref b7), .val (.int cc), .val (.int rr), .val (.int ((rr * ((1 : Int32) + (p2 &&& (3 : Int32)))) + cc)), .val (.int (1 : Int32))] [(.int ((rr * ((1 : Int32) + (p2 &&& (3 : Int32)))) + cc)), (.ref b7)])) rfl (by rw [hml]; rfl) (Steps.refl _) (argsL := [(.int ((rr * ((1 : Int32) + (p2 &&& (3 : Int32)))) + cc))]) (rest := []) (lenOf pd_0 rfl) rfl (by show 2 * 0 + _ ≤ _; exact Nat.le_of_eq rfl) (hb hby at_174) (fun _ _ => ⟨rfl, eq45, (by decide : 5 + 0 ≤ _), (by decide : 156 + 0 ≤ _)⟩)
              dsimp only [Pt.U, Pt.locs, Pt.cells, Pt.slots] at X46 l46 y46 z46 st46 hQ46
              subst l46 y46 z46
              obtain ⟨rfl, N46q, eq46⟩ := hQ46
              have N46 := Fr.app N45 N46q
              refine Go.tr st46 ?_
              show Go p e below _ (T46.setTop (mkF m 177 #[.val (.int p1), .val (.int p2), .val (.int p3), .val (.int p4), .val (.int p5), .val (.int ((1 : Int32) + (p1 &&& (3 : Int32)))), .val (.int ((1 : Int32) + (p2 &&& (3 : Int32)))), .val (.ref w_HEXAGON), .val (.ref b7), .val (.int cc), .val (.int rr), .val (.int ((rr * ((1 : Int32) + (p2 &&& (3 : Int32)))) + cc)), .val (.int (1 : Int32))] [(.int (((rr * ((1 : Int32) + (p2 &&& (3 : Int32)))) + cc) / ((1 : Int32) + (p2 &&& (3 : Int32)))))]))
              refine Go.st (fun _ kk => XS.iload X46.here hx rfl (hb hby at_177) rfl  kk) ?_
              show Go p e below _ (T46.setTop (mkF m 179 #[.val (.int p1), .val (.int p2), .val (.int p3), .val (.int p4), .val (.int p5), .val (.int ((1 : Int32) + (p1 &&& (3 : Int32)))), .val (.int ((1 : Int32) + (p2 &&& (3 : Int32)))), .val (.ref w_HEXAGON), .val (.ref b7), .val (.int cc), .val (.int rr), .val (.int ((rr * ((1 : Int32) + (p2 &&& (3 : Int32)))) + cc)), .val (.int (1 : Int32))] [(.int rr), (.int (((rr * ((1 : Int32) + (p2 &&& (3 : Int32)))) + cc) / ((1 : Int32) + (p2 &&& (3 : Int32)))))]))
              refine Go.st (fun _ kk => XS.icmpNo X46.here hx rfl (hb hby at_179) rfl (teq (own_site (own_14 p1) (own_14 p2) hc_13 hc_14 hc_15 hc_16).2.2.2).2 kk) ?_
              show Go p e below _ (T46.setTop (mkF m 182 #[.val (.int p1), .val (.int p2), .val (.int p3), .val (.int p4), .val (.int p5), .val (.int ((1 : Int32) + (p1 &&& (3 : Int32)))), .val (.int ((1 : Int32) + (p2 &&& (3 : Int32)))), .val (.ref w_HEXAGON), .val (.ref b7), .val (.int cc), .val (.int rr), .val (.int ((rr * ((1 : Int32) + (p2 &&& (3 : Int32)))) + cc)), .val (.int (1 : Int32))] []))
              refine Go.st (fun _ kk => XS.iconst X46.here hx rfl (hb hby at_182) kk) ?_
              show Go p e below _ (T46.setTop (mkF m 183 #[.val (.int p1), .val (.int p2), .val (.int p3), .val (.int p4), .val (.int p5), .val (.int ((1 : Int32) + (p1 &&& (3 : Int32)))), .val (.int ((1 : Int32) + (p2 &&& (3 : Int32)))), .val (.ref w_HEXAGON), .val (.ref b7), .val (.int cc), .val (.int rr), .val (.int ((rr * ((1 : Int32) + (p2 &&& (3 : Int32)))) + cc)), .val (.int (1 : Int32))] [(.int (1 : Int32))]))
              refine Go.st (fun _ kk => XS.goto X46.here hx rfl (pc0 := 183) (pc' := 187) rfl (hb hby at_183) (by decide) (by decide) kk) ?_
              show Go p e below _ (T46.setTop (mkF m 187 #[.val (.int p1), .val (.int p2), .val (.int p3), .val (.int p4), .val (.int p5), .val (.int ((1 : Int32) + (p1 &&& (3 : Int32)))), .val (.int ((1 : Int32) + (p2 &&& (3 : Int32)))), .val (.ref w_HEXAGON), .val (.ref b7), .val (.int cc), .val (.int rr), .val (.int ((rr * ((1 : Int32) + (p2 &&& (3 : Int32)))) + cc)), .val (.int (1 : Int32))] [(.int (1 : Int32))]))
              exact Go.ret (Q := Q0 n0) X46 (v := some (.int (1 : Int32))) (fun h => by rw [Bd.returns] at h; cases h) Bd.notSynchronized (fun fs hr => retN X46 hx (t := .boolean) Bd.returns (by simp) (hb hby at_187) hr) eq46 ⟨rfl, N46⟩ (by decide) (by decide)
            · skip
              obtain ⟨cq44, kq44, q44a, q44b, q44c⟩ := isOf hZ rfl P43_0
              obtain ⟨_, _, ⟨T44, L44, k44, n44⟩, -, X44, ⟨Lc44, hQ44, l44, y44, z44⟩, st44⟩ := X43.virtualBack hx (y := (⟨"com/example/tabulon/tabulon/game/Board", "siteAt", "(II)I"⟩ : MethodName)) (z := (⟨"com/example/tabulon/tabulon/game/Board", "siteAt", "(II)I"⟩ : MethodName)) hown (mvT hZ (hw _ (List.mem_of_getElem? (i := 74) rfl))) (mvT hZ (hw _ (List.mem_of_getElem? (i := 75) rfl))) (notFace_of_selects (args := #[]) (mvT hZ (hw _ (List.mem_of_getElem? (i := 77) rfl)))) (mvT hZ (hw _ (List.mem_of_getElem? (i := 77) rfl))) (mvT hZ (hw _ (List.mem_of_getElem? (i := 76) rfl))) (by decide) (backOf (W := 0) (rm8_ftff l Z a0 hw [] b7 cc rr ((1 : Int32) + (p2 &&& (3 : Int32))) ((1 : Int32) + (p1 &&& (3 : Int32))) T43.heap n0 (Nat.le_trans Z0 K43.1) hc_13 P43_2 hc_14 hc_15 P43_1 hc_16) hZ (hw _ (List.mem_of_getElem? (i := 78) rfl)) (hw _ (List.mem_of_getElem? (i := 5) rfl)) (by decide) (by decide)) q44a q44c (g := (mkF m 90 #[.val (.int p1), .val (.int p2), .val (.int p3), .val (.int p4), .val (.int p5), .val (.int ((1 : Int32) + (p1 &&& (3 : Int32)))), .val (.int ((1 : Int32) + (p2 &&& (3 : Int32)))), .val (.ref w_HEXAGON), .val (.ref b7), .val (.int cc), .val (.int rr), .unset, .unset] [(.int rr), (.int cc), (.ref b7)])) rfl (by rw [hml]; rfl) (Steps.refl _) (argsL := [(.int cc), (.int rr)]) (rest := []) (lenOf pd_5 rfl) rfl (by show 2 * 0 + _ ≤ _; exact Nat.le_of_eq rfl) (hb hby at_90) (fun _ _ => ⟨rfl, rfl, (by decide : 5 + 0 ≤ _), (by decide : 156 + 0 ≤ _)⟩)
              dsimp only [Pt.U, Pt.locs, Pt.cells, Pt.slots] at X44 l44 y44 z44 st44 hQ44
              subst l44 y44 z44
              obtain ⟨rfl, N44q, eq44⟩ := hQ44
              have N44 := Fr.app N43 N44q
              refine Go.tr st44 ?_
              show Go p e below _ (T44.setTop (mkF m 93 #[.val (.int p1), .val (.int p2), .val (.int p3), .val (.int p4), .val (.int p5), .val (.int ((1 : Int32) + (p1 &&& (3 : Int32)))), .val (.int ((1 : Int32) + (p2 &&& (3 : Int32)))), .val (.ref w_HEXAGON), .val (.ref b7), .val (.int cc), .val (.int rr), .unset, .unset] [(.int (-1 : Int32))]))
              refine Go.st (fun _ kk => XS.istore X44.here hx rfl (hb hby at_93) rfl (l' := #[.val (.int p1), .val (.int p2), .val (.int p3), .val (.int p4), .val (.int p5), .val (.int ((1 : Int32) + (p1 &&& (3 : Int32)))), .val (.int ((1 : Int32) + (p2 &&& (3 : Int32)))), .val (.ref w_HEXAGON), .val (.ref b7), .val (.int cc), .val (.int rr), .val (.int (-1 : Int32)), .unset]) rfl kk) ?_
              show Go p e below _ (T44.setTop (mkF m 95 #[.val (.int p1), .val (.int p2), .val (.int p3), .val (.int p4), .val (.int p5), .val (.int ((1 : Int32) + (p1 &&& (3 : Int32)))), .val (.int ((1 : Int32) + (p2 &&& (3 : Int32)))), .val (.ref w_HEXAGON), .val (.ref b7), .val (.int cc), .val (.int rr), .val (.int (-1 : Int32)), .unset] []))
              refine Go.st (fun _ kk => XS.iload X44.here hx rfl (hb hby at_95) rfl  kk) ?_
              show Go p e below _ (T44.setTop (mkF m 97 #[.val (.int p1), .val (.int p2), .val (.int p3), .val (.int p4), .val (.int p5), .val (.int ((1 : Int32) + (p1 &&& (3 : Int32)))), .val (.int ((1 : Int32) + (p2 &&& (3 : Int32)))), .val (.ref w_HEXAGON), .val (.ref b7), .val (.int cc), .val (.int rr), .val (.int (-1 : Int32)), .unset] [(.int cc)]))
              refine Go.st (fun _ kk => XS.ifNo X44.here hx rfl (hb hby at_97) rfl ((if0 _ _).trans (flt hc_13).1) kk) ?_
              show Go p e below _ (T44.setTop (mkF m 100 #[.val (.int p1), .val (.int p2), .val (.int p3), .val (.int p4), .val (.int p5), .val (.int ((1 : Int32) + (p1 &&& (3 : Int32)))), .val (.int ((1 : Int32) + (p2 &&& (3 : Int32)))), .val (.ref w_HEXAGON), .val (.ref b7), .val (.int cc), .val (.int rr), .val (.int (-1 : Int32)), .unset] []))
              refine Go.st (fun _ kk => XS.iload X44.here hx rfl (hb hby at_100) rfl  kk) ?_
              show Go p e below _ (T44.setTop (mkF m 102 #[.val (.int p1), .val (.int p2), .val (.int p3), .val (.int p4), .val (.int p5), .val (.int ((1 : Int32) + (p1 &&& (3 : Int32)))), .val (.int ((1 : Int32) + (p2 &&& (3 : Int32)))), .val (.ref w_HEXAGON), .val (.ref b7), .val (.int cc), .val (.int rr), .val (.int (-1 : Int32)), .unset] [(.int cc)]))
              refine Go.st (fun _ kk => XS.iload X44.here hx rfl (hb hby at_102) rfl  kk) ?_
              show Go p e below _ (T44.setTop (mkF m 104 #[.val (.int p1), .val (.int p2), .val (.int p3), .val (.int p4), .val (.int p5), .val (.int ((1 : Int32) + (p1 &&& (3 : Int32)))), .val (.int ((1 : Int32) + (p2 &&& (3 : Int32)))), .val (.ref w_HEXAGON), .val (.ref b7), .val (.int cc), .val (.int rr), .val (.int (-1 : Int32)), .unset] [(.int ((1 : Int32) + (p2 &&& (3 : Int32)))), (.int cc)]))
              refine Go.st (fun _ kk => XS.icmpNo X44.here hx rfl (hb hby at_104) rfl (tlt hc_14).2.1 kk) ?_
              show Go p e below _ (T44.setTop (mkF m 107 #[.val (.int p1), .val (.int p2), .val (.int p3), .val (.int p4), .val (.int p5), .val (.int ((1 : Int32) + (p1 &&& (3 : Int32)))), .val (.int ((1 : Int32) + (p2 &&& (3 : Int32)))), .val (.ref w_HEXAGON), .val (.ref b7), .val (.int cc), .val (.int rr), .val (.int (-1 : Int32)), .unset] []))
              refine Go.st (fun _ kk => XS.iload X44.here hx rfl (hb hby at_107) rfl  kk) ?_
              show Go p e below _ (T44.setTop (mkF m 109 #[.val (.int p1), .val (.int p2), .val (.int p3), .val (.int p4), .val (.int p5), .val (.int ((1 : Int32) + (p1 &&& (3 : Int32)))), .val (.int ((1 : Int32) + (p2 &&& (3 : Int32)))), .val (.ref w_HEXAGON), .val (.ref b7), .val (.int cc), .val (.int rr), .val (.int (-1 : Int32)), .unset] [(.int rr)]))
              refine Go.st (fun _ kk => XS.ifNo X44.here hx rfl (hb hby at_109) rfl ((if0 _ _).trans (flt hc_15).1) kk) ?_
              show Go p e below _ (T44.setTop (mkF m 112 #[.val (.int p1), .val (.int p2), .val (.int p3), .val (.int p4), .val (.int p5), .val (.int ((1 : Int32) + (p1 &&& (3 : Int32)))), .val (.int ((1 : Int32) + (p2 &&& (3 : Int32)))), .val (.ref w_HEXAGON), .val (.ref b7), .val (.int cc), .val (.int rr), .val (.int (-1 : Int32)), .unset] []))
              refine Go.st (fun _ kk => XS.iload X44.here hx rfl (hb hby at_112) rfl  kk) ?_
              show Go p e below _ (T44.setTop (mkF m 114 #[.val (.int p1), .val (.int p2), .val (.int p3), .val (.int p4), .val (.int p5), .val (.int ((1 : Int32) + (p1 &&& (3 : Int32)))), .val (.int ((1 : Int32) + (p2 &&& (3 : Int32)))), .val (.ref w_HEXAGON), .val (.ref b7), .val (.int cc), .val (.int rr), .val (.int (-1 : Int32)), .unset] [(.int rr)]))
              refine Go.st (fun _ kk => XS.iload X44.here hx rfl (hb hby at_114) rfl  kk) ?_
              show Go p e below _ (T44.setTop (mkF m 116 #[.val (.int p1), .val (.int p2), .val (.int p3), .val (.int p4), .val (.int p5), .val (.int ((1 : Int32) + (p1 &&& (3 : Int32)))), .val (.int ((1 : Int32) + (p2 &&& (3 : Int32)))), .val (.ref w_HEXAGON), .val (.ref b7), .val (.int cc), .val (.int rr), .val (.int (-1 : Int32)), .unset] [(.int ((1 : Int32) + (p1 &&& (3 : Int32)))), (.int rr)]))
              refine Go.st (fun _ kk => XS.icmpYes X44.here hx rfl (pc0 := 116) (pc' := 123) rfl (hb hby at_116) rfl (flt hc_16).2.1 (by decide) (by decide) kk) ?_
              show Go p e below _ (T44.setTop (mkF m 123 #[.val (.int p1), .val (.int p2), .val (.int p3), .val (.int p4), .val (.int p5), .val (.int ((1 : Int32) + (p1 &&& (3 : Int32)))), .val (.int ((1 : Int32) + (p2 &&& (3 : Int32)))), .val (.ref w_HEXAGON), .val (.ref b7), .val (.int cc), .val (.int rr), .val (.int (-1 : Int32)), .unset] []))
              refine Go.st (fun _ kk => XS.iconst X44.here hx rfl (hb hby at_123) kk) ?_
              show Go p e below _ (T44.setTop (mkF m 124 #[.val (.int p1), .val (.int p2), .val (.int p3), .val (.int p4), .val (.int p5), .val (.int ((1 : Int32) + (p1 &&& (3 : Int32)))), .val (.int ((1 : Int32) + (p2 &&& (3 : Int32)))), .val (.ref w_HEXAGON), .val (.ref b7), .val (.int cc), .val (.int rr), .val (.int (-1 : Int32)), .unset] [(.int (0 : Int32))]))
              refine Go.st (fun _ kk => XS.istore X44.here hx rfl (hb hby at_124) rfl (l' := #[.val (.int p1), .val (.int p2), .val (.int p3), .val (.int p4), .val (.int p5), .val (.int ((1 : Int32) + (p1 &&& (3 : Int32)))), .val (.int ((1 : Int32) + (p2 &&& (3 : Int32)))), .val (.ref w_HEXAGON), .val (.ref b7), .val (.int cc), .val (.int rr), .val (.int (-1 : Int32)), .val (.int (0 : Int32))]) rfl kk) ?_
              show Go p e below _ (T44.setTop (mkF m 126 #[.val (.int p1), .val (.int p2), .val (.int p3), .val (.int p4), .val (.int p5), .val (.int ((1 : Int32) + (p1 &&& (3 : Int32)))), .val (.int ((1 : Int32) + (p2 &&& (3 : Int32)))), .val (.ref w_HEXAGON), .val (.ref b7), .val (.int cc), .val (.int rr), .val (.int (-1 : Int32)), .val (.int (0 : Int32))] []))
              refine Go.st (fun _ kk => XS.iload X44.here hx rfl (hb hby at_126) rfl  kk) ?_
              show Go p e below _ (T44.setTop (mkF m 128 #[.val (.int p1), .val (.int p2), .val (.int p3), .val (.int p4), .val (.int p5), .val (.int ((1 : Int32) + (p1 &&& (3 : Int32)))), .val (.int ((1 : Int32) + (p2 &&& (3 : Int32)))), .val (.ref w_HEXAGON), .val (.ref b7), .val (.int cc), .val (.int rr), .val (.int (-1 : Int32)), .val (.int (0 : Int32))] [(.int (0 : Int32))]))
              refine Go.st (fun _ kk => XS.ifNo X44.here hx rfl (hb hby at_128) rfl ((if0 _ _).trans (teq (by decide : ((0 : Int32) = (0 : Int32)))).2) kk) ?_
              show Go p e below _ (T44.setTop (mkF m 131 #[.val (.int p1), .val (.int p2), .val (.int p3), .val (.int p4), .val (.int p5), .val (.int ((1 : Int32) + (p1 &&& (3 : Int32)))), .val (.int ((1 : Int32) + (p2 &&& (3 : Int32)))), .val (.ref w_HEXAGON), .val (.ref b7), .val (.int cc), .val (.int rr), .val (.int (-1 : Int32)), .val (.int (0 : Int32))] []))
              refine Go.st (fun _ kk => XS.iload X44.here hx rfl (hb hby at_131) rfl  kk) ?_
              show Go p e below _ (T44.setTop (mkF m 133 #[.val (.int p1), .val (.int p2), .val (.int p3), .val (.int p4), .val (.int p5), .val (.int ((1 : Int32) + (p1 &&& (3 : Int32)))), .val (.int ((1 : Int32) + (p2 &&& (3 : Int32)))), .val (.ref w_HEXAGON), .val (.ref b7), .val (.int cc), .val (.int rr), .val (.int (-1 : Int32)), .val (.int (0 : Int32))] [(.int (-1 : Int32))]))
              refine Go.st (fun _ kk => XS.iconst X44.here hx rfl (hb hby at_133) kk) ?_
              show Go p e below _ (T44.setTop (mkF m 134 #[.val (.int p1), .val (.int p2), .val (.int p3), .val (.int p4), .val (.int p5), .val (.int ((1 : Int32) + (p1 &&& (3 : Int32)))), .val (.int ((1 : Int32) + (p2 &&& (3 : Int32)))), .val (.ref w_HEXAGON), .val (.ref b7), .val (.int cc), .val (.int rr), .val (.int (-1 : Int32)), .val (.int (0 : Int32))] [(.int (-1 : Int32)), (.int (-1 : Int32))]))
              refine Go.st (fun _ kk => XS.icmpNo X44.here hx rfl (hb hby at_134) rfl (teq (by decide : ((-1 : Int32) = (-1 : Int32)))).2 kk) ?_
              show Go p e below _ (T44.setTop (mkF m 137 #[.val (.int p1), .val (.int p2), .val (.int p3), .val (.int p4), .val (.int p5), .val (.int ((1 : Int32) + (p1 &&& (3 : Int32)))), .val (.int ((1 : Int32) + (p2 &&& (3 : Int32)))), .val (.ref w_HEXAGON), .val (.ref b7), .val (.int cc), .val (.int rr), .val (.int (-1 : Int32)), .val (.int (0 : Int32))] []))
              refine Go.st (fun _ kk => XS.iconst X44.here hx rfl (hb hby at_137) kk) ?_
              show Go p e below _ (T44.setTop (mkF m 138 #[.val (.int p1), .val (.int p2), .val (.int p3), .val (.int p4), .val (.int p5), .val (.int ((1 : Int32) + (p1 &&& (3 : Int32)))), .val (.int ((1 : Int32) + (p2 &&& (3 : Int32)))), .val (.ref w_HEXAGON), .val (.ref b7), .val (.int cc), .val (.int rr), .val (.int (-1 : Int32)), .val (.int (0 : Int32))] [(.int (1 : Int32))]))
              refine Go.st (fun _ kk => XS.goto X44.here hx rfl (pc0 := 138) (pc' := 142) rfl (hb hby at_138) (by decide) (by decide) kk) ?_
              show Go p e below _ (T44.setTop (mkF m 142 #[.val (.int p1), .val (.int p2), .val (.int p3), .val (.int p4), .val (.int p5), .val (.int ((1 : Int32) + (p1 &&& (3 : Int32)))), .val (.int ((1 : Int32) + (p2 &&& (3 : Int32)))), .val (.ref w_HEXAGON), .val (.ref b7), .val (.int cc), .val (.int rr), .val (.int (-1 : Int32)), .val (.int (0 : Int32))] [(.int (1 : Int32))]))
              exact Go.ret (Q := Q0 n0) X44 (v := some (.int (1 : Int32))) (fun h => by rw [Bd.returns] at h; cases h) Bd.notSynchronized (fun fs hr => retN X44 hx (t := .boolean) Bd.returns (by simp) (hb hby at_142) hr) eq44 ⟨rfl, N44⟩ (by decide) (by decide)
        · skip
          obtain ⟨cq44, kq44, q44a, q44b, q44c⟩ := isOf hZ rfl P43_0
          obtain ⟨_, _, ⟨T44, L44, k44, n44⟩, -, X44, ⟨Lc44, hQ44, l44, y44, z44⟩, st44⟩ := X43.virtualBack hx (y := (⟨"com/example/tabulon/tabulon/game/Board", "siteAt", "(II)I"⟩ : MethodName)) (z := (⟨"com/example/tabulon/tabulon/game/Board", "siteAt", "(II)I"⟩ : MethodName)) hown (mvT hZ (hw _ (List.mem_of_getElem? (i := 74) rfl))) (mvT hZ (hw _ (List.mem_of_getElem? (i := 75) rfl))) (notFace_of_selects (args := #[]) (mvT hZ (hw _ (List.mem_of_getElem? (i := 77) rfl)))) (mvT hZ (hw _ (List.mem_of_getElem? (i := 77) rfl))) (mvT hZ (hw _ (List.mem_of_getElem? (i := 76) rfl))) (by decide) (backOf (W := 0) (rm8_ff l Z a0 hw [] b7 cc rr ((1 : Int32) + (p2 &&& (3 : Int32))) T43.heap n0 (Nat.le_trans Z0 K43.1) hc_13 P43_2 hc_14) hZ (hw _ (List.mem_of_getElem? (i := 78) rfl)) (hw _ (List.mem_of_getElem? (i := 5) rfl)) (by decide) (by decide)) q44a q44c (g := (mkF m 90 #[.val (.int p1), .val (.int p2), .val (.int p3), .val (.int p4), .val (.int p5), .val (.int ((1 : Int32) + (p1 &&& (3 : Int32)))), .val (.int ((1 : Int32) + (p2 &&& (3 : Int32)))), .val (.ref w_HEXAGON), .val (.ref b7), .val (.int cc), .val (.int rr), .unset, .unset] [(.int rr), (.int cc), (.ref b7)])) rfl (by rw [hml]; rfl) (Steps.refl _) (argsL := [(.int cc), (.int rr)]) (rest := []) (lenOf pd_5 rfl) rfl (by show 2 * 0 + _ ≤ _; exact Nat.le_of_eq rfl) (hb hby at_90) (fun _ _ => ⟨rfl, rfl, (by decide : 5 + 0 ≤ _), (by decide : 156 + 0 ≤ _)⟩)
          dsimp only [Pt.U, Pt.locs, Pt.cells, Pt.slots] at X44 l44 y44 z44 st44 hQ44
          subst l44 y44 z44
          obtain ⟨rfl, N44q, eq44⟩ := hQ44
          have N44 := Fr.app N43 N44q
          refine Go.tr st44 ?_
          show Go p e below _ (T44.setTop (mkF m 93 #[.val (.int p1), .val (.int p2), .val (.int p3), .val (.int p4), .val (.int p5), .val (.int ((1 : Int32) + (p1 &&& (3 : Int32)))), .val (.int ((1 : Int32) + (p2 &&& (3 : Int32)))), .val (.ref w_HEXAGON), .val (.ref b7), .val (.int cc), .val (.int rr), .unset, .unset] [(.int (-1 : Int32))]))
          refine Go.st (fun _ kk => XS.istore X44.here hx rfl (hb hby at_93) rfl (l' := #[.val (.int p1), .val (.int p2), .val (.int p3), .val (.int p4), .val (.int p5), .val (.int ((1 : Int32) + (p1 &&& (3 : Int32)))), .val (.int ((1 : Int32) + (p2 &&& (3 : Int32)))), .val (.ref w_HEXAGON), .val (.ref b7), .val (.int cc), .val (.int rr), .val (.int (-1 : Int32)), .unset]) rfl kk) ?_
          show Go p e below _ (T44.setTop (mkF m 95 #[.val (.int p1), .val (.int p2), .val (.int p3), .val (.int p4), .val (.int p5), .val (.int ((1 : Int32) + (p1 &&& (3 : Int32)))), .val (.int ((1 : Int32) + (p2 &&& (3 : Int32)))), .val (.ref w_HEXAGON), .val (.ref b7), .val (.int cc), .val (.int rr), .val (.int (-1 : Int32)), .unset] []))
          refine Go.st (fun _ kk => XS.iload X44.here hx rfl (hb hby at_95) rfl  kk) ?_
          show Go p e below _ (T44.setTop (mkF m 97 #[.val (.int p1), .val (.int p2), .val (.int p3), .val (.int p4), .val (.int p5), .val (.int ((1 : Int32) + (p1 &&& (3 : Int32)))), .val (.int ((1 : Int32) + (p2 &&& (3 : Int32)))), .val (.ref w_HEXAGON), .val (.ref b7), .val (.int cc), .val (.int rr), .val (.int (-1 : Int32)), .unset] [(.int cc)]))
          refine Go.st (fun _ kk => XS.ifNo X44.here hx rfl (hb hby at_97) rfl ((if0 _ _).trans (flt hc_13).1) kk) ?_
          show Go p e below _ (T44.setTop (mkF m 100 #[.val (.int p1), .val (.int p2), .val (.int p3), .val (.int p4), .val (.int p5), .val (.int ((1 : Int32) + (p1 &&& (3 : Int32)))), .val (.int ((1 : Int32) + (p2 &&& (3 : Int32)))), .val (.ref w_HEXAGON), .val (.ref b7), .val (.int cc), .val (.int rr), .val (.int (-1 : Int32)), .unset] []))
          refine Go.st (fun _ kk => XS.iload X44.here hx rfl (hb hby at_100) rfl  kk) ?_
          show Go p e below _ (T44.setTop (mkF m 102 #[.val (.int p1), .val (.int p2), .val (.int p3), .val (.int p4), .val (.int p5), .val (.int ((1 : Int32) + (p1 &&& (3 : Int32)))), .val (.int ((1 : Int32) + (p2 &&& (3 : Int32)))), .val (.ref w_HEXAGON), .val (.ref b7), .val (.int cc), .val (.int rr), .val (.int (-1 : Int32)), .unset] [(.int cc)]))
          refine Go.st (fun _ kk => XS.iload X44.here hx rfl (hb hby at_102) rfl  kk) ?_
          show Go p e below _ (T44.setTop (mkF m 104 #[.val (.int p1), .val (.int p2), .val (.int p3), .val (.int p4), .val (.int p5), .val (.int ((1 : Int32) + (p1 &&& (3 : Int32)))), .val (.int ((1 : Int32) + (p2 &&& (3 : Int32)))), .val (.ref w_HEXAGON), .val (.ref b7), .val (.int cc), .val (.int rr), .val (.int (-1 : Int32)), .unset] [(.int ((1 : Int32) + (p2 &&& (3 : Int32)))), (.int cc)]))
          refine Go.st (fun _ kk => XS.icmpYes X44.here hx rfl (pc0 := 104) (pc' := 123) rfl (hb hby at_104) rfl (flt hc_14).2.1 (by decide) (by decide) kk) ?_
          show Go p e below _ (T44.setTop (mkF m 123 #[.val (.int p1), .val (.int p2), .val (.int p3), .val (.int p4), .val (.int p5), .val (.int ((1 : Int32) + (p1 &&& (3 : Int32)))), .val (.int ((1 : Int32) + (p2 &&& (3 : Int32)))), .val (.ref w_HEXAGON), .val (.ref b7), .val (.int cc), .val (.int rr), .val (.int (-1 : Int32)), .unset] []))
          refine Go.st (fun _ kk => XS.iconst X44.here hx rfl (hb hby at_123) kk) ?_
          show Go p e below _ (T44.setTop (mkF m 124 #[.val (.int p1), .val (.int p2), .val (.int p3), .val (.int p4), .val (.int p5), .val (.int ((1 : Int32) + (p1 &&& (3 : Int32)))), .val (.int ((1 : Int32) + (p2 &&& (3 : Int32)))), .val (.ref w_HEXAGON), .val (.ref b7), .val (.int cc), .val (.int rr), .val (.int (-1 : Int32)), .unset] [(.int (0 : Int32))]))
          refine Go.st (fun _ kk => XS.istore X44.here hx rfl (hb hby at_124) rfl (l' := #[.val (.int p1), .val (.int p2), .val (.int p3), .val (.int p4), .val (.int p5), .val (.int ((1 : Int32) + (p1 &&& (3 : Int32)))), .val (.int ((1 : Int32) + (p2 &&& (3 : Int32)))), .val (.ref w_HEXAGON), .val (.ref b7), .val (.int cc), .val (.int rr), .val (.int (-1 : Int32)), .val (.int (0 : Int32))]) rfl kk) ?_
          show Go p e below _ (T44.setTop (mkF m 126 #[.val (.int p1), .val (.int p2), .val (.int p3), .val (.int p4), .val (.int p5), .val (.int ((1 : Int32) + (p1 &&& (3 : Int32)))), .val (.int ((1 : Int32) + (p2 &&& (3 : Int32)))), .val (.ref w_HEXAGON), .val (.ref b7), .val (.int cc), .val (.int rr), .val (.int (-1 : Int32)), .val (.int (0 : Int32))] []))
          refine Go.st (fun _ kk => XS.iload X44.here hx rfl (hb hby at_126) rfl  kk) ?_
          show Go p e below _ (T44.setTop (mkF m 128 #[.val (.int p1), .val (.int p2), .val (.int p3), .val (.int p4), .val (.int p5), .val (.int ((1 : Int32) + (p1 &&& (3 : Int32)))), .val (.int ((1 : Int32) + (p2 &&& (3 : Int32)))), .val (.ref w_HEXAGON), .val (.ref b7), .val (.int cc), .val (.int rr), .val (.int (-1 : Int32)), .val (.int (0 : Int32))] [(.int (0 : Int32))]))
          refine Go.st (fun _ kk => XS.ifNo X44.here hx rfl (hb hby at_128) rfl ((if0 _ _).trans (teq (by decide : ((0 : Int32) = (0 : Int32)))).2) kk) ?_
          show Go p e below _ (T44.setTop (mkF m 131 #[.val (.int p1), .val (.int p2), .val (.int p3), .val (.int p4), .val (.int p5), .val (.int ((1 : Int32) + (p1 &&& (3 : Int32)))), .val (.int ((1 : Int32) + (p2 &&& (3 : Int32)))), .val (.ref w_HEXAGON), .val (.ref b7), .val (.int cc), .val (.int rr), .val (.int (-1 : Int32)), .val (.int (0 : Int32))] []))
          refine Go.st (fun _ kk => XS.iload X44.here hx rfl (hb hby at_131) rfl  kk) ?_
          show Go p e below _ (T44.setTop (mkF m 133 #[.val (.int p1), .val (.int p2), .val (.int p3), .val (.int p4), .val (.int p5), .val (.int ((1 : Int32) + (p1 &&& (3 : Int32)))), .val (.int ((1 : Int32) + (p2 &&& (3 : Int32)))), .val (.ref w_HEXAGON), .val (.ref b7), .val (.int cc), .val (.int rr), .val (.int (-1 : Int32)), .val (.int (0 : Int32))] [(.int (-1 : Int32))]))
          refine Go.st (fun _ kk => XS.iconst X44.here hx rfl (hb hby at_133) kk) ?_
          show Go p e below _ (T44.setTop (mkF m 134 #[.val (.int p1), .val (.int p2), .val (.int p3), .val (.int p4), .val (.int p5), .val (.int ((1 : Int32) + (p1 &&& (3 : Int32)))), .val (.int ((1 : Int32) + (p2 &&& (3 : Int32)))), .val (.ref w_HEXAGON), .val (.ref b7), .val (.int cc), .val (.int rr), .val (.int (-1 : Int32)), .val (.int (0 : Int32))] [(.int (-1 : Int32)), (.int (-1 : Int32))]))
          refine Go.st (fun _ kk => XS.icmpNo X44.here hx rfl (hb hby at_134) rfl (teq (by decide : ((-1 : Int32) = (-1 : Int32)))).2 kk) ?_
          show Go p e below _ (T44.setTop (mkF m 137 #[.val (.int p1), .val (.int p2), .val (.int p3), .val (.int p4), .val (.int p5), .val (.int ((1 : Int32) + (p1 &&& (3 : Int32)))), .val (.int ((1 : Int32) + (p2 &&& (3 : Int32)))), .val (.ref w_HEXAGON), .val (.ref b7), .val (.int cc), .val (.int rr), .val (.int (-1 : Int32)), .val (.int (0 : Int32))] []))
          refine Go.st (fun _ kk => XS.iconst X44.here hx rfl (hb hby at_137) kk) ?_
          show Go p e below _ (T44.setTop (mkF m 138 #[.val (.int p1), .val (.int p2), .val (.int p3), .val (.int p4), .val (.int p5), .val (.int ((1 : Int32) + (p1 &&& (3 : Int32)))), .val (.int ((1 : Int32) + (p2 &&& (3 : Int32)))), .val (.ref w_HEXAGON), .val (.ref b7), .val (.int cc), .val (.int rr), .val (.int (-1 : Int32)), .val (.int (0 : Int32))] [(.int (1 : Int32))]))
          refine Go.st (fun _ kk => XS.goto X44.here hx rfl (pc0 := 138) (pc' := 142) rfl (hb hby at_138) (by decide) (by decide) kk) ?_
          show Go p e below _ (T44.setTop (mkF m 142 #[.val (.int p1), .val (.int p2), .val (.int p3), .val (.int p4), .val (.int p5), .val (.int ((1 : Int32) + (p1 &&& (3 : Int32)))), .val (.int ((1 : Int32) + (p2 &&& (3 : Int32)))), .val (.ref w_HEXAGON), .val (.ref b7), .val (.int cc), .val (.int rr), .val (.int (-1 : Int32)), .val (.int (0 : Int32))] [(.int (1 : Int32))]))
          exact Go.ret (Q := Q0 n0) X44 (v := some (.int (1 : Int32))) (fun h => by rw [Bd.returns] at h; cases h) Bd.notSynchronized (fun fs hr => retN X44 hx (t := .boolean) Bd.returns (by simp) (hb hby at_142) hr) eq44 ⟨rfl, N44⟩ (by decide) (by decide)
    refine Go.st (fun _ kk => XS.iloadN X43.here hx rfl (hb hby at_46) rfl  kk) ?_
    show Go p e below _ (T43.setTop (mkF m 47 #[.val (.int p1), .val (.int p2), .val (.int p3), .val (.int p4), .val (.int p5), .val (.int ((1 : Int32) + (p1 &&& (3 : Int32)))), .val (.int ((1 : Int32) + (p2 &&& (3 : Int32)))), .val (.ref w_HEXAGON), .val (.ref b7), .unset, .unset, .unset, .unset] [(.int p3)]))
    refine Go.st (fun _ kk => XS.iconst X43.here hx rfl (hb hby at_47) kk) ?_
    show Go p e below _ (T43.setTop (mkF m 48 #[.val (.int p1), .val (.int p2), .val (.int p3), .val (.int p4), .val (.int p5), .val (.int ((1 : Int32) + (p1 &&& (3 : Int32)))), .val (.int ((1 : Int32) + (p2 &&& (3 : Int32)))), .val (.ref w_HEXAGON), .val (.ref b7), .unset, .unset, .unset, .unset] [(.int (1 : Int32)), (.int p3)]))
    refine Go.st (fun _ kk => XS.iand X43.here hx rfl (hb hby at_48) rfl kk) ?_
    show Go p e below _ (T43.setTop (mkF m 49 #[.val (.int p1), .val (.int p2), .val (.int p3), .val (.int p4), .val (.int p5), .val (.int ((1 : Int32) + (p1 &&& (3 : Int32)))), .val (.int ((1 : Int32) + (p2 &&& (3 : Int32)))), .val (.ref w_HEXAGON), .val (.ref b7), .unset, .unset, .unset, .unset] [(.int (p3 &&& (1 : Int32)))]))
    by_cases hc_17 : (p3 &&& (1 : Int32)) = (0 : Int32)
    · skip
      refine Go.st (fun _ kk => XS.ifYes X43.here hx rfl (pc0 := 49) (pc' := 56) rfl (hb hby at_49) rfl ((if0 _ _).trans (teq hc_17).1) (by decide) (by decide) kk) ?_
      show Go p e below _ (T43.setTop (mkF m 56 #[.val (.int p1), .val (.int p2), .val (.int p3), .val (.int p4), .val (.int p5), .val (.int ((1 : Int32) + (p1 &&& (3 : Int32)))), .val (.int ((1 : Int32) + (p2 &&& (3 : Int32)))), .val (.ref w_HEXAGON), .val (.ref b7), .unset, .unset, .unset, .unset] []))
      refine Go.st (fun _ kk => XS.iloadN X43.here hx rfl (hb hby at_56) rfl  kk) ?_
      show Go p e below _ (T43.setTop (mkF m 57 #[.val (.int p1), .val (.int p2), .val (.int p3), .val (.int p4), .val (.int p5), .val (.int ((1 : Int32) + (p1 &&& (3 : Int32)))), .val (.int ((1 : Int32) + (p2 &&& (3 : Int32)))), .val (.ref w_HEXAGON), .val (.ref b7), .unset, .unset, .unset, .unset] [(.int p4)]))
      refine Go.st (fun _ kk => XS.bipush X43.here hx rfl (hb hby at_57) kk) ?_
      show Go p e below _ (T43.setTop (mkF m 59 #[.val (.int p1), .val (.int p2), .val (.int p3), .val (.int p4), .val (.int p5), .val (.int ((1 : Int32) + (p1 &&& (3 : Int32)))), .val (.int ((1 : Int32) + (p2 &&& (3 : Int32)))), .val (.ref w_HEXAGON), .val (.ref b7), .unset, .unset, .unset, .unset] [(.int (7 : Int32)), (.int p4)]))
      refine Go.st (fun _ kk => XS.iand X43.here hx rfl (hb hby at_59) rfl kk) ?_
      show Go p e below _ (T43.setTop (mkF m 60 #[.val (.int p1), .val (.int p2), .val (.int p3), .val (.int p4), .val (.int p5), .val (.int ((1 : Int32) + (p1 &&& (3 : Int32)))), .val (.int ((1 : Int32) + (p2 &&& (3 : Int32)))), .val (.ref w_HEXAGON), .val (.ref b7), .unset, .unset, .unset, .unset] [(.int (p4 &&& (7 : Int32)))]))
      refine Go.st (fun _ kk => XS.iconst X43.here hx rfl (hb hby at_60) kk) ?_
      show Go p e below _ (T43.setTop (mkF m 61 #[.val (.int p1), .val (.int p2), .val (.int p3), .val (.int p4), .val (.int p5), .val (.int ((1 : Int32) + (p1 &&& (3 : Int32)))), .val (.int ((1 : Int32) + (p2 &&& (3 : Int32)))), .val (.ref w_HEXAGON), .val (.ref b7), .unset, .unset, .unset, .unset] [(.int (2 : Int32)), (.int (p4 &&& (7 : Int32)))]))
      refine Go.st (fun _ kk => XS.isub X43.here hx rfl (hb hby at_61) rfl kk) ?_
      show Go p e below _ (T43.setTop (mkF m 62 #[.val (.int p1), .val (.int p2), .val (.int p3), .val (.int p4), .val (.int p5), .val (.int ((1 : Int32) + (p1 &&& (3 : Int32)))), .val (.int ((1 : Int32) + (p2 &&& (3 : Int32)))), .val (.ref w_HEXAGON), .val (.ref b7), .unset, .unset, .unset, .unset] [(.int ((p4 &&& (7 : Int32)) - (2 : Int32)))]))
      refine Go.st (fun _ kk => XS.istore X43.here hx rfl (hb hby at_62) rfl (l' := #[.val (.int p1), .val (.int p2), .val (.int p3), .val (.int p4), .val (.int p5), .val (.int ((1 : Int32) + (p1 &&& (3 : Int32)))), .val (.int ((1 : Int32) + (p2 &&& (3 : Int32)))), .val (.ref w_HEXAGON), .val (.ref b7), .val (.int ((p4 &&& (7 : Int32)) - (2 : Int32))), .unset, .unset, .unset]) rfl kk) ?_
      show Go p e below _ (T43.setTop (mkF m 64 #[.val (.int p1), .val (.int p2), .val (.int p3), .val (.int p4), .val (.int p5), .val (.int ((1 : Int32) + (p1 &&& (3 : Int32)))), .val (.int ((1 : Int32) + (p2 &&& (3 : Int32)))), .val (.ref w_HEXAGON), .val (.ref b7), .val (.int ((p4 &&& (7 : Int32)) - (2 : Int32))), .unset, .unset, .unset] []))
      refine Go.st (fun _ kk => XS.iloadN X43.here hx rfl (hb hby at_64) rfl  kk) ?_
      show Go p e below _ (T43.setTop (mkF m 65 #[.val (.int p1), .val (.int p2), .val (.int p3), .val (.int p4), .val (.int p5), .val (.int ((1 : Int32) + (p1 &&& (3 : Int32)))), .val (.int ((1 : Int32) + (p2 &&& (3 : Int32)))), .val (.ref w_HEXAGON), .val (.ref b7), .val (.int ((p4 &&& (7 : Int32)) - (2 : Int32))), .unset, .unset, .unset] [(.int p3)]))
      refine Go.st (fun _ kk => XS.iconst X43.here hx rfl (hb hby at_65) kk) ?_
      show Go p e below _ (T43.setTop (mkF m 66 #[.val (.int p1), .val (.int p2), .val (.int p3), .val (.int p4), .val (.int p5), .val (.int ((1 : Int32) + (p1 &&& (3 : Int32)))), .val (.int ((1 : Int32) + (p2 &&& (3 : Int32)))), .val (.ref w_HEXAGON), .val (.ref b7), .val (.int ((p4 &&& (7 : Int32)) - (2 : Int32))), .unset, .unset, .unset] [(.int (2 : Int32)), (.int p3)]))
      refine Go.st (fun _ kk => XS.iand X43.here hx rfl (hb hby at_66) rfl kk) ?_
      show Go p e below _ (T43.setTop (mkF m 67 #[.val (.int p1), .val (.int p2), .val (.int p3), .val (.int p4), .val (.int p5), .val (.int ((1 : Int32) + (p1 &&& (3 : Int32)))), .val (.int ((1 : Int32) + (p2 &&& (3 : Int32)))), .val (.ref w_HEXAGON), .val (.ref b7), .val (.int ((p4 &&& (7 : Int32)) - (2 : Int32))), .unset, .unset, .unset] [(.int (p3 &&& (2 : Int32)))]))
      by_cases hc_18 : (p3 &&& (2 : Int32)) = (0 : Int32)
      · skip
        refine Go.st (fun _ kk => XS.ifYes X43.here hx rfl (pc0 := 67) (pc' := 75) rfl (hb hby at_67) rfl ((if0 _ _).trans (teq hc_18).1) (by decide) (by decide) kk) ?_
        show Go p e below _ (T43.setTop (mkF m 75 #[.val (.int p1), .val (.int p2), .val (.int p3), .val (.int p4), .val (.int p5), .val (.int ((1 : Int32) + (p1 &&& (3 : Int32)))), .val (.int ((1 : Int32) + (p2 &&& (3 : Int32)))), .val (.ref w_HEXAGON), .val (.ref b7), .val (.int ((p4 &&& (7 : Int32)) - (2 : Int32))), .unset, .unset, .unset] []))
        refine Go.st (fun _ kk => XS.iload X43.here hx rfl (hb hby at_75) rfl  kk) ?_
        show Go p e below _ (T43.setTop (mkF m 77 #[.val (.int p1), .val (.int p2), .val (.int p3), .val (.int p4), .val (.int p5), .val (.int ((1 : Int32) + (p1 &&& (3 : Int32)))), .val (.int ((1 : Int32) + (p2 &&& (3 : Int32)))), .val (.ref w_HEXAGON), .val (.ref b7), .val (.int ((p4 &&& (7 : Int32)) - (2 : Int32))), .unset, .unset, .unset] [(.int p5)]))
        refine Go.st (fun _ kk => XS.bipush X43.here hx rfl (hb hby at_77) kk) ?_
        show Go p e below _ (T43.setTop (mkF m 79 #[.val (.int p1), .val (.int p2), .val (.int p3), .val (.int p4), .val (.int p5), .val (.int ((1 : Int32) + (p1 &&& (3 : Int32)))), .val (.int ((1 : Int32) + (p2 &&& (3 : Int32)))), .val (.ref w_HEXAGON), .val (.ref b7), .val (.int ((p4 &&& (7 : Int32)) - (2 : Int32))), .unset, .unset, .unset] [(.int (7 : Int32)), (.int p5)]))
        refine Go.st (fun _ kk => XS.iand X43.here hx rfl (hb hby at_79) rfl kk) ?_
        show Go p e below _ (T43.setTop (mkF m 80 #[.val (.int p1), .val (.int p2), .val (.int p3), .val (.int p4), .val (.int p5), .val (.int ((1 : Int32) + (p1 &&& (3 : Int32)))), .val (.int ((1 : Int32) + (p2 &&& (3 : Int32)))), .val (.ref w_HEXAGON), .val (.ref b7), .val (.int ((p4 &&& (7 : Int32)) - (2 : Int32))), .unset, .unset, .unset] [(.int (p5 &&& (7 : Int32)))]))
        refine Go.st (fun _ kk => XS.iconst X43.here hx rfl (hb hby at_80) kk) ?_
        show Go p e below _ (T43.setTop (mkF m 81 #[.val (.int p1), .val (.int p2), .val (.int p3), .val (.int p4), .val (.int p5), .val (.int ((1 : Int32) + (p1 &&& (3 : Int32)))), .val (.int ((1 : Int32) + (p2 &&& (3 : Int32)))), .val (.ref w_HEXAGON), .val (.ref b7), .val (.int ((p4 &&& (7 : Int32)) - (2 : Int32))), .unset, .unset, .unset] [(.int (2 : Int32)), (.int (p5 &&& (7 : Int32)))]))
        refine Go.st (fun _ kk => XS.isub X43.here hx rfl (hb hby at_81) rfl kk) ?_
        show Go p e below _ (T43.setTop (mkF m 82 #[.val (.int p1), .val (.int p2), .val (.int p3), .val (.int p4), .val (.int p5), .val (.int ((1 : Int32) + (p1 &&& (3 : Int32)))), .val (.int ((1 : Int32) + (p2 &&& (3 : Int32)))), .val (.ref w_HEXAGON), .val (.ref b7), .val (.int ((p4 &&& (7 : Int32)) - (2 : Int32))), .unset, .unset, .unset] [(.int ((p5 &&& (7 : Int32)) - (2 : Int32)))]))
        refine Go.st (fun _ kk => XS.istore X43.here hx rfl (hb hby at_82) rfl (l' := #[.val (.int p1), .val (.int p2), .val (.int p3), .val (.int p4), .val (.int p5), .val (.int ((1 : Int32) + (p1 &&& (3 : Int32)))), .val (.int ((1 : Int32) + (p2 &&& (3 : Int32)))), .val (.ref w_HEXAGON), .val (.ref b7), .val (.int ((p4 &&& (7 : Int32)) - (2 : Int32))), .val (.int ((p5 &&& (7 : Int32)) - (2 : Int32))), .unset, .unset]) rfl kk) ?_
        show Go p e below _ (T43.setTop (mkF m 84 #[.val (.int p1), .val (.int p2), .val (.int p3), .val (.int p4), .val (.int p5), .val (.int ((1 : Int32) + (p1 &&& (3 : Int32)))), .val (.int ((1 : Int32) + (p2 &&& (3 : Int32)))), .val (.ref w_HEXAGON), .val (.ref b7), .val (.int ((p4 &&& (7 : Int32)) - (2 : Int32))), .val (.int ((p5 &&& (7 : Int32)) - (2 : Int32))), .unset, .unset] []))
        exact tail _ _
      · skip
        refine Go.st (fun _ kk => XS.ifNo X43.here hx rfl (hb hby at_67) rfl ((if0 _ _).trans (feq hc_18).1) kk) ?_
        show Go p e below _ (T43.setTop (mkF m 70 #[.val (.int p1), .val (.int p2), .val (.int p3), .val (.int p4), .val (.int p5), .val (.int ((1 : Int32) + (p1 &&& (3 : Int32)))), .val (.int ((1 : Int32) + (p2 &&& (3 : Int32)))), .val (.ref w_HEXAGON), .val (.ref b7), .val (.int ((p4 &&& (7 : Int32)) - (2 : Int32))), .unset, .unset, .unset] []))
        refine Go.st (fun _ kk => XS.iload X43.here hx rfl (hb hby at_70) rfl  kk) ?_
        show Go p e below _ (T43.setTop (mkF m 72 #[.val (.int p1), .val (.int p2), .val (.int p3), .val (.int p4), .val (.int p5), .val (.int ((1 : Int32) + (p1 &&& (3 : Int32)))), .val (.int ((1 : Int32) + (p2 &&& (3 : Int32)))), .val (.ref w_HEXAGON), .val (.ref b7), .val (.int ((p4 &&& (7 : Int32)) - (2 : Int32))), .unset, .unset, .unset] [(.int p5)]))
        refine Go.st (fun _ kk => XS.goto X43.here hx rfl (pc0 := 72) (pc' := 82) rfl (hb hby at_72) (by decide) (by decide) kk) ?_
        show Go p e below _ (T43.setTop (mkF m 82 #[.val (.int p1), .val (.int p2), .val (.int p3), .val (.int p4), .val (.int p5), .val (.int ((1 : Int32) + (p1 &&& (3 : Int32)))), .val (.int ((1 : Int32) + (p2 &&& (3 : Int32)))), .val (.ref w_HEXAGON), .val (.ref b7), .val (.int ((p4 &&& (7 : Int32)) - (2 : Int32))), .unset, .unset, .unset] [(.int p5)]))
        refine Go.st (fun _ kk => XS.istore X43.here hx rfl (hb hby at_82) rfl (l' := #[.val (.int p1), .val (.int p2), .val (.int p3), .val (.int p4), .val (.int p5), .val (.int ((1 : Int32) + (p1 &&& (3 : Int32)))), .val (.int ((1 : Int32) + (p2 &&& (3 : Int32)))), .val (.ref w_HEXAGON), .val (.ref b7), .val (.int ((p4 &&& (7 : Int32)) - (2 : Int32))), .val (.int p5), .unset, .unset]) rfl kk) ?_
        show Go p e below _ (T43.setTop (mkF m 84 #[.val (.int p1), .val (.int p2), .val (.int p3), .val (.int p4), .val (.int p5), .val (.int ((1 : Int32) + (p1 &&& (3 : Int32)))), .val (.int ((1 : Int32) + (p2 &&& (3 : Int32)))), .val (.ref w_HEXAGON), .val (.ref b7), .val (.int ((p4 &&& (7 : Int32)) - (2 : Int32))), .val (.int p5), .unset, .unset] []))
        exact tail _ _
    · skip
      refine Go.st (fun _ kk => XS.ifNo X43.here hx rfl (hb hby at_49) rfl ((if0 _ _).trans (feq hc_17).1) kk) ?_
      show Go p e below _ (T43.setTop (mkF m 52 #[.val (.int p1), .val (.int p2), .val (.int p3), .val (.int p4), .val (.int p5), .val (.int ((1 : Int32) + (p1 &&& (3 : Int32)))), .val (.int ((1 : Int32) + (p2 &&& (3 : Int32)))), .val (.ref w_HEXAGON), .val (.ref b7), .unset, .unset, .unset, .unset] []))
      refine Go.st (fun _ kk => XS.iloadN X43.here hx rfl (hb hby at_52) rfl  kk) ?_
      show Go p e below _ (T43.setTop (mkF m 53 #[.val (.int p1), .val (.int p2), .val (.int p3), .val (.int p4), .val (.int p5), .val (.int ((1 : Int32) + (p1 &&& (3 : Int32)))), .val (.int ((1 : Int32) + (p2 &&& (3 : Int32)))), .val (.ref w_HEXAGON), .val (.ref b7), .unset, .unset, .unset, .unset] [(.int p4)]))
      refine Go.st (fun _ kk => XS.goto X43.here hx rfl (pc0 := 53) (pc' := 62) rfl (hb hby at_53) (by decide) (by decide) kk) ?_
      show Go p e below _ (T43.setTop (mkF m 62 #[.val (.int p1), .val (.int p2), .val (.int p3), .val (.int p4), .val (.int p5), .val (.int ((1 : Int32) + (p1 &&& (3 : Int32)))), .val (.int ((1 : Int32) + (p2 &&& (3 : Int32)))), .val (.ref w_HEXAGON), .val (.ref b7), .unset, .unset, .unset, .unset] [(.int p4)]))
      refine Go.st (fun _ kk => XS.istore X43.here hx rfl (hb hby at_62) rfl (l' := #[.val (.int p1), .val (.int p2), .val (.int p3), .val (.int p4), .val (.int p5), .val (.int ((1 : Int32) + (p1 &&& (3 : Int32)))), .val (.int ((1 : Int32) + (p2 &&& (3 : Int32)))), .val (.ref w_HEXAGON), .val (.ref b7), .val (.int p4), .unset, .unset, .unset]) rfl kk) ?_
      show Go p e below _ (T43.setTop (mkF m 64 #[.val (.int p1), .val (.int p2), .val (.int p3), .val (.int p4), .val (.int p5), .val (.int ((1 : Int32) + (p1 &&& (3 : Int32)))), .val (.int ((1 : Int32) + (p2 &&& (3 : Int32)))), .val (.ref w_HEXAGON), .val (.ref b7), .val (.int p4), .unset, .unset, .unset] []))
      refine Go.st (fun _ kk => XS.iloadN X43.here hx rfl (hb hby at_64) rfl  kk) ?_
      show Go p e below _ (T43.setTop (mkF m 65 #[.val (.int p1), .val (.int p2), .val (.int p3), .val (.int p4), .val (.int p5), .val (.int ((1 : Int32) + (p1 &&& (3 : Int32)))), .val (.int ((1 : Int32) + (p2 &&& (3 : Int32)))), .val (.ref w_HEXAGON), .val (.ref b7), .val (.int p4), .unset, .unset, .unset] [(.int p3)]))
      refine Go.st (fun _ kk => XS.iconst X43.here hx rfl (hb hby at_65) kk) ?_
      show Go p e below _ (T43.setTop (mkF m 66 #[.val (.int p1), .val (.int p2), .val (.int p3), .val (.int p4), .val (.int p5), .val (.int ((1 : Int32) + (p1 &&& (3 : Int32)))), .val (.int ((1 : Int32) + (p2 &&& (3 : Int32)))), .val (.ref w_HEXAGON), .val (.ref b7), .val (.int p4), .unset, .unset, .unset] [(.int (2 : Int32)), (.int p3)]))
      refine Go.st (fun _ kk => XS.iand X43.here hx rfl (hb hby at_66) rfl kk) ?_
      show Go p e below _ (T43.setTop (mkF m 67 #[.val (.int p1), .val (.int p2), .val (.int p3), .val (.int p4), .val (.int p5), .val (.int ((1 : Int32) + (p1 &&& (3 : Int32)))), .val (.int ((1 : Int32) + (p2 &&& (3 : Int32)))), .val (.ref w_HEXAGON), .val (.ref b7), .val (.int p4), .unset, .unset, .unset] [(.int (p3 &&& (2 : Int32)))]))
      by_cases hc_19 : (p3 &&& (2 : Int32)) = (0 : Int32)
      · skip
        refine Go.st (fun _ kk => XS.ifYes X43.here hx rfl (pc0 := 67) (pc' := 75) rfl (hb hby at_67) rfl ((if0 _ _).trans (teq hc_19).1) (by decide) (by decide) kk) ?_
        show Go p e below _ (T43.setTop (mkF m 75 #[.val (.int p1), .val (.int p2), .val (.int p3), .val (.int p4), .val (.int p5), .val (.int ((1 : Int32) + (p1 &&& (3 : Int32)))), .val (.int ((1 : Int32) + (p2 &&& (3 : Int32)))), .val (.ref w_HEXAGON), .val (.ref b7), .val (.int p4), .unset, .unset, .unset] []))
        refine Go.st (fun _ kk => XS.iload X43.here hx rfl (hb hby at_75) rfl  kk) ?_
        show Go p e below _ (T43.setTop (mkF m 77 #[.val (.int p1), .val (.int p2), .val (.int p3), .val (.int p4), .val (.int p5), .val (.int ((1 : Int32) + (p1 &&& (3 : Int32)))), .val (.int ((1 : Int32) + (p2 &&& (3 : Int32)))), .val (.ref w_HEXAGON), .val (.ref b7), .val (.int p4), .unset, .unset, .unset] [(.int p5)]))
        refine Go.st (fun _ kk => XS.bipush X43.here hx rfl (hb hby at_77) kk) ?_
        show Go p e below _ (T43.setTop (mkF m 79 #[.val (.int p1), .val (.int p2), .val (.int p3), .val (.int p4), .val (.int p5), .val (.int ((1 : Int32) + (p1 &&& (3 : Int32)))), .val (.int ((1 : Int32) + (p2 &&& (3 : Int32)))), .val (.ref w_HEXAGON), .val (.ref b7), .val (.int p4), .unset, .unset, .unset] [(.int (7 : Int32)), (.int p5)]))
        refine Go.st (fun _ kk => XS.iand X43.here hx rfl (hb hby at_79) rfl kk) ?_
        show Go p e below _ (T43.setTop (mkF m 80 #[.val (.int p1), .val (.int p2), .val (.int p3), .val (.int p4), .val (.int p5), .val (.int ((1 : Int32) + (p1 &&& (3 : Int32)))), .val (.int ((1 : Int32) + (p2 &&& (3 : Int32)))), .val (.ref w_HEXAGON), .val (.ref b7), .val (.int p4), .unset, .unset, .unset] [(.int (p5 &&& (7 : Int32)))]))
        refine Go.st (fun _ kk => XS.iconst X43.here hx rfl (hb hby at_80) kk) ?_
        show Go p e below _ (T43.setTop (mkF m 81 #[.val (.int p1), .val (.int p2), .val (.int p3), .val (.int p4), .val (.int p5), .val (.int ((1 : Int32) + (p1 &&& (3 : Int32)))), .val (.int ((1 : Int32) + (p2 &&& (3 : Int32)))), .val (.ref w_HEXAGON), .val (.ref b7), .val (.int p4), .unset, .unset, .unset] [(.int (2 : Int32)), (.int (p5 &&& (7 : Int32)))]))
        refine Go.st (fun _ kk => XS.isub X43.here hx rfl (hb hby at_81) rfl kk) ?_
        show Go p e below _ (T43.setTop (mkF m 82 #[.val (.int p1), .val (.int p2), .val (.int p3), .val (.int p4), .val (.int p5), .val (.int ((1 : Int32) + (p1 &&& (3 : Int32)))), .val (.int ((1 : Int32) + (p2 &&& (3 : Int32)))), .val (.ref w_HEXAGON), .val (.ref b7), .val (.int p4), .unset, .unset, .unset] [(.int ((p5 &&& (7 : Int32)) - (2 : Int32)))]))
        refine Go.st (fun _ kk => XS.istore X43.here hx rfl (hb hby at_82) rfl (l' := #[.val (.int p1), .val (.int p2), .val (.int p3), .val (.int p4), .val (.int p5), .val (.int ((1 : Int32) + (p1 &&& (3 : Int32)))), .val (.int ((1 : Int32) + (p2 &&& (3 : Int32)))), .val (.ref w_HEXAGON), .val (.ref b7), .val (.int p4), .val (.int ((p5 &&& (7 : Int32)) - (2 : Int32))), .unset, .unset]) rfl kk) ?_
        show Go p e below _ (T43.setTop (mkF m 84 #[.val (.int p1), .val (.int p2), .val (.int p3), .val (.int p4), .val (.int p5), .val (.int ((1 : Int32) + (p1 &&& (3 : Int32)))), .val (.int ((1 : Int32) + (p2 &&& (3 : Int32)))), .val (.ref w_HEXAGON), .val (.ref b7), .val (.int p4), .val (.int ((p5 &&& (7 : Int32)) - (2 : Int32))), .unset, .unset] []))
        exact tail _ _
      · skip
        refine Go.st (fun _ kk => XS.ifNo X43.here hx rfl (hb hby at_67) rfl ((if0 _ _).trans (feq hc_19).1) kk) ?_
        show Go p e below _ (T43.setTop (mkF m 70 #[.val (.int p1), .val (.int p2), .val (.int p3), .val (.int p4), .val (.int p5), .val (.int ((1 : Int32) + (p1 &&& (3 : Int32)))), .val (.int ((1 : Int32) + (p2 &&& (3 : Int32)))), .val (.ref w_HEXAGON), .val (.ref b7), .val (.int p4), .unset, .unset, .unset] []))
        refine Go.st (fun _ kk => XS.iload X43.here hx rfl (hb hby at_70) rfl  kk) ?_
        show Go p e below _ (T43.setTop (mkF m 72 #[.val (.int p1), .val (.int p2), .val (.int p3), .val (.int p4), .val (.int p5), .val (.int ((1 : Int32) + (p1 &&& (3 : Int32)))), .val (.int ((1 : Int32) + (p2 &&& (3 : Int32)))), .val (.ref w_HEXAGON), .val (.ref b7), .val (.int p4), .unset, .unset, .unset] [(.int p5)]))
        refine Go.st (fun _ kk => XS.goto X43.here hx rfl (pc0 := 72) (pc' := 82) rfl (hb hby at_72) (by decide) (by decide) kk) ?_
        show Go p e below _ (T43.setTop (mkF m 82 #[.val (.int p1), .val (.int p2), .val (.int p3), .val (.int p4), .val (.int p5), .val (.int ((1 : Int32) + (p1 &&& (3 : Int32)))), .val (.int ((1 : Int32) + (p2 &&& (3 : Int32)))), .val (.ref w_HEXAGON), .val (.ref b7), .val (.int p4), .unset, .unset, .unset] [(.int p5)]))
        refine Go.st (fun _ kk => XS.istore X43.here hx rfl (hb hby at_82) rfl (l' := #[.val (.int p1), .val (.int p2), .val (.int p3), .val (.int p4), .val (.int p5), .val (.int ((1 : Int32) + (p1 &&& (3 : Int32)))), .val (.int ((1 : Int32) + (p2 &&& (3 : Int32)))), .val (.ref w_HEXAGON), .val (.ref b7), .val (.int p4), .val (.int p5), .unset, .unset]) rfl kk) ?_
        show Go p e below _ (T43.setTop (mkF m 84 #[.val (.int p1), .val (.int p2), .val (.int p3), .val (.int p4), .val (.int p5), .val (.int ((1 : Int32) + (p1 &&& (3 : Int32)))), .val (.int ((1 : Int32) + (p2 &&& (3 : Int32)))), .val (.ref w_HEXAGON), .val (.ref b7), .val (.int p4), .val (.int p5), .unset, .unset] []))
        exact tail _ _
set_option maxRecDepth 65536 in
set_option maxHeartbeats 40000000 in
theorem comes_1 {Post : Tables → Env → Array Value → State → Outcome → State → Prop} (hpost : ∀ tb e args s v u, (limb_1_1.after args s (.returned v) u = true ∧ limb_1_2.after args s (.returned v) u = true ∧ True) → FrameEnd s (.returned v) u (Jvm.fieldLocs frame_1_writes args s ++ Jvm.arrayLocs frame_1_arrays args s ++ Jvm.staticLocs frame_1_statics s) 24 384 → Post tb e args s (.returned v) u) :
    ArmFor flags0 classFile x code maxLocals ret World_1 tables_1 room_1 Calls_1 rest_1 Pre_1 Post := by
  intro l hfl _ _ p e ha hc hk s m args below hf hA hF happ hP
  obtain ⟨hcalls, hrest, hpre⟩ := hP
  obtain ⟨-, -, -, hnamed, -, -, -, hat⟩ := (Spec.applies_iff hf).mp happ
  obtain ⟨hg, hn⟩ := and_e (Cond.before_iff.mp (show (Jvm.Cond.and given_1 narrow_1).before args s = true from hpre))
  obtain ⟨hcount, hg⟩ := and_e hg
  obtain ⟨hg0, hg⟩ := and_e hg
  obtain ⟨hg1, hg⟩ := and_e hg
  obtain ⟨hg2, hg⟩ := and_e hg
  obtain ⟨hg3, hg⟩ := and_e hg
  have hg4 := hg
  obtain ⟨w0, w1, w2, w3, w4, rfl⟩ : ∃ w0 w1 w2 w3 w4 : Value, args = #[w0, w1, w2, w3, w4] := by
    have hs : args.size = 5 := by simpa [Cond.value, given_1] using hcount
    obtain ⟨L⟩ := args
    match L, hs with
    | [w0, w1, w2, w3, w4], _ => exact ⟨w0, w1, w2, w3, w4, rfl⟩
  have hw := fun d (hd : d ∈ tables_1) => atoms_spec (ws := Jvm.Cond.code x code maxLocals ret :: tables_1) hat d (List.mem_cons_of_mem _ hd)
  have hfit : Fit s := fun {y c} hc i hi => by
    obtain ⟨ha, rfl⟩ := Array.getElem?_eq_some_iff.mp hc
    have q := List.all_eq_true.mp ((Array.all_eq_true_iff_forall_mem.mp hF) _ (Array.getElem_mem ha)) i (List.mem_range.mpr hi)
    simpa [Array.getElem?_eq_getElem hi] using q
  obtain ⟨i0, ei0⟩ := is_v hg0
  obtain rfl : w0 = (.int i0) := Option.some.inj ei0
  obtain ⟨i1, ei1⟩ := is_v hg1
  obtain rfl : w1 = (.int i1) := Option.some.inj ei1
  obtain ⟨i2, ei2⟩ := is_v hg2
  obtain rfl : w2 = (.int i2) := Option.some.inj ei2
  obtain ⟨i3, ei3⟩ := is_v hg3
  obtain rfl : w3 = (.int i3) := Option.some.inj ei3
  obtain ⟨i4, ei4⟩ := is_v hg4
  obtain rfl : w4 = (.int i4) := Option.some.inj ei4
  obtain ⟨hn0, hn⟩ := and_e hn
  obtain ⟨hn1, hn⟩ := and_e hn
  obtain ⟨hn2, hn⟩ := and_e hn
  obtain ⟨hn3, hn⟩ := and_e hn
  obtain ⟨hn4, hn⟩ := and_e hn
  obtain ⟨hn5, hn⟩ := and_e hn
  obtain ⟨hn6, hn⟩ := and_e hn
  obtain ⟨hn7, hn⟩ := and_e hn
  obtain ⟨hn8, hn⟩ := and_e hn
  obtain ⟨hn9, hn⟩ := and_e hn
  obtain ⟨hn10, hn⟩ := and_e hn
  obtain ⟨hn11, hn⟩ := and_e hn
  obtain ⟨hn12, hn⟩ := and_e hn
  obtain ⟨hn13, hn⟩ := and_e hn
  obtain ⟨hn14, hn⟩ := and_e hn
  obtain ⟨hn15, hn⟩ := and_e hn
  obtain ⟨hn16, hn⟩ := and_e hn
  obtain ⟨hn17, hn⟩ := and_e hn
  obtain ⟨hn18, hn⟩ := and_e hn
  obtain ⟨hn19, hn⟩ := and_e hn
  obtain ⟨hn20, hn⟩ := and_e hn
  obtain ⟨hn21, hn⟩ := and_e hn
  obtain ⟨hn22, hn⟩ := and_e hn
  obtain ⟨hn23, hn⟩ := and_e hn
  obtain ⟨hn24, hn⟩ := and_e hn
  obtain ⟨hn25, hn⟩ := and_e hn
  obtain ⟨hn26, hn⟩ := and_e hn
  obtain ⟨hn27, hn⟩ := and_e hn
  obtain ⟨hn28, hn⟩ := and_e hn
  obtain ⟨hn29, hn⟩ := and_e hn
  obtain ⟨hn30, hn⟩ := and_e hn
  obtain ⟨hn31, hn⟩ := and_e hn
  obtain ⟨hn32, hn⟩ := and_e hn
  obtain ⟨hn33, hn⟩ := and_e hn
  obtain ⟨hn34, hn⟩ := and_e hn
  obtain ⟨hn35, hn⟩ := and_e hn
  obtain ⟨hn36, hn⟩ := and_e hn
  obtain ⟨hn37, hn⟩ := and_e hn
  obtain ⟨hn38, hn⟩ := and_e hn
  obtain ⟨hn39, hn⟩ := and_e hn
  obtain ⟨hn40, hn⟩ := and_e hn
  obtain ⟨hn41, hn⟩ := and_e hn
  obtain ⟨hn42, hn⟩ := and_e hn
  obtain ⟨hn43, hn⟩ := and_e hn
  have hn44 := hn
  obtain ⟨w_SQUARE, ev_SQUARE⟩ := exa_v hn0
  have S_SQUARE := Sta.start ev_SQUARE (Or.inr ⟨(hw _ (List.mem_of_getElem? (i := 1) rfl)), (hw _ (List.mem_of_getElem? (i := 2) rfl))⟩)
  have E_w_SQUARE := Exa.start ev_SQUARE hn0
  obtain ⟨w__VALUES, ev__VALUES⟩ := exa_v hn2
  have S__VALUES := Sta.start ev__VALUES (Or.inr ⟨(hw _ (List.mem_of_getElem? (i := 14) rfl)), (hw _ (List.mem_of_getElem? (i := 17) rfl))⟩)
  have E_w__VALUES := Exa.start ev__VALUES hn2
  obtain ⟨w_N, ev_N⟩ := exa_v hn4
  have S_N := Sta.start ev_N (Or.inr ⟨(hw _ (List.mem_of_getElem? (i := 14) rfl)), (hw _ (List.mem_of_getElem? (i := 25) rfl))⟩)
  have E_w_N := Exa.start ev_N hn4
  obtain ⟨w_NE, ev_NE⟩ := exa_v hn6
  have S_NE := Sta.start ev_NE (Or.inr ⟨(hw _ (List.mem_of_getElem? (i := 14) rfl)), (hw _ (List.mem_of_getElem? (i := 26) rfl))⟩)
  have E_w_NE := Exa.start ev_NE hn6
  obtain ⟨w_E, ev_E⟩ := exa_v hn8
  have S_E := Sta.start ev_E (Or.inr ⟨(hw _ (List.mem_of_getElem? (i := 14) rfl)), (hw _ (List.mem_of_getElem? (i := 27) rfl))⟩)
  have E_w_E := Exa.start ev_E hn8
  obtain ⟨w_SE, ev_SE⟩ := exa_v hn10
  have S_SE := Sta.start ev_SE (Or.inr ⟨(hw _ (List.mem_of_getElem? (i := 14) rfl)), (hw _ (List.mem_of_getElem? (i := 28) rfl))⟩)
  have E_w_SE := Exa.start ev_SE hn10
  obtain ⟨w_S, ev_S⟩ := exa_v hn12
  have S_S := Sta.start ev_S (Or.inr ⟨(hw _ (List.mem_of_getElem? (i := 14) rfl)), (hw _ (List.mem_of_getElem? (i := 29) rfl))⟩)
  have E_w_S := Exa.start ev_S hn12
  obtain ⟨w_SW, ev_SW⟩ := exa_v hn14
  have S_SW := Sta.start ev_SW (Or.inr ⟨(hw _ (List.mem_of_getElem? (i := 14) rfl)), (hw _ (List.mem_of_getElem? (i := 30) rfl))⟩)
  have E_w_SW := Exa.start ev_SW hn14
  obtain ⟨w_W, ev_W⟩ := exa_v hn16
  have S_W := Sta.start ev_W (Or.inr ⟨(hw _ (List.mem_of_getElem? (i := 14) rfl)), (hw _ (List.mem_of_getElem? (i := 31) rfl))⟩)
  have E_w_W := Exa.start ev_W hn16
  obtain ⟨w_NW, ev_NW⟩ := exa_v hn18
  have S_NW := Sta.start ev_NW (Or.inr ⟨(hw _ (List.mem_of_getElem? (i := 14) rfl)), (hw _ (List.mem_of_getElem? (i := 32) rfl))⟩)
  have E_w_NW := Exa.start ev_NW hn18
  obtain ⟨w_HEXAGON, ev_HEXAGON⟩ := exa_v hn44
  have S_HEXAGON := Sta.start ev_HEXAGON (Or.inr ⟨(hw _ (List.mem_of_getElem? (i := 1) rfl)), (hw _ (List.mem_of_getElem? (i := 80) rfl))⟩)
  have E_w_HEXAGON := Exa.start ev_HEXAGON hn44
  have F_ordinal_w_N := fldStart ev_N hn20
  have F_columnStep_w_N := fldStart ev_N hn21
  have F_rowStep_w_N := fldStart ev_N hn22
  have F_ordinal_w_NE := fldStart ev_NE hn23
  have F_columnStep_w_NE := fldStart ev_NE hn24
  have F_rowStep_w_NE := fldStart ev_NE hn25
  have F_ordinal_w_E := fldStart ev_E hn26
  have F_columnStep_w_E := fldStart ev_E hn27
  have F_rowStep_w_E := fldStart ev_E hn28
  have F_ordinal_w_SE := fldStart ev_SE hn29
  have F_columnStep_w_SE := fldStart ev_SE hn30
  have F_rowStep_w_SE := fldStart ev_SE hn31
  have F_ordinal_w_S := fldStart ev_S hn32
  have F_columnStep_w_S := fldStart ev_S hn33
  have F_rowStep_w_S := fldStart ev_S hn34
  have F_ordinal_w_SW := fldStart ev_SW hn35
  have F_columnStep_w_SW := fldStart ev_SW hn36
  have F_rowStep_w_SW := fldStart ev_SW hn37
  have F_ordinal_w_W := fldStart ev_W hn38
  have F_columnStep_w_W := fldStart ev_W hn39
  have F_rowStep_w_W := fldStart ev_W hn40
  have F_ordinal_w_NW := fldStart ev_NW hn41
  have F_columnStep_w_NW := fldStart ev_NW hn42
  have F_rowStep_w_NW := fldStart ev_NW hn43
  obtain ⟨clv, Arv0⟩ := Arr.start ev__VALUES hn1
  have hlenv := own_len ev__VALUES Arv0 hn3
  have hel0 := own_elem ev__VALUES Arv0 ev_N hn5
  have hel1 := own_elem ev__VALUES Arv0 ev_NE hn7
  have hel2 := own_elem ev__VALUES Arv0 ev_E hn9
  have hel3 := own_elem ev__VALUES Arv0 ev_SE hn11
  have hel4 := own_elem ev__VALUES Arv0 ev_S hn13
  have hel5 := own_elem ev__VALUES Arv0 ev_SW hn15
  have hel6 := own_elem ev__VALUES Arv0 ev_W hn17
  have hel7 := own_elem ev__VALUES Arv0 ev_NW hn19
  have V_w__VALUES : Arv s s.heap w__VALUES clv.cls (.object "com/example/tabulon/tabulon/game/Board$Direction") (8 : Int32) [(.ref w_N), (.ref w_NE), (.ref w_E), (.ref w_SE), (.ref w_S), (.ref w_SW), (.ref w_W), (.ref w_NW)] .null := Arv.start hfit Arv0 hlenv.1 hlenv.2 (by decide) rfl ⟨hel0, hel1, hel2, hel3, hel4, hel5, hel6, hel7, trivial⟩
  have hfc : ∀ cl : Cell, s.heap[w__VALUES]? = some cl → FitC s cl := fun cl h => by cases h.symm.trans Arv0.1; exact FitC.start hfit Arv0
  obtain ⟨n, o, h1, h2, h3, _, L, rfl, ⟨rfl, N⟩, hq⟩ := rm0 l s _ hw tables_1 i0 i1 i2 i3 i4 w_SQUARE w__VALUES w_N w_NE w_E w_SE w_S w_SW w_W w_NW w_HEXAGON clv.cls s.heap s.heap.size (Nat.le_refl _) S_SQUARE E_w_SQUARE S__VALUES E_w__VALUES S_N E_w_N S_NE E_w_NE S_E E_w_E S_SE E_w_SE S_S E_w_S S_SW E_w_SW S_W E_w_W S_NW E_w_NW S_HEXAGON E_w_HEXAGON F_ordinal_w_N F_columnStep_w_N F_rowStep_w_N F_ordinal_w_NE F_columnStep_w_NE F_rowStep_w_NE F_ordinal_w_E F_columnStep_w_E F_rowStep_w_E F_ordinal_w_SE F_columnStep_w_SE F_rowStep_w_SE F_ordinal_w_S F_columnStep_w_S F_rowStep_w_S F_ordinal_w_SW F_columnStep_w_SW F_rowStep_w_SW F_ordinal_w_W F_columnStep_w_W F_rowStep_w_W F_ordinal_w_NW F_columnStep_w_NW F_rowStep_w_NW V_w__VALUES hfc p e ha hc hk s m _ below hf ((Spec.applies_iff_loose hf).mp happ).1 ⟨rfl, State.Warmed39.refl s, rfl⟩ trivial
  refine ⟨n, _, h1, h2, h3, hpost _ _ _ _ _ _ ⟨Cond.after_iff.mpr rfl, Cond.after_iff.mpr (eq_i res_at (Term.int_eval (1)) rfl), trivial⟩ ⟨hq.1, hq.2.1, (hq.2.2.sift fun y hy => Or.inr (N y hy)).mono (by decide) (by decide)⟩⟩
theorem main_1_1 : Claimed_1_1 := comes_1 fun _ _ _ _ _ _ h hF => ⟨h.1, hF⟩
theorem main_1_2 : Claimed_1_2 := comes_1 fun _ _ _ _ _ _ h hF => ⟨h.2.1, hF⟩
end Jvm.Pilot.@@N@@
namespace Jvm.Pilot.@@N@@
open Jvm Jvm.ClassFile Sem Op Lib Jvm.Free Jvm.Stand Jvm.Pilot.@@N@@.Jvm.D
/-! MADE BY PROGRAM (witnessworld.py) out of the Statement's table words and the real class files: 15 classes; the members and pool entries that the words name. The judged class is class 1, her method 1. -/
namespace start1
open Jvm.ClassFile
def u (s : String) : CpInfo := .utf8 (stringToUtf16 s)
/-- a pool by its gaps: so many unusable entries, then the entry; so many at the end -/
def gap : Nat → List CpInfo → List CpInfo
  | 0, r => r
  | n + 1, r => .unusable :: gap n r
def poolList (es : List (Nat × CpInfo)) (last : Nat) : List CpInfo := es.foldr (fun e r => gap e.1 (e.2 :: r)) (gap last [])
def pool (es : List (Nat × CpInfo)) (last : Nat) : Array CpInfo := ⟨poolList es last⟩
def fileOf (pool : Array CpInfo) (this : Nat) (attrs : Array Attribute := #[]) (ms : Array MethodInfo := #[]) (fl : Nat := 33) (sup : Nat := 0) (ifs : Array Nat := #[]) (fds : Array FieldInfo := #[]) : ClassFile where
  minorVersion := 0
  majorVersion := 65
  constantPool := pool
  accessFlags := fl
  thisClass := this
  superClass := sup
  interfaces := ifs
  fields := fds
  methods := ms
  attributes := attrs
def plain (name : String) (sup : Option ClassId) : Class where
  name := name
  kind := .ordinary
  loader := none
  accessFlags := 33
  super := sup
  interfaces := #[]
  cf := none
  fields := #[]
  methods := #[]
  instanceTypes := #[]
  staticTypes := #[]
  resolved := #[]
  callSites := []
  init := .initialized
  statics := none
  mirror := none

def pool0 : Array CpInfo := pool [(5, u "<init>"), (0, u "()V"), (1, .class_ 10), (1, u "java/lang/Object"), (85, u "clone"), (0, u "()Ljava/lang/Object;")] 26

def k0c0 : Code := { maxStack := 0, maxLocals := 1, code := object_method_1_code, exceptionTable := #[], attributes := #[] }
def k0m0 : Method := { name := "<init>", desc := "()V", sig := { parameters := [], returnType := none }, accessFlags := 1, code := some k0c0 }
def k0m1 : Method := { name := "clone", desc := "()Ljava/lang/Object;", sig := { parameters := [], returnType := some (.object "java/lang/Object") }, accessFlags := 260, code := none }
/-- java/lang/Object -/
def k0 : Class := { plain "java/lang/Object" none with
  accessFlags := 33
  interfaces := #[]
  cf := some (fileOf pool0 8 #[] #[{ accessFlags := 1, nameIndex := 5, descriptorIndex := 6, attributes := #[] }, { accessFlags := 260, nameIndex := 96, descriptorIndex := 97, attributes := #[] }] 33 0 #[] #[])
  fields := #[]
  methods := #[k0m0, k0m1]
  instanceTypes := #[]
  staticTypes := #[]
  resolved := Array.replicate 124 none
  statics := none }

def pool1 : Array CpInfo := pool [(2, .class_ 4), (1, u "java/lang/Object"), (0, u "<init>"), (0, u "()V"), (0, .fieldref 8 9), (0, .class_ 10), (0, .nameAndType 11 12), (0, u "com/example/tabulon/tabulon/game/Board$Cells"), (0, u "HEXAGON"), (0, u "Lcom/example/tabulon/tabulon/game/Board$Cells;"), (0, .fieldref 8 14), (0, .nameAndType 15 12), (0, u "SQUARE"), (0, .class_ 17), (0, u "com/example/tabulon/tabulon/game/Board"), (0, .methodref 16 19), (0, .nameAndType 5 20), (0, u "(Lcom/example/tabulon/tabulon/game/Board$Cells;II)V"), (0, .methodref 16 22), (0, .nameAndType 23 24), (0, u "siteAt"), (0, u "(II)I"), (0, .methodref 16 26), (0, .nameAndType 27 28), (0, u "column"), (0, u "(I)I"), (0, .methodref 16 30), (0, .nameAndType 31 28), (0, u "row"), (0, .class_ 33), (0, u "com/example/tabulon/tabulon/game/BoardSiteAtPinLaw"), (2, u "law"), (0, u "(IIIII)Z")] 5

def k1m0 : Method := { name := "<init>", desc := "()V", sig := { parameters := [], returnType := none }, accessFlags := 1, code := none }
def k1c1 : Code := { maxStack := 5, maxLocals := 13, code := code, exceptionTable := #[], attributes := #[] }
def k1m1 : Method := { name := "law", desc := "(IIIII)Z", sig := { parameters := [.int, .int, .int, .int, .int], returnType := some .boolean }, accessFlags := 9, code := some k1c1 }
/-- com/example/tabulon/tabulon/game/BoardSiteAtPinLaw -/
def k1 : Class := { plain "com/example/tabulon/tabulon/game/BoardSiteAtPinLaw" (some 0) with
  accessFlags := 49
  interfaces := #[]
  cf := some (fileOf pool1 32 #[] #[{ accessFlags := 1, nameIndex := 5, descriptorIndex := 6, attributes := #[] }, { accessFlags := 9, nameIndex := 36, descriptorIndex := 37, attributes := #[] }] 49 2 #[] #[])
  fields := #[]
  methods := #[k1m0, k1m1]
  instanceTypes := #[]
  staticTypes := #[]
  resolved := Array.replicate 43 none
  statics := none }

def pool2 : Array CpInfo := pool [(1, .class_ 2), (0, u "java/lang/constant/Constable"), (0, .class_ 4), (0, u "java/lang/Object")] 6

/-- java/lang/constant/Constable -/
def k2 : Class := { plain "java/lang/constant/Constable" (some 0) with
  accessFlags := 1537
  interfaces := #[]
  cf := some (fileOf pool2 1 #[] #[] 1537 3 #[] #[])
  fields := #[]
  methods := #[]
  instanceTypes := #[]
  staticTypes := #[]
  resolved := Array.replicate 11 none
  statics := none }

def pool3 : Array CpInfo := pool [(1, .class_ 2), (0, u "java/lang/Comparable"), (0, .class_ 4), (0, u "java/lang/Object")] 7

/-- java/lang/Comparable -/
def k3 : Class := { plain "java/lang/Comparable" (some 0) with
  accessFlags := 1537
  interfaces := #[]
  cf := some (fileOf pool3 1 #[] #[] 1537 3 #[] #[])
  fields := #[]
  methods := #[]
  instanceTypes := #[]
  staticTypes := #[]
  resolved := Array.replicate 12 none
  statics := none }

def pool4 : Array CpInfo := pool [(1, .class_ 2), (0, u "java/io/Serializable"), (0, .class_ 4), (0, u "java/lang/Object")] 2

/-- java/io/Serializable -/
def k4 : Class := { plain "java/io/Serializable" (some 0) with
  accessFlags := 1537
  interfaces := #[]
  cf := some (fileOf pool4 1 #[] #[] 1537 3 #[] #[])
  fields := #[]
  methods := #[]
  instanceTypes := #[]
  staticTypes := #[]
  resolved := Array.replicate 7 none
  statics := none }

def pool5 : Array CpInfo := pool [(2, .class_ 4), (1, u "java/lang/Enum"), (0, u "name"), (0, u "Ljava/lang/String;"), (0, .fieldref 2 8), (0, .nameAndType 9 10), (0, u "ordinal"), (0, u "I"), (1, .class_ 14), (1, u "java/lang/Object"), (4, u "hash"), (86, .class_ 108), (1, u "java/lang/Enum$EnumDesc"), (2, .class_ 112), (0, u "java/lang/constant/Constable"), (0, .class_ 114), (0, u "java/lang/Comparable"), (0, .class_ 116), (0, u "java/io/Serializable"), (9, u "()I")] 77

def k5c0 : Code := { maxStack := 1, maxLocals := 1, code := jdk_37_method_2_code, exceptionTable := #[], attributes := #[] }
def k5m0 : Method := { name := "ordinal", desc := "()I", sig := { parameters := [], returnType := some .int }, accessFlags := 17, code := some k5c0 }
/-- java/lang/Enum -/
def k5 : Class := { plain "java/lang/Enum" (some 0) with
  accessFlags := 1057
  interfaces := #[2, 3, 4]
  cf := some (fileOf pool5 2 #[.nestMembers #[106]] #[{ accessFlags := 17, nameIndex := 9, descriptorIndex := 126, attributes := #[] }] 1057 12 #[111, 113, 115] #[{ accessFlags := 18, nameIndex := 5, descriptorIndex := 6, attributes := #[] }, { accessFlags := 18, nameIndex := 9, descriptorIndex := 10, attributes := #[] }, { accessFlags := 2, nameIndex := 19, descriptorIndex := 10, attributes := #[] }])
  fields := #[{ name := "name", type := (.object "java/lang/String"), accessFlags := 18, slot := 0, constantValue := 0 }, { name := "ordinal", type := .int, accessFlags := 18, slot := 1, constantValue := 0 }, { name := "hash", type := .int, accessFlags := 2, slot := 2, constantValue := 0 }]
  methods := #[k5m0]
  instanceTypes := #[(.object "java/lang/String"), .int, .int]
  staticTypes := #[]
  resolved := Array.replicate 204 none
  statics := none }

def pool6 : Array CpInfo := pool [(1, .class_ 2), (0, u "com/example/tabulon/tabulon/game/Board$Cells"), (2, u "SQUARE"), (0, u "Lcom/example/tabulon/tabulon/game/Board$Cells;"), (2, u "HEXAGON"), (2, u "$VALUES"), (0, u "[Lcom/example/tabulon/tabulon/game/Board$Cells;"), (6, .class_ 22), (1, u "java/lang/Enum"), (8, u "shape"), (0, u "Ljava/lang/String;"), (2, u "sides"), (0, u "Ljava/util/List;"), (60, .class_ 98), (0, u "com/example/tabulon/tabulon/game/Board")] 3

/-- com/example/tabulon/tabulon/game/Board$Cells -/
def k6 : Class := { plain "com/example/tabulon/tabulon/game/Board$Cells" (some 5) with
  accessFlags := 16433
  interfaces := #[]
  cf := some (fileOf pool6 1 #[.nestHost 97] #[] 16433 20 #[] #[{ accessFlags := 16409, nameIndex := 5, descriptorIndex := 6, attributes := #[] }, { accessFlags := 16409, nameIndex := 9, descriptorIndex := 6, attributes := #[] }, { accessFlags := 18, nameIndex := 31, descriptorIndex := 32, attributes := #[] }, { accessFlags := 18, nameIndex := 35, descriptorIndex := 36, attributes := #[] }, { accessFlags := 4122, nameIndex := 12, descriptorIndex := 13, attributes := #[] }])
  fields := #[{ name := "SQUARE", type := (.object "com/example/tabulon/tabulon/game/Board$Cells"), accessFlags := 16409, slot := 0, constantValue := 0 }, { name := "HEXAGON", type := (.object "com/example/tabulon/tabulon/game/Board$Cells"), accessFlags := 16409, slot := 1, constantValue := 0 }, { name := "shape", type := (.object "java/lang/String"), accessFlags := 18, slot := 3, constantValue := 0 }, { name := "sides", type := (.object "java/util/List"), accessFlags := 18, slot := 4, constantValue := 0 }, { name := "$VALUES", type := (.array (.object "com/example/tabulon/tabulon/game/Board$Cells")), accessFlags := 4122, slot := 2, constantValue := 0 }]
  methods := #[]
  instanceTypes := #[(.object "java/lang/String"), .int, .int, (.object "java/lang/String"), (.object "java/util/List")]
  staticTypes := #[(.object "com/example/tabulon/tabulon/game/Board$Cells"), (.object "com/example/tabulon/tabulon/game/Board$Cells"), (.array (.object "com/example/tabulon/tabulon/game/Board$Cells"))]
  resolved := Array.replicate 102 none
  statics := some 0 }

def pool7 : Array CpInfo := pool [(1, .methodref 2 3), (0, .class_ 4), (0, .nameAndType 5 6), (0, u "java/lang/Object"), (0, u "<init>"), (0, u "()V"), (7, .methodref 15 16), (0, .class_ 17), (0, .nameAndType 18 19), (0, u "com/example/tabulon/tabulon/game/Board$Direction"), (0, u "values"), (0, u "()[Lcom/example/tabulon/tabulon/game/Board$Direction;"), (2, .long 2147483647), (5, .fieldref 29 30), (0, .class_ 31), (0, .nameAndType 32 33), (0, u "com/example/tabulon/tabulon/game/Board"), (0, u "cells"), (0, u "Lcom/example/tabulon/tabulon/game/Board$Cells;"), (0, .fieldref 29 35), (0, .nameAndType 36 37), (0, u "rows"), (0, u "I"), (0, .fieldref 29 39), (0, .nameAndType 40 37), (0, u "columns"), (0, .fieldref 29 42), (0, .nameAndType 43 44), (0, u "steps"), (0, u "[I"), (0, .methodref 15 46), (0, .nameAndType 47 48), (0, u "ordinal"), (0, u "()I"), (0, .fieldref 15 50), (0, .nameAndType 51 37), (0, u "columnStep"), (0, .fieldref 15 53), (0, .nameAndType 54 37), (0, u "rowStep"), (0, .methodref 29 56), (0, .nameAndType 57 58), (0, u "jump"), (0, u "(III)I"), (0, .methodref 29 60), (0, .nameAndType 61 62), (0, u "column"), (0, u "(I)I"), (1, .class_ 66), (1, u "com/example/tabulon/tabulon/game/Board$Cells"), (1, .methodref 29 69), (0, .nameAndType 70 62), (0, u "row"), (4, u "HEXAGON_ROW_HEIGHT"), (0, u "D"), (60, u "(Lcom/example/tabulon/tabulon/game/Board$Cells;II)V"), (11, u "siteAt"), (0, u "(II)I")] 27

def k7c0 : Code := { maxStack := 6, maxLocals := 10, code := prog_45_method_1_code, exceptionTable := #[], attributes := #[] }
def k7m0 : Method := { name := "<init>", desc := "(Lcom/example/tabulon/tabulon/game/Board$Cells;II)V", sig := { parameters := [(.object "com/example/tabulon/tabulon/game/Board$Cells"), .int, .int], returnType := none }, accessFlags := 1, code := some k7c0 }
def k7c1 : Code := { maxStack := 2, maxLocals := 2, code := prog_45_method_10_code, exceptionTable := #[], attributes := #[] }
def k7m1 : Method := { name := "column", desc := "(I)I", sig := { parameters := [.int], returnType := some .int }, accessFlags := 1, code := some k7c1 }
def k7c2 : Code := { maxStack := 2, maxLocals := 2, code := prog_45_method_11_code, exceptionTable := #[], attributes := #[] }
def k7m2 : Method := { name := "row", desc := "(I)I", sig := { parameters := [.int], returnType := some .int }, accessFlags := 1, code := some k7c2 }
def k7c3 : Code := { maxStack := 2, maxLocals := 4, code := prog_45_method_12_code, exceptionTable := #[], attributes := #[] }
def k7m3 : Method := { name := "siteAt", desc := "(II)I", sig := { parameters := [.int, .int], returnType := some .int }, accessFlags := 1, code := some k7c3 }
def k7c4 : Code := { maxStack := 4, maxLocals := 9, code := prog_45_method_13_code, exceptionTable := #[], attributes := #[] }
def k7m4 : Method := { name := "jump", desc := "(III)I", sig := { parameters := [.int, .int, .int], returnType := some .int }, accessFlags := 1, code := some k7c4 }
/-- com/example/tabulon/tabulon/game/Board -/
def k7 : Class := { plain "com/example/tabulon/tabulon/game/Board" (some 0) with
  accessFlags := 49
  interfaces := #[]
  cf := some (fileOf pool7 29 #[.nestMembers #[64, 15]] #[{ accessFlags := 1, nameIndex := 5, descriptorIndex := 137, attributes := #[] }, { accessFlags := 1, nameIndex := 61, descriptorIndex := 62, attributes := #[] }, { accessFlags := 1, nameIndex := 70, descriptorIndex := 62, attributes := #[] }, { accessFlags := 1, nameIndex := 149, descriptorIndex := 150, attributes := #[] }, { accessFlags := 1, nameIndex := 57, descriptorIndex := 58, attributes := #[] }] 49 2 #[] #[{ accessFlags := 26, nameIndex := 75, descriptorIndex := 76, attributes := #[] }, { accessFlags := 18, nameIndex := 32, descriptorIndex := 33, attributes := #[] }, { accessFlags := 18, nameIndex := 36, descriptorIndex := 37, attributes := #[] }, { accessFlags := 18, nameIndex := 40, descriptorIndex := 37, attributes := #[] }, { accessFlags := 18, nameIndex := 43, descriptorIndex := 44, attributes := #[] }])
  fields := #[{ name := "HEXAGON_ROW_HEIGHT", type := .double, accessFlags := 26, slot := 0, constantValue := 0 }, { name := "cells", type := (.object "com/example/tabulon/tabulon/game/Board$Cells"), accessFlags := 18, slot := 0, constantValue := 0 }, { name := "rows", type := .int, accessFlags := 18, slot := 1, constantValue := 0 }, { name := "columns", type := .int, accessFlags := 18, slot := 2, constantValue := 0 }, { name := "steps", type := (.array .int), accessFlags := 18, slot := 3, constantValue := 0 }]
  methods := #[k7m0, k7m1, k7m2, k7m3, k7m4]
  instanceTypes := #[(.object "com/example/tabulon/tabulon/game/Board$Cells"), .int, .int, (.array .int)]
  staticTypes := #[.double]
  resolved := ((Array.replicate 178 none).set! 49 (some (.field 8 9))).set! 52 (some (.field 8 10))
  statics := none }

def pool8 : Array CpInfo := pool [(1, .class_ 2), (0, u "com/example/tabulon/tabulon/game/Board$Direction"), (2, u "N"), (0, u "Lcom/example/tabulon/tabulon/game/Board$Direction;"), (2, u "NE"), (2, u "E"), (2, u "SE"), (2, u "S"), (2, u "SW"), (2, u "W"), (2, u "NW"), (0, .fieldref 1 29), (0, .nameAndType 30 31), (0, u "$VALUES"), (0, u "[Lcom/example/tabulon/tabulon/game/Board$Direction;"), (0, .methodref 33 34), (0, .class_ 31), (0, .nameAndType 35 36), (0, u "clone"), (0, u "()Ljava/lang/Object;"), (1, .class_ 40), (1, u "java/lang/Enum"), (8, u "columnStep"), (0, u "I"), (2, u "rowStep"), (2, u "CLOCKWISE"), (22, u "()[Lcom/example/tabulon/tabulon/game/Board$Direction;"), (2, u "values"), (14, .class_ 98), (0, u "com/example/tabulon/tabulon/game/Board")] 2

def k8c0 : Code := { maxStack := 1, maxLocals := 0, code := prog_47_method_1_code, exceptionTable := #[], attributes := #[] }
def k8m0 : Method := { name := "values", desc := "()[Lcom/example/tabulon/tabulon/game/Board$Direction;", sig := { parameters := [], returnType := some (.array (.object "com/example/tabulon/tabulon/game/Board$Direction")) }, accessFlags := 9, code := some k8c0 }
/-- com/example/tabulon/tabulon/game/Board$Direction -/
def k8 : Class := { plain "com/example/tabulon/tabulon/game/Board$Direction" (some 5) with
  accessFlags := 16433
  interfaces := #[]
  cf := some (fileOf pool8 1 #[.nestHost 97] #[{ accessFlags := 9, nameIndex := 82, descriptorIndex := 79, attributes := #[] }] 16433 38 #[] #[{ accessFlags := 16409, nameIndex := 5, descriptorIndex := 6, attributes := #[] }, { accessFlags := 16409, nameIndex := 9, descriptorIndex := 6, attributes := #[] }, { accessFlags := 16409, nameIndex := 12, descriptorIndex := 6, attributes := #[] }, { accessFlags := 16409, nameIndex := 15, descriptorIndex := 6, attributes := #[] }, { accessFlags := 16409, nameIndex := 18, descriptorIndex := 6, attributes := #[] }, { accessFlags := 16409, nameIndex := 21, descriptorIndex := 6, attributes := #[] }, { accessFlags := 16409, nameIndex := 24, descriptorIndex := 6, attributes := #[] }, { accessFlags := 16409, nameIndex := 27, descriptorIndex := 6, attributes := #[] }, { accessFlags := 26, nameIndex := 56, descriptorIndex := 31, attributes := #[] }, { accessFlags := 18, nameIndex := 49, descriptorIndex := 50, attributes := #[] }, { accessFlags := 18, nameIndex := 53, descriptorIndex := 50, attributes := #[] }, { accessFlags := 4122, nameIndex := 30, descriptorIndex := 31, attributes := #[] }])
  fields := #[{ name := "N", type := (.object "com/example/tabulon/tabulon/game/Board$Direction"), accessFlags := 16409, slot := 0, constantValue := 0 }, { name := "NE", type := (.object "com/example/tabulon/tabulon/game/Board$Direction"), accessFlags := 16409, slot := 1, constantValue := 0 }, { name := "E", type := (.object "com/example/tabulon/tabulon/game/Board$Direction"), accessFlags := 16409, slot := 2, constantValue := 0 }, { name := "SE", type := (.object "com/example/tabulon/tabulon/game/Board$Direction"), accessFlags := 16409, slot := 3, constantValue := 0 }, { name := "S", type := (.object "com/example/tabulon/tabulon/game/Board$Direction"), accessFlags := 16409, slot := 4, constantValue := 0 }, { name := "SW", type := (.object "com/example/tabulon/tabulon/game/Board$Direction"), accessFlags := 16409, slot := 5, constantValue := 0 }, { name := "W", type := (.object "com/example/tabulon/tabulon/game/Board$Direction"), accessFlags := 16409, slot := 6, constantValue := 0 }, { name := "NW", type := (.object "com/example/tabulon/tabulon/game/Board$Direction"), accessFlags := 16409, slot := 7, constantValue := 0 }, { name := "CLOCKWISE", type := (.array (.object "com/example/tabulon/tabulon/game/Board$Direction")), accessFlags := 26, slot := 8, constantValue := 0 }, { name := "columnStep", type := .int, accessFlags := 18, slot := 3, constantValue := 0 }, { name := "rowStep", type := .int, accessFlags := 18, slot := 4, constantValue := 0 }, { name := "$VALUES", type := (.array (.object "com/example/tabulon/tabulon/game/Board$Direction")), accessFlags := 4122, slot := 9, constantValue := 0 }]
  methods := #[k8m0]
  instanceTypes := #[(.object "java/lang/String"), .int, .int, .int, .int]
  staticTypes := #[(.object "com/example/tabulon/tabulon/game/Board$Direction"), (.object "com/example/tabulon/tabulon/game/Board$Direction"), (.object "com/example/tabulon/tabulon/game/Board$Direction"), (.object "com/example/tabulon/tabulon/game/Board$Direction"), (.object "com/example/tabulon/tabulon/game/Board$Direction"), (.object "com/example/tabulon/tabulon/game/Board$Direction"), (.object "com/example/tabulon/tabulon/game/Board$Direction"), (.object "com/example/tabulon/tabulon/game/Board$Direction"), (.array (.object "com/example/tabulon/tabulon/game/Board$Direction")), (.array (.object "com/example/tabulon/tabulon/game/Board$Direction"))]
  resolved := Array.replicate 101 none
  statics := some 1 }

def pool9 : Array CpInfo := pool [(1, .class_ 2), (0, u "java/lang/Cloneable"), (0, .class_ 4), (0, u "java/lang/Object")] 2

/-- java/lang/Cloneable -/
def k9 : Class := { plain "java/lang/Cloneable" (some 0) with
  accessFlags := 1537
  interfaces := #[]
  cf := some (fileOf pool9 1 #[] #[] 1537 3 #[] #[])
  fields := #[]
  methods := #[]
  instanceTypes := #[]
  staticTypes := #[]
  resolved := Array.replicate 7 none
  statics := none }

/-- the primitive byte -/
def k10 : Class := { plain "byte" none with kind := .primitive 'B', accessFlags := 0x411 }
/-- [B -/
def k11 : Class := { plain "[B" (some 0) with kind := .array 10 .byte, interfaces := #[9, 4], accessFlags := 1041 }

/-- the primitive int -/
def k12 : Class := { plain "int" none with kind := .primitive 'I', accessFlags := 0x411 }
/-- [I -/
def k13 : Class := { plain "[I" (some 0) with kind := .array 12 .int, interfaces := #[9, 4], accessFlags := 1041 }

/-- [Lcom/example/tabulon/tabulon/game/Board$Direction; -/
def k14 : Class := { plain "[Lcom/example/tabulon/tabulon/game/Board$Direction;" (some 0) with kind := .array 8 (.object "com/example/tabulon/tabulon/game/Board$Direction"), interfaces := #[9, 4], accessFlags := 1041 }

def heap : Heap := #[{ cls := 6, slots := #[.ref 3, .ref 12, .null], vm := .statics 6 },
  { cls := 8, slots := #[.ref 4, .ref 5, .ref 6, .ref 7, .ref 8, .ref 9, .ref 10, .ref 11, .null, .ref 2], vm := .statics 8 },
  { cls := 14, slots := #[.ref 4, .ref 5, .ref 6, .ref 7, .ref 8, .ref 9, .ref 10, .ref 11], vm := .none },
  { cls := 6, slots := #[.null, .int 0, .int 0, .null, .null], vm := .none },
  { cls := 8, slots := #[.null, .int 0, .int 0, .int 0, .int 1], vm := .none },
  { cls := 8, slots := #[.null, .int 1, .int 0, .int 1, .int 1], vm := .none },
  { cls := 8, slots := #[.null, .int 2, .int 0, .int 1, .int 0], vm := .none },
  { cls := 8, slots := #[.null, .int 3, .int 0, .int 1, .int (-1)], vm := .none },
  { cls := 8, slots := #[.null, .int 4, .int 0, .int 0, .int (-1)], vm := .none },
  { cls := 8, slots := #[.null, .int 5, .int 0, .int (-1), .int (-1)], vm := .none },
  { cls := 8, slots := #[.null, .int 6, .int 0, .int (-1), .int 0], vm := .none },
  { cls := 8, slots := #[.null, .int 7, .int 0, .int (-1), .int 1], vm := .none },
  { cls := 6, slots := #[.null, .int 0, .int 0, .null, .null], vm := .none }]
def classes : Array Class := #[k0, k1, k2, k3, k4, k5, k6, k7, k8, k9, k10, k11, k12, k13, k14]
def interned : List (Array UInt16 × Addr) := []
def slotsUsed : Nat := 71
def theMethod : MethodId := ⟨1, 1⟩
def args0 : Array Value := #[.int 5, .int 6, .int 7, .int 8, .int 3]
def aboutOver (below : List Frame) : State where
  vm := { classes := classes, interned := interned.toArray }
  heap := heap
  slotsUsed := slotsUsed
  threads := #[{ frames := .invoking theMethod args0 :: below }]
def below0 : List Frame := [.native { method := ⟨0, 0⟩, args := #[] }]
def about1 : State := aboutOver below0
def p0 : Program := .bare "" "" ""
def e0 : Env := launch0.env 0 0 0
theorem w_frames : about1.frames = Frame.invoking theMethod args0 :: below0 := rfl
set_option maxRecDepth 65536 in
theorem w_args : argsFit about1.vm theMethod args0 = true := by decide +kernel
set_option maxRecDepth 65536 in
theorem w_heap : heapFits about1 = true := by decide +kernel
set_option maxRecDepth 65536 in
theorem w_runnable : about1.curStatus? = some .runnable := by decide +kernel
set_option maxRecDepth 65536 in
theorem w_alone : about1.alone = true := by decide +kernel
set_option maxRecDepth 65536 in
theorem w_named : about1.methodNamed? x = some theMethod := by decide +kernel
set_option maxRecDepth 65536 in
theorem w_hears : about1.hears theMethod below0 = true := by decide +kernel
set_option maxRecDepth 65536 in
theorem w_ripe : about1.ripe theMethod args0 below0 = true := by decide +kernel
theorem w_running : about1.status = .running := rfl
set_option maxRecDepth 65536 in
theorem w_room : about1.hasRoom e0.platform room_1 = true :=
  launch0.hasRoom_least _ room_1 (by decide +kernel) (by decide +kernel) (by decide +kernel) (by decide +kernel) (by decide +kernel) (by decide +kernel)
theorem allAtoms_all (ts : List Jvm.Cond) (a : Array Jvm.Value) (st : Jvm.State) : (allAtoms ts).before a st = ts.all (fun c => c.before a st) := by
  induction ts with
  | nil => rfl
  | cons c t ih =>
    show (Jvm.Cond.and c (allAtoms t)).before a st = _
    rw [Jvm.Cond.before_and, ih, List.all_cons]
def words1 : List Jvm.Cond := Jvm.Cond.code x code maxLocals ret :: tables_1
/-- a 'code' word, met by the world's own term for the bytes: nothing is compared byte by byte -/
theorem code_word {y : MethodName} {bytes : ByteArray} {mx : Nat} {rt : Option FieldType} {a : Array Value} {s : State} {m : MethodId} {meth : Method} {c : Code} (h1 : s.methodNamed? y = some m) (h2 : s.vm.method? m = some meth) (h3 : meth.code = some c) (h4 : c.code = bytes)
    (h5 : (c.maxLocals == mx && c.exceptionTable.isEmpty && decide (c.maxStack ≤ mostOperands) && decide (meth.sig.returnType = rt) && !meth.locks && decide (parseMethodDescriptor y.desc = some meth.sig)) = true) : (Jvm.Cond.code y bytes mx rt).before a s = true := by
  simp only [Bool.and_eq_true, beq_iff_eq, Bool.not_eq_true', decide_eq_true_eq] at h5
  obtain ⟨⟨⟨⟨⟨g1, g2⟩, g3⟩, g4⟩, g5⟩, g6⟩ := h5
  simp [Cond.before, Cond.holds, Cond.value, h1, h2, h3, h4, g1, g2, g3, g4, g5, g6]
def isCode : Jvm.Cond → Bool
  | .code _ _ _ _ => true
  | _ => false
theorem all_split {L : List Jvm.Cond} {P : Jvm.Cond → Bool} (h1 : L.all (fun c => isCode c || P c) = true) (h2 : ∀ c ∈ L.filter isCode, P c = true) : L.all P = true := by
  refine List.all_eq_true.mpr fun c hc => ?_
  have h := List.all_eq_true.mp h1 c hc
  rcases Bool.eq_false_or_eq_true (isCode c) with hi | hi
  · exact h2 c (List.mem_filter.mpr ⟨hc, hi⟩)
  · simpa [hi] using h
set_option maxRecDepth 65536 in
theorem w_c0 : (Jvm.Cond.code x code maxLocals ret).before args0 about1 = true := code_word (m := ⟨1, 1⟩) (meth := k1m1) (c := k1c1) (by decide +kernel) rfl rfl rfl (by decide +kernel)
set_option maxRecDepth 65536 in
theorem w_c1 : (Jvm.Cond.code ({ cls := "com/example/tabulon/tabulon/game/Board", name := "<init>", desc := "(Lcom/example/tabulon/tabulon/game/Board$Cells;II)V" } : Jvm.MethodName) prog_45_method_1_code (10 : Nat) (Option.none : Option Jvm.ClassFile.FieldType)).before args0 about1 = true := code_word (m := ⟨7, 0⟩) (meth := k7m0) (c := k7c0) (by decide +kernel) rfl rfl rfl (by decide +kernel)
set_option maxRecDepth 65536 in
theorem w_c2 : (Jvm.Cond.code ({ cls := "java/lang/Object", name := "<init>", desc := "()V" } : Jvm.MethodName) object_method_1_code (1 : Nat) (Option.none : Option Jvm.ClassFile.FieldType)).before args0 about1 = true := code_word (m := ⟨0, 0⟩) (meth := k0m0) (c := k0c0) (by decide +kernel) rfl rfl rfl (by decide +kernel)
set_option maxRecDepth 65536 in
theorem w_c3 : (Jvm.Cond.code ({ cls := "com/example/tabulon/tabulon/game/Board$Direction", name := "values", desc := "()[Lcom/example/tabulon/tabulon/game/Board$Direction;" } : Jvm.MethodName) prog_47_method_1_code (0 : Nat) (Option.some (Jvm.ClassFile.FieldType.array (Jvm.ClassFile.FieldType.object "com/example/tabulon/tabulon/game/Board$Direction")))).before args0 about1 = true := code_word (m := ⟨8, 0⟩) (meth := k8m0) (c := k8c0) (by decide +kernel) rfl rfl rfl (by decide +kernel)
set_option maxRecDepth 65536 in
theorem w_c4 : (Jvm.Cond.code ({ cls := "java/lang/Enum", name := "ordinal", desc := "()I" } : Jvm.MethodName) jdk_37_method_2_code (1 : Nat) (Option.some Jvm.ClassFile.FieldType.int)).before args0 about1 = true := code_word (m := ⟨5, 0⟩) (meth := k5m0) (c := k5c0) (by decide +kernel) rfl rfl rfl (by decide +kernel)
set_option maxRecDepth 65536 in
theorem w_c5 : (Jvm.Cond.code ({ cls := "com/example/tabulon/tabulon/game/Board", name := "jump", desc := "(III)I" } : Jvm.MethodName) prog_45_method_13_code (9 : Nat) (Option.some Jvm.ClassFile.FieldType.int)).before args0 about1 = true := code_word (m := ⟨7, 4⟩) (meth := k7m4) (c := k7c4) (by decide +kernel) rfl rfl rfl (by decide +kernel)
set_option maxRecDepth 65536 in
theorem w_c6 : (Jvm.Cond.code ({ cls := "com/example/tabulon/tabulon/game/Board", name := "column", desc := "(I)I" } : Jvm.MethodName) prog_45_method_10_code (2 : Nat) (Option.some Jvm.ClassFile.FieldType.int)).before args0 about1 = true := code_word (m := ⟨7, 1⟩) (meth := k7m1) (c := k7c1) (by decide +kernel) rfl rfl rfl (by decide +kernel)
set_option maxRecDepth 65536 in
theorem w_c7 : (Jvm.Cond.code ({ cls := "com/example/tabulon/tabulon/game/Board", name := "row", desc := "(I)I" } : Jvm.MethodName) prog_45_method_11_code (2 : Nat) (Option.some Jvm.ClassFile.FieldType.int)).before args0 about1 = true := code_word (m := ⟨7, 2⟩) (meth := k7m2) (c := k7c2) (by decide +kernel) rfl rfl rfl (by decide +kernel)
set_option maxRecDepth 65536 in
theorem w_c8 : (Jvm.Cond.code ({ cls := "com/example/tabulon/tabulon/game/Board", name := "siteAt", desc := "(II)I" } : Jvm.MethodName) prog_45_method_12_code (4 : Nat) (Option.some Jvm.ClassFile.FieldType.int)).before args0 about1 = true := code_word (m := ⟨7, 3⟩) (meth := k7m3) (c := k7c3) (by decide +kernel) rfl rfl rfl (by decide +kernel)
def codes1 : List Jvm.Cond := [Jvm.Cond.code x code maxLocals ret, Jvm.Cond.code ({ cls := "com/example/tabulon/tabulon/game/Board", name := "<init>", desc := "(Lcom/example/tabulon/tabulon/game/Board$Cells;II)V" } : Jvm.MethodName) prog_45_method_1_code (10 : Nat) (Option.none : Option Jvm.ClassFile.FieldType), Jvm.Cond.code ({ cls := "java/lang/Object", name := "<init>", desc := "()V" } : Jvm.MethodName) object_method_1_code (1 : Nat) (Option.none : Option Jvm.ClassFile.FieldType), Jvm.Cond.code ({ cls := "com/example/tabulon/tabulon/game/Board$Direction", name := "values", desc := "()[Lcom/example/tabulon/tabulon/game/Board$Direction;" } : Jvm.MethodName) prog_47_method_1_code (0 : Nat) (Option.some (Jvm.ClassFile.FieldType.array (Jvm.ClassFile.FieldType.object "com/example/tabulon/tabulon/game/Board$Direction"))), Jvm.Cond.code ({ cls := "java/lang/Enum", name := "ordinal", desc := "()I" } : Jvm.MethodName) jdk_37_method_2_code (1 : Nat) (Option.some Jvm.ClassFile.FieldType.int), Jvm.Cond.code ({ cls := "com/example/tabulon/tabulon/game/Board", name := "jump", desc := "(III)I" } : Jvm.MethodName) prog_45_method_13_code (9 : Nat) (Option.some Jvm.ClassFile.FieldType.int), Jvm.Cond.code ({ cls := "com/example/tabulon/tabulon/game/Board", name := "column", desc := "(I)I" } : Jvm.MethodName) prog_45_method_10_code (2 : Nat) (Option.some Jvm.ClassFile.FieldType.int), Jvm.Cond.code ({ cls := "com/example/tabulon/tabulon/game/Board", name := "row", desc := "(I)I" } : Jvm.MethodName) prog_45_method_11_code (2 : Nat) (Option.some Jvm.ClassFile.FieldType.int), Jvm.Cond.code ({ cls := "com/example/tabulon/tabulon/game/Board", name := "siteAt", desc := "(II)I" } : Jvm.MethodName) prog_45_method_12_code (4 : Nat) (Option.some Jvm.ClassFile.FieldType.int)]
set_option maxRecDepth 65536 in
theorem codes_eq : words1.filter isCode = codes1 := rfl
theorem w_codes : ∀ c ∈ words1.filter isCode, c.before args0 about1 = true := by
  rw [codes_eq]
  intro c hc
  simp only [codes1, List.mem_cons, List.not_mem_nil, or_false] at hc
  rcases hc with rfl | rfl | rfl | rfl | rfl | rfl | rfl | rfl | rfl
  · exact w_c0
  · exact w_c1
  · exact w_c2
  · exact w_c3
  · exact w_c4
  · exact w_c5
  · exact w_c6
  · exact w_c7
  · exact w_c8
set_option maxRecDepth 65536 in
theorem w_t1 : (words1.take 24).all (fun c => isCode c || c.before args0 about1) = true := by decide +kernel
set_option maxRecDepth 65536 in
theorem w_t2 : ((words1.drop 24).take 24).all (fun c => isCode c || c.before args0 about1) = true := by decide +kernel
set_option maxRecDepth 65536 in
theorem w_t3 : (((words1.drop 24).drop 24).take 24).all (fun c => isCode c || c.before args0 about1) = true := by decide +kernel
set_option maxRecDepth 65536 in
theorem w_t4 : (((words1.drop 24).drop 24).drop 24).all (fun c => isCode c || c.before args0 about1) = true := by decide +kernel
theorem w_tables : (allAtoms (Jvm.Cond.code x code maxLocals ret :: tables_1)).before args0 about1 = true := by
  rw [allAtoms_all]
  show words1.all (fun c => c.before args0 about1) = true
  refine all_split ?_ w_codes
  rw [← List.take_append_drop 24 words1, List.all_append, w_t1, ← List.take_append_drop 24 (words1.drop 24), List.all_append, w_t2, ← List.take_append_drop 24 ((words1.drop 24).drop 24), List.all_append, w_t3, w_t4]
  rfl
set_option maxRecDepth 65536 in
theorem w_case : (Jvm.Cond.and given_1 narrow_1).before args0 about1 = true := by decide +kernel
theorem w_applies : (headSpec (Jvm.Cond.code x code maxLocals ret :: tables_1) room_1).applies x e0.platform about1 = true :=
  (Spec.applies_iff w_frames).mpr ⟨w_running, w_runnable, w_alone, w_named, w_hears, w_ripe, w_room, w_tables⟩
theorem atStart : AtStart classFile x code maxLocals ret World_1 tables_1 room_1 Calls_1 rest_1 Pre_1 launch0 p0 e0 about1 theMethod args0 below0 :=
  ⟨lists_1, trivial, launch0.admits_env _ _ _, launch0.least_env, fairChoices_fair.cas, fairChoices_fair.clock, w_frames, w_args, w_heap, w_applies, trivial, trivial, w_case⟩
end start1
theorem witness_1 : WitnessClaimed_1 := ⟨start1.p0, start1.e0, start1.about1, start1.theMethod, start1.args0, start1.below0, start1.atStart⟩
end Jvm.Pilot.@@N@@
