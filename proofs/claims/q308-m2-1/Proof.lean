import JvmDerived
import JvmDerived.Pilot.@@N@@Statement
import JvmDerived.Pilot.@@N@@Code
set_option linter.unusedVariables false
set_option linter.unusedSimpArgs false
namespace Jvm.RoadKit
open Sem ClassFile Op Lib Jvm.Stand Jvm.Free Jvm.LawKit
section Own
variable {p : Program} {l : Launch} {e : Env} {R : Room} {s : State} {m : MethodId} {args : Array Value} {below : List Frame} {meth : Method} {c : Code} {T : State} {locs : List Loc} {cells slots : Nat} {Z : State} {h h' : Heap}
/-- from U the run comes to an end that G allows -/
def Go (p : Program) (e : Env) (below : List Frame) (G : Outcome → State → Prop) (U : State) : Prop := ∃ s₂ o, Steps p.tables e below U s₂ ∧ s₂.status = .running ∧ Ended s₂ below o ∧ G o s₂
theorem Go.st {G : Outcome → State → Prop} {U V : State} (h : ∀ t, Steps p.tables e below V t → Steps p.tables e below U t) (k : Go p e below G V) : Go p e below G U := by
  obtain ⟨s₂, o, a, r⟩ := k; exact ⟨s₂, o, h _ a, r⟩
theorem Go.tr {G : Outcome → State → Prop} {U V : State} (h : Steps p.tables e below U V) (k : Go p e below G V) : Go p e below G U := by
  obtain ⟨s₂, o, a, r⟩ := k; exact ⟨s₂, o, h.trans a, r⟩
theorem Go.en {G : Outcome → State → Prop} {g g' : JFrame} (q : g = g') (k : Go p e below G (T.setTop g')) : Go p e below G (T.setTop g) := q ▸ k
theorem Go.ret {Q : Option Value → Heap → List Loc → Prop} {K N : Nat} {U : State} (X : Stand p l e R s m args below meth c T locs cells slots) {v : Option Value} (hv : meth.sig.returnType = none → v = none) (hlk : meth.locks = false)
    (st : ∀ fs, (∀ (f : JFrame) (acts : List Action), f.method = m → f.locked = none → f.entered = [] → (doReturn e (T.setTop f) acts v).1 = T.setFrames fs) → Steps p.tables e below U (T.setFrames fs)) (eT : T.heap = h) (hQ : Q v h locs) (hk : cells ≤ K) (hn : slots ≤ N) :
    Go p e below (fun o s₂ => ∃ v L, o = .returned v ∧ Q v s₂.heap L ∧ FrameEnd s o s₂ L K N) U := by
  subst eT
  obtain ⟨fs, hr, hrun, hended, hW, hsame⟩ := X.leave hv hlk
  exact ⟨_, _, st fs hr, hrun, hended, _, _, rfl, hQ, ⟨_, rfl⟩, hW, hsame.mono hk hn⟩
theorem Go.retW {Q : Option Value → Heap → List Loc → Prop} {K N k0 : Nat} {U : State} {vm0 : Vm} (hS : s.Since vm0 k0) (hk0 : k0 ≤ h.size) (X : Stand p l e R (s.setVm vm0) m args below meth c T locs cells slots) {v : Option Value} (hv : meth.sig.returnType = none → v = none) (hlk : meth.locks = false)
    (st : ∀ fs, (∀ (f : JFrame) (acts : List Action), f.method = m → f.locked = none → f.entered = [] → (doReturn e (T.setTop f) acts v).1 = T.setFrames fs) → Steps p.tables e below U (T.setFrames fs)) (eT : T.heap = h) (hQ : Q v h locs) (hk : cells ≤ K) (hn : slots ≤ N) :
    Go p e below (fun o s₂ => ∃ v L, o = .returned v ∧ Q v s₂.heap L ∧ ReturnedEndW s o s₂ L K N) U := by
  subst eT
  obtain ⟨fs, hr, hrun, hended, hR⟩ := X.leaveW hS hk0 hv hlk
  exact ⟨_, _, st fs hr, hrun, hended, _, _, rfl, hQ, hR.1, hR.2.1, hR.2.2.1, hR.2.2.2.mono hk hn⟩
/-- RoadKit's backOfS for a callee that is told what the constants hold -/
theorem backOfSC {y : MethodName} {bytes : ByteArray} {maxL : Nat} {ret : Option FieldType} {rm : Room} {len W : Nat} {as' : Array Value} {Q : Option Value → Heap → List Loc → Prop} {EL : List (String × Nat)} {vm0 : Vm} {a0 : Array Value}
    (hM : MetFree l y (head1 [Cond.code y bytes maxL ret] rm) (fun a U => a = as' ∧ Z.Warmed39 U.vm ∧ U.heap = h ∧ CHv Z EL U.vm h) (fun _ _ _ _ _ => True) (fun _ U o U' => ∃ v L, o = .returned v ∧ Q v U'.heap L ∧ ReturnedEndW U o U' L rm.cells rm.slots))
    (hZ : Z.Warmed39 vm0) (wc : (Cond.code y bytes maxL ret).before a0 Z = true) (wz : (Cond.initialized y.cls).before a0 Z = true) (hf : rm.frames + 1 ≤ R.frames) (hl : W + (maxL + 11) + rm.locals ≤ R.locals) (hEL : EW Z a0 EL) (H : CHv Z EL vm0 h) :
    BackS l R p e below (s.setVm vm0) args y len W (fun A a => a = as' ∧ A.U.heap = h ∧ A.cells + rm.cells ≤ R.cells ∧ A.slots + rm.slots ≤ R.slots)
      (fun A _ v B => ∃ L, Q v B.U.heap L ∧ B.locs = A.locs ++ L ∧ B.cells = A.cells + rm.cells ∧ B.slots = A.slots + rm.slots) :=
  BackS.of_freeW (bytes := bytes) (maxL := maxL) (ret := ret) (E := fun _ _ o t L k n => k = rm.cells ∧ n = rm.slots ∧ ∃ v, o = .returned v ∧ Q v t.heap L) hM hf hl
    (fun m meth c A a Y hp => by
      have hU : Z.Warmed39 A.U.vm := wtrans (s := s.setVm vm0) hZ Y.warmed
      exact ⟨by show (Cond.and _ .tt).before a A.U = true; rw [Cond.before_and, mv hU wc]; rfl, mv hU wc, mv hU wz, hp.2.2.1, hp.2.2.2⟩)
    (fun m meth c A a g mk Y hp => ⟨hp.1, wtrans (s := s.setVm vm0) hZ Y.warmed, hp.2.1, (CHv.at Y hZ hEL H).1⟩) (fun _ _ _ _ _ _ _ _ _ => trivial)
    (fun _ _ _ _ ⟨v, L, h1, h2, h3⟩ => ⟨L, _, _, h3, rfl, rfl, v, h1, h2⟩)
    (fun m meth c A a g mk v t L k n Y hp _ _ ⟨e1, e2, v', e3, e4⟩ => by cases e3; subst e1 e2; exact ⟨L, e4, rfl, rfl, rfl⟩)
theorem staKeep0 {C n d : String} {v : Value} (F : Sta Z h C n d v) (K : Keep h h' []) : Sta Z h' C n d v := by
  obtain ⟨cf, i, k, f, st, cell, h1, h2, h3, h4, h5, r⟩ := F
  exact ⟨cf, i, k, f, st, cell, h1, h2, h3, h4, K.2.1 _ _ h5 nin0, r⟩
theorem staKeepE {C n d O : String} {v : Value} {a : Addr} (F : Sta Z h C n d v) (K : Keep h h' [a]) (E : Exa Z h a O) : Sta Z h' C n d v := by
  obtain ⟨cf, i, k, f, st, cell, h1, h2, h3, h4, h5, h6, r⟩ := F
  obtain ⟨c', k', e1, -, -, e4, -⟩ := E
  have ne : st ≠ a := fun q => by subst q; cases h5.symm.trans e1; rw [h6] at e4; cases e4
  exact ⟨cf, i, k, f, st, cell, h1, h2, h3, h4, K.2.1 _ _ h5 (ninS ne nin0), h6, r⟩
/-- getfield where the sheet says the reference resolved -/
theorem getFR (X : Stand p l e R s m args below meth c T locs cells slots) (hx : p.tables.exec = Jvm.exec) (hZ : Z.Warmed39 s.vm) {a0 : Array Value} {own O n d : String} {index : Nat} (hown : s.vm.findClass own = some m.cls) (w : (Cond.fieldRef own index O n d).before a0 Z = true)
    (eT : T.heap = h) {a : Addr} {v : Value} (F : Fld Z h a O n d v) {g : JFrame} (hg : g.method = m) {rest : List Value} (hs : g.stack = .ref a :: rest) (hd : decode c.code g.pc = .ok (.getfield index, 3)) :
    ∀ target, Steps p.tables e below (T.setTop { g with pc := g.pc + 3, stack := v :: rest }) target → Steps p.tables e below (T.setTop g) target := by
  intro target hrest
  obtain ⟨cell, cf, k, i, f, h1, h2, h3, h4, -, -, h7⟩ := F
  have hW : Z.Warmed39 T.vm := wtrans hZ X.warmed
  have q := Cond.fieldRef_warmed39 hW w
  have hcur : (Z.setVm T.vm).vm.findClass own = some m.cls := by
    show T.vm.findClass own = some m.cls
    rw [X.warmed.alike.findClass]; exact hown
  obtain ⟨c', k', i', f', hi, hready⟩ := Cond.fieldRef_spec hcur q
  obtain ⟨k2, hi2, -⟩ := State.fieldFound?_setVm (s := Z) hW.alike h2
  have q3 : (Z.setVm T.vm).fieldFound? O n d = some (cf, k2, i, f) := hi2
  cases hi.symm.trans q3
  subst hg
  jvm_step X.here [hx, hd, getfield.wp_ready (e := e) (s := T) (f := g) X.here.top hready h3 hs (by rw [eT]; exact h1) h4 h7]
  exact hrest
/-- an array of that kind and length, whatever it holds -/
def Arn (Z : State) (h : Heap) (a : Addr) (ty : FieldType) (z : Int32) : Prop := ∃ c : Cell, Arr Z h a c ty ∧ c.slots.size = z.toNatClampNeg ∧ ¬ z < 0
section Arn
variable {a b : Addr} {ty : FieldType} {z : Int32} {sl : Nat} {v : Value} {ws : List Addr}
theorem Arn.lt (F : Arn Z h a ty z) : a < h.size := by obtain ⟨c, A, -⟩ := F; exact A.lt
theorem Arn.nn (F : Arn Z h a ty z) : ¬ z < 0 := by obtain ⟨c, -, -, q⟩ := F; exact q
theorem Arn.ext (F : Arn Z h a ty z) (E : Ext h h') : Arn Z h' a ty z := by obtain ⟨c, A, r⟩ := F; exact ⟨c, A.ext E, r⟩
theorem Arn.other (F : Arn Z h b ty z) (W : Wr h h' a sl v) (q : b ≠ a) : Arn Z h' b ty z := by obtain ⟨c, A, r⟩ := F; exact ⟨c, A.other W q, r⟩
theorem Arn.keep (F : Arn Z h a ty z) (K : Keep h h' ws) (q : a ∉ ws) : Arn Z h' a ty z := by obtain ⟨c, A, r⟩ := F; exact ⟨c, ⟨K.2.1 a c A.1 q, A.2⟩, r⟩
theorem Arn.set {c : Cell} (A : Arr Z h a c ty) (S : c.slots.size = z.toNatClampNeg) (q : ¬ z < 0) (W : Wr h h' a sl v) : Arn Z h' a ty z := ⟨_, A.same W, by rw [sz_set]; exact S, q⟩
theorem Arv.arn {k : ClassId} {vs : List Value} {dv : Value} (F : Arv Z h a k ty z vs dv) : Arn Z h a ty z := by obtain ⟨c, A, -, S, q, -⟩ := F; exact ⟨c, A, S, q⟩
end Arn
theorem staKeepA {C n d : String} {v : Value} {a : Addr} {ty : FieldType} {z : Int32} (F : Sta Z h C n d v) (K : Keep h h' [a]) (E : Arn Z h a ty z) : Sta Z h' C n d v := by
  obtain ⟨cf, i, k, f, st, cell, h1, h2, h3, h4, h5, h6, r⟩ := F
  obtain ⟨c', A, -⟩ := E
  have e4 := A.plain
  have ne : st ≠ a := fun q => by subst q; cases h5.symm.trans A.1; rw [h6] at e4; cases e4
  exact ⟨cf, i, k, f, st, cell, h1, h2, h3, h4, K.2.1 _ _ h5 (ninS ne nin0), h6, r⟩
theorem own_nn {n : Int32} (h : 0 ≤ n.toInt) : ¬ n < 0 := by rw [Int32.lt_iff_toInt_lt]; show ¬ n.toInt < 0; omega
theorem own_cap {n : Int32} {k : Nat} (h : n.toInt ≤ k) : n.toNatClampNeg ≤ k := by simp only [Int32.toNatClampNeg]; omega
theorem own_inc {i z : Int32} (h0 : ¬ i < 0) (h : i < z) : ¬ (i + 1) < 0 ∧ (i + 1).toInt = i.toInt + 1 := by
  have h1 := c_iadd i 1; have h2 := rng32 z; have h3 := rng32 i; have h4 := rng32 (i + 1)
  rw [Int32.lt_iff_toInt_lt] at h0 h ⊢
  have e0 : (0 : Int32).toInt = 0 := rfl
  have e1 : (1 : Int32).toInt = 1 := rfl
  rw [e0] at h0 ⊢; rw [e1] at h1
  omega
theorem own_ge {i z : Int32} (h : z.toInt ≤ i.toInt) : ¬ i < z := by rw [Int32.lt_iff_toInt_lt]; omega
theorem staInt {args : Array Value} {C n d : String} {k : Int32} (h : (Cond.eq (.static C n d) (.int k)).value args Z none Z [] = some true) (hi : (Cond.initializedFor C n d).before args Z = true ∨ ((Cond.initialized C).before args Z = true ∧ (Cond.laysStatic C n d).before args Z = true)) : Sta Z Z.heap C n d (.int k) := by
  obtain ⟨x, y, e1, e2, k1, -⟩ := cmp_v (Or.inl h)
  have e3 : (Term.int k).eval args Z none [] Z = some (.int k) := Term.int_eval k
  cases e2.symm.trans e3
  cases x with
  | int z =>
    have q : (Cond.eq (.static C n d) (.int k)).value args Z none Z [] = some (decide (z = k)) := by simp [Cond.value, e1, e3]
    exact (gotT q h) ▸ Sta.start e1 hi
  | _ => simp [Kin, Value.isRef] at k1
theorem fldNull {args : Array Value} {t : Term} {C n d : String} {a : Addr} (ev : t.eval args Z none [] Z = some (.ref a)) (h : (Cond.eq (.field t C n d) .null).value args Z none Z [] = some true) : Fld Z Z.heap a C n d .null := by
  have e1 := null_v h
  rw [fld_at ev] at e1
  exact Fld.start e1
theorem fldStart {args : Array Value} {t : Term} {C n d : String} {a : Addr} {k : Int32} (ev : t.eval args Z none [] Z = some (.ref a)) (h : (Cond.eq (.field t C n d) (.int k)).value args Z none Z [] = some true) : Fld Z Z.heap a C n d (.int k) := by
  obtain ⟨x, y, e1, e2, k1, -⟩ := cmp_v (Or.inl h)
  rw [fld_at ev] at e1
  have e3 : (Term.int k).eval args Z none [] Z = some (.int k) := Term.int_eval k
  cases e2.symm.trans e3
  cases x with
  | int z =>
    have q : (Cond.eq (.field t C n d) (.int k)).value args Z none Z [] = some (decide (z = k)) := by simp [Cond.value, (fld_at ev).trans e1, e3]
    exact (gotT q h) ▸ Fld.start e1
  | _ => simp [Kin, Value.isRef] at k1
/-- the run stands at pc with these locals and this stack, and comes to an end that G allows -/
abbrev Gs (p : Program) (e : Env) (below : List Frame) (G : Outcome → State → Prop) (T : State) (m : MethodId) (pc : Nat) (ls : Array Slot) (st : List Value) : Prop := Go p e below G (T.setTop (mkF m pc ls st))
section Steps
variable {a0 : Array Value} {G : Outcome → State → Prop} {pc : Nat} {ls : Array Slot} {st : List Value}
theorem g_iloadN (X : Stand p l e R s m args below meth c T locs cells slots) (hx : p.tables.exec = Jvm.exec) {k : Fin 4} {v : Int32} (hd : decode c.code pc = .ok (.iload_n k, 1)) (hl : ls[k.val]? = some (.val (.int v))) (K : Gs p e below G T m (pc + 1) ls (.int v :: st)) : Gs p e below G T m pc ls st := Go.st (fun _ kk => XS.iloadN X.here hx rfl hd hl kk) K
theorem g_aloadN (X : Stand p l e R s m args below meth c T locs cells slots) (hx : p.tables.exec = Jvm.exec) {k : Fin 4} {v : Value} (hd : decode c.code pc = .ok (.aload_n k, 1)) (hl : ls[k.val]? = some (.val v)) (hv : v.isRef = true) (K : Gs p e below G T m (pc + 1) ls (v :: st)) : Gs p e below G T m pc ls st := Go.st (fun _ kk => XS.aloadN X.here hx rfl hd hl hv kk) K
theorem g_istoreN (X : Stand p l e R s m args below meth c T locs cells slots) (hx : p.tables.exec = Jvm.exec) {k : Fin 4} {x : Int32} {l' : Array Slot} (hd : decode c.code pc = .ok (.istore_n k, 1)) (hl : storeLocals ls k.val (.int x) = some l') (K : Gs p e below G T m (pc + 1) l' st) : Gs p e below G T m pc ls (.int x :: st) := Go.st (fun _ kk => XS.istoreN X.here hx rfl hd rfl hl kk) K
theorem g_astoreN (X : Stand p l e R s m args below meth c T locs cells slots) (hx : p.tables.exec = Jvm.exec) {k : Fin 4} {x : Value} {l' : Array Slot} (hd : decode c.code pc = .ok (.astore_n k, 1)) (hv : x.isRef = true) (hl : storeLocals ls k.val x = some l') (K : Gs p e below G T m (pc + 1) l' st) : Gs p e below G T m pc ls (x :: st) := Go.st (fun _ kk => XS.astoreN X.here hx rfl hd rfl hv hl kk) K
theorem g_iload (X : Stand p l e R s m args below meth c T locs cells slots) (hx : p.tables.exec = Jvm.exec) {k : Nat} {v : Int32} (hd : decode c.code pc = .ok (.iload k, 2)) (hl : ls[k]? = some (.val (.int v))) (K : Gs p e below G T m (pc + 2) ls (.int v :: st)) : Gs p e below G T m pc ls st := Go.st (fun _ kk => XS.iload X.here hx rfl hd hl kk) K
theorem g_aload (X : Stand p l e R s m args below meth c T locs cells slots) (hx : p.tables.exec = Jvm.exec) {k : Nat} {v : Value} (hd : decode c.code pc = .ok (.aload k, 2)) (hl : ls[k]? = some (.val v)) (hv : v.isRef = true) (K : Gs p e below G T m (pc + 2) ls (v :: st)) : Gs p e below G T m pc ls st := Go.st (fun _ kk => XS.aload X.here hx rfl hd hl hv kk) K
theorem g_istore (X : Stand p l e R s m args below meth c T locs cells slots) (hx : p.tables.exec = Jvm.exec) {k : Nat} {x : Int32} {l' : Array Slot} (hd : decode c.code pc = .ok (.istore k, 2)) (hl : storeLocals ls k (.int x) = some l') (K : Gs p e below G T m (pc + 2) l' st) : Gs p e below G T m pc ls (.int x :: st) := Go.st (fun _ kk => XS.istore X.here hx rfl hd rfl hl kk) K
theorem g_astore (X : Stand p l e R s m args below meth c T locs cells slots) (hx : p.tables.exec = Jvm.exec) {k : Nat} {x : Value} {l' : Array Slot} (hd : decode c.code pc = .ok (.astore k, 2)) (hv : x.isRef = true) (hl : storeLocals ls k x = some l') (K : Gs p e below G T m (pc + 2) l' st) : Gs p e below G T m pc ls (x :: st) := Go.st (fun _ kk => XS.astore X.here hx rfl hd rfl hv hl kk) K
theorem g_iconst (X : Stand p l e R s m args below meth c T locs cells slots) (hx : p.tables.exec = Jvm.exec) {i : Int} (z : Int32) (hd : decode c.code pc = .ok (.iconst i, 1)) (hz : Int32.ofInt i = z) (K : Gs p e below G T m (pc + 1) ls (.int z :: st)) : Gs p e below G T m pc ls st := Go.st (fun _ kk => XS.iconst X.here hx rfl hd <| by rw [hz]; exact kk) K
theorem g_bipush (X : Stand p l e R s m args below meth c T locs cells slots) (hx : p.tables.exec = Jvm.exec) {i : Int} (z : Int32) (hd : decode c.code pc = .ok (.bipush i, 2)) (hz : (Int8.ofInt i).toInt32 = z) (K : Gs p e below G T m (pc + 2) ls (.int z :: st)) : Gs p e below G T m pc ls st := Go.st (fun _ kk => XS.bipush X.here hx rfl hd <| by rw [hz]; exact kk) K
theorem g_sipush (X : Stand p l e R s m args below meth c T locs cells slots) (hx : p.tables.exec = Jvm.exec) {i : Int} (z : Int32) (hd : decode c.code pc = .ok (.sipush i, 3)) (hz : (Int16.ofInt i).toInt32 = z) (K : Gs p e below G T m (pc + 3) ls (.int z :: st)) : Gs p e below G T m pc ls st := Go.st (fun _ kk => XS.sipush X.here hx rfl hd <| by rw [hz]; exact kk) K
theorem g_aconstNull (X : Stand p l e R s m args below meth c T locs cells slots) (hx : p.tables.exec = Jvm.exec) (hd : decode c.code pc = .ok (.aconst_null, 1)) (K : Gs p e below G T m (pc + 1) ls (.null :: st)) : Gs p e below G T m pc ls st := Go.st (fun _ kk => XS.aconstNull X.here hx rfl hd kk) K
theorem g_isub (X : Stand p l e R s m args below meth c T locs cells slots) (hx : p.tables.exec = Jvm.exec) {x y : Int32} (hd : decode c.code pc = .ok (.isub, 1)) (K : Gs p e below G T m (pc + 1) ls (.int (x - y) :: st)) : Gs p e below G T m pc ls (.int y :: .int x :: st) := Go.st (fun _ kk => XS.isub X.here hx rfl hd rfl kk) K
theorem g_iand (X : Stand p l e R s m args below meth c T locs cells slots) (hx : p.tables.exec = Jvm.exec) {x y : Int32} (hd : decode c.code pc = .ok (.iand, 1)) (K : Gs p e below G T m (pc + 1) ls (.int (x &&& y) :: st)) : Gs p e below G T m pc ls (.int y :: .int x :: st) := Go.st (fun _ kk => XS.iand X.here hx rfl hd rfl kk) K
theorem g_ior (X : Stand p l e R s m args below meth c T locs cells slots) (hx : p.tables.exec = Jvm.exec) {x y : Int32} (hd : decode c.code pc = .ok (.ior, 1)) (K : Gs p e below G T m (pc + 1) ls (.int (x ||| y) :: st)) : Gs p e below G T m pc ls (.int y :: .int x :: st) := Go.st (fun _ kk => XS.ior X.here hx rfl hd rfl kk) K
theorem g_ishl (X : Stand p l e R s m args below meth c T locs cells slots) (hx : p.tables.exec = Jvm.exec) {x y : Int32} (hd : decode c.code pc = .ok (.ishl, 1)) (K : Gs p e below G T m (pc + 1) ls (.int (x <<< (y &&& 31)) :: st)) : Gs p e below G T m pc ls (.int y :: .int x :: st) := Go.st (fun _ kk => XS.ishl X.here hx rfl hd rfl kk) K
theorem g_ishr (X : Stand p l e R s m args below meth c T locs cells slots) (hx : p.tables.exec = Jvm.exec) {x y : Int32} (hd : decode c.code pc = .ok (.ishr, 1)) (K : Gs p e below G T m (pc + 1) ls (.int (x >>> (y &&& 31)) :: st)) : Gs p e below G T m pc ls (.int y :: .int x :: st) := Go.st (fun _ kk => XS.ishr X.here hx rfl hd rfl kk) K
theorem g_iushr (X : Stand p l e R s m args below meth c T locs cells slots) (hx : p.tables.exec = Jvm.exec) {x y : Int32} (hd : decode c.code pc = .ok (.iushr, 1)) (K : Gs p e below G T m (pc + 1) ls (.int ((x.toUInt32 >>> (y &&& 31).toUInt32).toInt32) :: st)) : Gs p e below G T m pc ls (.int y :: .int x :: st) := Go.st (fun _ kk => XS.iushr X.here hx rfl hd rfl kk) K
theorem g_i2b (X : Stand p l e R s m args below meth c T locs cells slots) (hx : p.tables.exec = Jvm.exec) {x : Int32} (hd : decode c.code pc = .ok (.i2b, 1)) (K : Gs p e below G T m (pc + 1) ls (.int (x.toInt8.toInt32) :: st)) : Gs p e below G T m pc ls (.int x :: st) := Go.st (fun _ kk => XS.i2b X.here hx rfl hd rfl kk) K
theorem g_i2c (X : Stand p l e R s m args below meth c T locs cells slots) (hx : p.tables.exec = Jvm.exec) {x : Int32} (hd : decode c.code pc = .ok (.i2c, 1)) (K : Gs p e below G T m (pc + 1) ls (.int (x.toUInt32.toUInt16.toUInt32.toInt32) :: st)) : Gs p e below G T m pc ls (.int x :: st) := Go.st (fun _ kk => XS.i2c X.here hx rfl hd rfl kk) K
theorem g_irem (X : Stand p l e R s m args below meth c T locs cells slots) (hx : p.tables.exec = Jvm.exec) {x y : Int32} (hd : decode c.code pc = .ok (.irem, 1)) (hy : ¬ y = 0) (K : Gs p e below G T m (pc + 1) ls (.int (x % y) :: st)) : Gs p e below G T m pc ls (.int y :: .int x :: st) := Go.st (fun _ kk => iremM (g := mkF m pc ls (.int y :: .int x :: st)) X hx rfl hd rfl hy kk) K
theorem g_dup (X : Stand p l e R s m args below meth c T locs cells slots) (hx : p.tables.exec = Jvm.exec) {x : Value} (hd : decode c.code pc = .ok (.dup, 1)) (hc : x.category = 1) (K : Gs p e below G T m (pc + 1) ls (x :: x :: st)) : Gs p e below G T m pc ls (x :: st) := Go.st (fun _ kk => XS.dup X.here hx rfl hd rfl hc kk) K
theorem g_pop (X : Stand p l e R s m args below meth c T locs cells slots) (hx : p.tables.exec = Jvm.exec) {x : Value} (hd : decode c.code pc = .ok (.pop, 1)) (hc : x.category = 1) (K : Gs p e below G T m (pc + 1) ls st) : Gs p e below G T m pc ls (x :: st) := Go.st (fun _ kk => XS.pop X.here hx rfl hd rfl hc kk) K
theorem g_goto (X : Stand p l e R s m args below meth c T locs cells slots) (hx : p.tables.exec = Jvm.exec) {o : Int} (pc' : Nat) (hd : decode c.code pc = .ok (.goto o, 3)) (ho : 0 ≤ (pc : Int) + o) (hp : ((pc : Int) + o).toNat = pc') (K : Gs p e below G T m pc' ls st) : Gs p e below G T m pc ls st := Go.st (fun _ kk => XS.goto X.here hx rfl rfl hd ho hp kk) K
theorem g_ifYes (X : Stand p l e R s m args below meth c T locs cells slots) (hx : p.tables.exec = Jvm.exec) {o : Int} {cd : ClassFile.Cond} {x : Int32} (pc' : Nat) (hd : decode c.code pc = .ok (.ifCond cd o, 3)) (hc : if_icmp.holds cd x 0 = true) (ho : 0 ≤ (pc : Int) + o) (hp : ((pc : Int) + o).toNat = pc') (K : Gs p e below G T m pc' ls st) : Gs p e below G T m pc ls (.int x :: st) := Go.st (fun _ kk => XS.ifYes X.here hx rfl rfl hd rfl ((if0 _ _).trans hc) ho hp kk) K
theorem g_icmpYes (X : Stand p l e R s m args below meth c T locs cells slots) (hx : p.tables.exec = Jvm.exec) {o : Int} {cd : ClassFile.Cond} {x y : Int32} (pc' : Nat) (hd : decode c.code pc = .ok (.if_icmp cd o, 3)) (hc : if_icmp.holds cd x y = true) (ho : 0 ≤ (pc : Int) + o) (hp : ((pc : Int) + o).toNat = pc') (K : Gs p e below G T m pc' ls st) : Gs p e below G T m pc ls (.int y :: .int x :: st) := Go.st (fun _ kk => XS.icmpYes X.here hx rfl rfl hd rfl hc ho hp kk) K
theorem g_ifNo (X : Stand p l e R s m args below meth c T locs cells slots) (hx : p.tables.exec = Jvm.exec) {cd : ClassFile.Cond} {o : Int} {x : Int32} (hd : decode c.code pc = .ok (.ifCond cd o, 3)) (hc : if_icmp.holds cd x 0 = false) (K : Gs p e below G T m (pc + 3) ls st) : Gs p e below G T m pc ls (.int x :: st) := Go.st (fun _ kk => XS.ifNo X.here hx rfl hd rfl ((if0 _ _).trans hc) kk) K
theorem g_icmpNo (X : Stand p l e R s m args below meth c T locs cells slots) (hx : p.tables.exec = Jvm.exec) {cd : ClassFile.Cond} {o : Int} {x y : Int32} (hd : decode c.code pc = .ok (.if_icmp cd o, 3)) (hc : if_icmp.holds cd x y = false) (K : Gs p e below G T m (pc + 3) ls st) : Gs p e below G T m pc ls (.int y :: .int x :: st) := Go.st (fun _ kk => XS.icmpNo X.here hx rfl hd rfl hc kk) K
theorem g_iinc (X : Stand p l e R s m args below meth c T locs cells slots) (hx : p.tables.exec = Jvm.exec) {k : Nat} {d : Int} {x : Int32} {l' : Array Slot} (hd : decode c.code pc = .ok (.iinc k d, 3)) (hl : ls[k]? = some (.val (.int x))) (hl' : storeLocals ls k (.int (x + Int32.ofInt d)) = some l') (K : Gs p e below G T m (pc + 3) l' st) : Gs p e below G T m pc ls st := Go.st (fun _ kk => XS.iinc X.here hx rfl hd hl hl' kk) K
theorem g_getS (X : Stand p l e R s m args below meth c T locs cells slots) (hx : p.tables.exec = Jvm.exec) (hZ : Z.Warmed39 s.vm) {own O n d : String} {index : Nat} (hown : s.vm.findClass own = some m.cls) (w : (Cond.fieldLink own index O n d).before a0 Z = true) (eT : T.heap = h) {v : Value} (F : Sta Z h O n d v) (hd : decode c.code pc = .ok (.getstatic index, 3)) (K : ∀ T' : State, Stand p l e R s m args below meth c T' locs cells slots → T'.heap = h → Gs p e below G T' m (pc + 3) ls (v :: st)) : Gs p e below G T m pc ls st := by
  obtain ⟨T', X', e', q⟩ := getS2 X hx hZ hown (host := "") (Or.inl w) Via.refl eT F (g := mkF m pc ls st) rfl hd; exact Go.st q (K T' X' e')
theorem g_getF (X : Stand p l e R s m args below meth c T locs cells slots) (hx : p.tables.exec = Jvm.exec) (hZ : Z.Warmed39 s.vm) {own R0 O n d : String} {index : Nat} (hown : s.vm.findClass own = some m.cls) (w : (Cond.fieldLink own index R0 n d).before a0 Z = true) (via : Via Z R0 O n d) (eT : T.heap = h) {a : Addr} {v : Value} (F : Fld Z h a O n d v) (hd : decode c.code pc = .ok (.getfield index, 3)) (K : ∀ T' : State, Stand p l e R s m args below meth c T' locs cells slots → T'.heap = h → Gs p e below G T' m (pc + 3) ls (v :: st)) : Gs p e below G T m pc ls (.ref a :: st) := by
  obtain ⟨T', X', e', q⟩ := Jvm.RoadKit.getF X hx hZ hown (host := "") (Or.inl w) via eT F (g := mkF m pc ls (.ref a :: st)) rfl rfl hd; exact Go.st q (K T' X' e')
theorem g_putF (X : Stand p l e R s m args below meth c T locs cells slots) (hx : p.tables.exec = Jvm.exec) (hZ : Z.Warmed39 s.vm) {own R0 O n d C : String} {index kk : Nat} {ty : FieldType} (hown : s.vm.findClass own = some m.cls) (w : (Cond.fieldLink own index R0 n d).before a0 Z = true) (via : Via Z R0 O n d) (eT : T.heap = h) {a : Addr} {v old : Value} (F : Fld Z h a O n d old) (E : Exa Z h a C) (L : (Cond.lays C O n d).before a0 Z = true ∨ ((Cond.laysFinal C O n d).before a0 Z = true ∧ own = O ∧ meth.name = "<init>")) (wi : (Cond.instantiable C kk).before a0 Z = true) (hty : parseFieldDescriptor d = some ty) (hn : narrow ty v = v) (hf : fits ty v = true) (hd : decode c.code pc = .ok (.putfield index, 3)) (K : ∀ (T' : State) (h' : Heap), Stand p l e R s m args below meth c T' (locs ++ [⟨a, slotOf Z O n d⟩]) cells slots → T'.heap = h' → Wr h h' a (slotOf Z O n d) v → Gs p e below G T' m (pc + 3) ls st) : Gs p e below G T m pc ls (v :: .ref a :: st) := by
  obtain ⟨T', h', X', e', W, q⟩ := Jvm.RoadKit.putF X hx hZ hown (host := "") (Or.inl w) via eT F E L wi hty hn hf (g := mkF m pc ls (v :: .ref a :: st)) rfl rfl hd; exact Go.st q (K T' h' X' e' W)
theorem g_putFN (X : Stand p l e R s m args below meth c T locs cells slots) (hx : p.tables.exec = Jvm.exec) (hZ : Z.Warmed39 s.vm) {own R0 O n d C : String} {index kk : Nat} {ty : FieldType} (hown : s.vm.findClass own = some m.cls) (w : (Cond.fieldLink own index R0 n d).before a0 Z = true) (via : Via Z R0 O n d) (eT : T.heap = h) {a : Addr} {v v' old : Value} (F : Fld Z h a O n d old) (E : Exa Z h a C) (L : (Cond.lays C O n d).before a0 Z = true ∨ ((Cond.laysFinal C O n d).before a0 Z = true ∧ own = O ∧ meth.name = "<init>")) (wi : (Cond.instantiable C kk).before a0 Z = true) (hty : parseFieldDescriptor d = some ty) (hn : narrow ty v = v') (hf : fits ty v' = true) (hd : decode c.code pc = .ok (.putfield index, 3)) (K : ∀ (T' : State) (h' : Heap), Stand p l e R s m args below meth c T' (locs ++ [⟨a, slotOf Z O n d⟩]) cells slots → T'.heap = h' → Wr h h' a (slotOf Z O n d) v' → Gs p e below G T' m (pc + 3) ls st) : Gs p e below G T m pc ls (v :: .ref a :: st) := by
  obtain ⟨T', h', X', e', W, q⟩ := Jvm.RoadKit.putFN X hx hZ hown w via eT F E L wi hty hn hf (g := mkF m pc ls (v :: .ref a :: st)) rfl rfl hd; exact Go.st q (K T' h' X' e' W)
theorem g_new (X : Stand p l e R s m args below meth c T locs cells slots) (hx : p.tables.exec = Jvm.exec) (hZ : Z.Warmed39 s.vm) {own C : String} {index n : Nat} (hown : s.vm.findClass own = some m.cls) (w : (Cond.classLink own index C).before a0 Z = true) (wi : (Cond.instantiable C n).before a0 Z = true) (wz : (Cond.initialized C).before a0 Z = true) (eT : T.heap = h) (hd : decode c.code pc = .ok (.new index, 3)) (hc : cells + 1 ≤ R.cells) (hl : slots + n ≤ R.slots) (K : ∀ (b : Addr) (T' : State) (h' : Heap), b = h.size → Stand p l e R s m args below meth c T' locs (cells + 1) (slots + n) → T'.heap = h' → Ext h h' → Exa Z h' b C → (∀ {O nm d : String} {ty : FieldType}, Laid Z a0 C O nm d → parseFieldDescriptor d = some ty → Fld Z h' b O nm d (defaultValue ty)) → Gs p e below G T' m (pc + 3) ls (.ref b :: st)) : Gs p e below G T m pc ls st := by
  obtain ⟨T', h', X', e', E, A, D, -, q⟩ := newO X hx hZ hown w wi wz eT (g := mkF m pc ls st) rfl hd hc hl; exact Go.st q (K _ T' h' rfl X' e' E A D)
theorem g_newP (X : Stand p l e R s m args below meth c T locs cells slots) (hx : p.tables.exec = Jvm.exec) (hZ : Z.Warmed39 s.vm) {aty : ArrayType} (hd : decode c.code pc = .ok (.newarray aty, 2)) (w : (Cond.arrayClass (newarray.typeOf aty)).before a0 Z = true) (eT : T.heap = h) {n : Int32} (hn : ¬ n < 0) (cap : Nat) (hcap : n.toNatClampNeg ≤ cap) (hb : cap * 8 ≤ 536870912) (hc : cells + 1 ≤ R.cells) (hl : slots + cap ≤ R.slots) (K : ∀ (b : Addr) (T' : State) (h' : Heap) (cA : ClassId), b = h.size → Stand p l e R s m args below meth c T' locs (cells + 1) (slots + cap) → T'.heap = h' → Ext h h' → Arr Z h' b (newA cA (newarray.typeOf aty) n) (newarray.typeOf aty) → Gs p e below G T' m (pc + 2) ls (.ref b :: st)) : Gs p e below G T m pc ls (.int n :: st) := by
  obtain ⟨T', h', cA, X', e', E, A, q⟩ := Jvm.RoadKit.newP X hx hZ w eT (g := mkF m pc ls (.int n :: st)) rfl hd rfl hn hcap hb hc hl; exact Go.st q (K _ T' h' cA rfl X' e' E A)
theorem g_stC (X : Stand p l e R s m args below meth c T locs cells slots) (hx : p.tables.exec = Jvm.exec) (hZ : Z.Warmed39 s.vm) (eT : T.heap = h) {a : Addr} {cl : Cell} (A : Arr Z h a cl .char) {j : Int32} {x : Int32} (hj : ¬ (j < 0 ∨ cl.slots.size ≤ j.toNatClampNeg)) (hd : decode c.code pc = .ok (.castore, 1)) (K : ∀ (T' : State) (h' : Heap), Stand p l e R s m args below meth c T' (locs ++ [⟨a, j.toNatClampNeg⟩]) cells slots → T'.heap = h' → Wr h h' a j.toNatClampNeg (.int (nar .char x)) → Gs p e below G T' m (pc + 1) ls st) : Gs p e below G T m pc ls (.int x :: .int j :: .ref a :: st) := by
  obtain ⟨T', h', X', e', W, q⟩ := Jvm.RoadKit.stC X hx hZ eT A hj (g := mkF m pc ls (.int x :: .int j :: .ref a :: st)) rfl rfl hd; exact Go.st q (K T' h' X' e' W)
theorem g_stB (X : Stand p l e R s m args below meth c T locs cells slots) (hx : p.tables.exec = Jvm.exec) (hZ : Z.Warmed39 s.vm) (eT : T.heap = h) {a : Addr} {cl : Cell} (A : Arr Z h a cl .byte) {j : Int32} {x : Int32} (hj : ¬ (j < 0 ∨ cl.slots.size ≤ j.toNatClampNeg)) (hd : decode c.code pc = .ok (.bastore, 1)) (K : ∀ (T' : State) (h' : Heap), Stand p l e R s m args below meth c T' (locs ++ [⟨a, j.toNatClampNeg⟩]) cells slots → T'.heap = h' → Wr h h' a j.toNatClampNeg (.int (nar .byte x)) → Gs p e below G T' m (pc + 1) ls st) : Gs p e below G T m pc ls (.int x :: .int j :: .ref a :: st) := by
  obtain ⟨T', h', X', e', W, q⟩ := Jvm.RoadKit.stB X hx hZ eT A hj (g := mkF m pc ls (.int x :: .int j :: .ref a :: st)) rfl rfl hd; exact Go.st q (K T' h' X' e' W)
theorem g_caload (X : Stand p l e R s m args below meth c T locs cells slots) (hx : p.tables.exec = Jvm.exec) (hZ : Z.Warmed39 s.vm) (eT : T.heap = h) {a : Addr} {cl : Cell} (A : Arr Z h a cl .char) {j : Int32} {v : Value} (hj : ¬ (j < 0 ∨ cl.slots.size ≤ j.toNatClampNeg)) (hv : cl.slots[j.toNatClampNeg]? = some v) (hd : decode c.code pc = .ok (.caload, 1)) (K : Gs p e below G T m (pc + 1) ls (v :: st)) : Gs p e below G T m pc ls (.int j :: .ref a :: st) := by
  exact Go.st (X.caload hx (j := j) (v := v) (by rw [eT]; exact A.1) (State.isArrayOf_alike hZ.alike A.2.1) A.2.2 hj hv (g := mkF m pc ls (.int j :: .ref a :: st)) rfl rfl hd) K
theorem g_baload (X : Stand p l e R s m args below meth c T locs cells slots) (hx : p.tables.exec = Jvm.exec) (hZ : Z.Warmed39 s.vm) (eT : T.heap = h) {a : Addr} {cl : Cell} (A : Arr Z h a cl .byte) {j : Int32} {v : Value} (hj : ¬ (j < 0 ∨ cl.slots.size ≤ j.toNatClampNeg)) (hv : cl.slots[j.toNatClampNeg]? = some v) (hd : decode c.code pc = .ok (.baload, 1)) (K : Gs p e below G T m (pc + 1) ls (v :: st)) : Gs p e below G T m pc ls (.int j :: .ref a :: st) := by
  exact Go.st (X.baloadBytes hx (j := j) (v := v) (by rw [eT]; exact A.1) (State.isArrayOf_alike hZ.alike A.2.1) A.2.2 hj hv (g := mkF m pc ls (.int j :: .ref a :: st)) rfl rfl hd) K
theorem g_len (X : Stand p l e R s m args below meth c T locs cells slots) (hx : p.tables.exec = Jvm.exec) (hZ : Z.Warmed39 s.vm) (eT : T.heap = h) {a : Addr} {cl : Cell} {ty : FieldType} (A : Arr Z h a cl ty) {z : Int32} (S : cl.slots.size = z.toNatClampNeg) (q : ¬ z < 0) (hd : decode c.code pc = .ok (.arraylength, 1)) (K : Gs p e below G T m (pc + 1) ls (.int z :: st)) : Gs p e below G T m pc ls (.ref a :: st) := by
  refine Go.st (X.arraylength hx (by rw [eT]; exact A.1) (State.isArrayOf_alike hZ.alike A.2.1) (g := mkF m pc ls (.ref a :: st)) rfl rfl hd) ?_
  rw [len_of S q]; exact K
theorem g_initO (X : Stand p l e R s m args below meth c T locs cells slots) (hx : p.tables.exec = Jvm.exec) (hZ : Z.Warmed39 s.vm) {own : String} {idx : Nat} (hown : s.vm.findClass own = some m.cls) (w1 : (Cond.methodLink own idx Lib.objectInit).before a0 Z = true) (w2 : (Cond.instanceMethod Lib.objectInit).before a0 Z = true) (w3 : (Cond.code Lib.objectInit ⟨#[0xb1]⟩ 1 none).before a0 Z = true) (eT : T.heap = h) (hsize : ls.size = c.maxLocals) {a : Addr} (hd : decode c.code pc = .ok (.invokespecial idx, 3)) (hf : 1 ≤ R.frames) (W : Nat) (hW : (st.map fun v => v.category).sum ≤ W) (hl : W + 12 ≤ R.locals) (K : ∀ T' : State, Stand p l e R s m args below meth c T' locs cells slots → T'.heap = h → Gs p e below G T' m (pc + 3) ls st) : Gs p e below G T m pc ls (.ref a :: st) := by
  obtain ⟨T', X', e', q⟩ := Jvm.RoadKit.initO X hx hZ hown w1 w2 w3 eT (g := mkF m pc ls (.ref a :: st)) rfl hsize rfl hd hf (W := W) (by show 2 * 0 + _ ≤ _; omega) hl; exact Go.st q (K T' X' e')
theorem g_static (X : Stand p l e R s m args below meth c T locs cells slots) (hx : p.tables.exec = Jvm.exec) (hZ : Z.Warmed39 s.vm) {y : MethodName} {bytes : ByteArray} {maxL : Nat} {ret : Option FieldType} {rm : Room} {as' : Array Value} {Q : Option Value → Heap → List Loc → Prop} (hM : MetFree l y (head1 [Cond.code y bytes maxL ret] rm) (fun a U => a = as' ∧ Z.Warmed39 U.vm ∧ U.heap = h) (fun _ _ _ _ _ => True) (fun _ U o U' => ∃ v L, o = .returned v ∧ Q v U'.heap L ∧ FrameEnd U o U' L rm.cells rm.slots)) {own : String} {index : Nat} (hown : s.vm.findClass own = some m.cls) (w1 : (Cond.methodLink own index y).before a0 Z = true) (w2 : (Cond.static y).before a0 Z = true) (w3 : (Cond.initialized y.cls).before a0 Z = true) (w4 : (Cond.code y bytes maxL ret).before a0 Z = true) (hy : y.cls ≠ "java/lang/invoke/MethodHandle" ∧ y.cls ≠ "java/lang/invoke/VarHandle") (W : Nat) (hf : rm.frames + 1 ≤ R.frames) (hl : W + (maxL + 11) + rm.locals ≤ R.locals) (hsize : ls.size = c.maxLocals) (argsL rest : List Value) (hlen : ∀ sig, parseMethodDescriptor y.desc = some sig → argsL.length = sig.parameters.length) (hW : (rest.map fun v => v.category).sum ≤ W) (eT : T.heap = h) (hc : cells + rm.cells ≤ R.cells) (hs : slots + rm.slots ≤ R.slots) (has : argsL.toArray = as') (hst : st = argsL.reverse ++ rest) (hd : decode c.code pc = .ok (.invokestatic index, 3)) (K : ∀ (v : Option Value) (T' : State) (L : List Loc), Stand p l e R s m args below meth c T' (locs ++ L) (cells + rm.cells) (slots + rm.slots) → Q v T'.heap L → Gs p e below G T' m (pc + 3) ls (v.toList ++ rest)) : Gs p e below G T m pc ls st := by
  obtain ⟨v, _, ⟨T', L', k', n'⟩, -, X', ⟨L, hQ, h1, h2, h3⟩, q⟩ := Jvm.LawKit.callS X hx hown (mvT hZ w1) (mvT hZ w2) (mvT hZ w3) (mvT hZ w4) hy (backOf (W := W) hM hZ w4 w3 hf hl) (g := mkF m pc ls st) rfl hsize (argsL := argsL) (rest := rest) hlen hst (by show 2 * 0 + _ ≤ _; omega) hd (fun _ _ => ⟨has, eT, hc, hs⟩)
  dsimp only [Pt.U, Pt.locs, Pt.cells, Pt.slots] at X' h1 h2 h3 q hQ
  subst h1 h2 h3
  exact Go.st q (K v T' L X' hQ)
theorem g_special (X : Stand p l e R s m args below meth c T locs cells slots) (hx : p.tables.exec = Jvm.exec) (hZ : Z.Warmed39 s.vm) {y : MethodName} {bytes : ByteArray} {maxL : Nat} {ret : Option FieldType} {rm : Room} {as' : Array Value} {Q : Option Value → Heap → List Loc → Prop} (hM : MetFree l y (head1 [Cond.code y bytes maxL ret] rm) (fun a U => a = as' ∧ Z.Warmed39 U.vm ∧ U.heap = h) (fun _ _ _ _ _ => True) (fun _ U o U' => ∃ v L, o = .returned v ∧ Q v U'.heap L ∧ FrameEnd U o U' L rm.cells rm.slots)) (hret : ret = none) (hy1 : y.name = "<init>") {own : String} {index : Nat} (hown : s.vm.findClass own = some m.cls) (w1 : (Cond.methodLink own index y).before a0 Z = true) (w2 : (Cond.instanceMethod y).before a0 Z = true) (w3 : (Cond.initialized y.cls).before a0 Z = true) (w4 : (Cond.code y bytes maxL ret).before a0 Z = true) (hy : y.cls ≠ "java/lang/invoke/MethodHandle" ∧ y.cls ≠ "java/lang/invoke/VarHandle") (W : Nat) (hf : rm.frames + 1 ≤ R.frames) (hl : W + (maxL + 11) + rm.locals ≤ R.locals) (hsize : ls.size = c.maxLocals) (argsL rest : List Value) (hlen : ∀ sig, parseMethodDescriptor y.desc = some sig → argsL.length = sig.parameters.length) (hW : (rest.map fun v => v.category).sum ≤ W) (eT : T.heap = h) (hc : cells + rm.cells ≤ R.cells) (hs : slots + rm.slots ≤ R.slots) {a : Addr} (has : (.ref a :: argsL).toArray = as') (hst : st = argsL.reverse ++ .ref a :: rest) (hd : decode c.code pc = .ok (.invokespecial index, 3)) (K : ∀ (v : Option Value) (T' : State) (L : List Loc), Stand p l e R s m args below meth c T' (locs ++ L) (cells + rm.cells) (slots + rm.slots) → Q v T'.heap L → Gs p e below G T' m (pc + 3) ls (v.toList ++ rest)) : Gs p e below G T m pc ls st := by
  subst hret
  obtain ⟨v, _, ⟨T', L', k', n'⟩, -, X', ⟨L, hQ, h1, h2, h3⟩, q⟩ := X.specialBack hx hy1 hown (mvT hZ w1) (mvT hZ w2) (mvT hZ w4) hy (backOf (W := W) hM hZ w4 w3 hf hl) (g := mkF m pc ls st) rfl hsize (Steps.refl _) (a := a) (argsL := argsL) (rest := rest) hlen hst (by show 2 * 0 + _ ≤ _; omega) hd (fun _ _ => ⟨has, eT, hc, hs⟩)
  dsimp only [Pt.U, Pt.locs, Pt.cells, Pt.slots] at X' h1 h2 h3 q hQ
  subst h1 h2 h3
  exact Go.tr q (K v T' L X' hQ)
theorem g_virtual (X : Stand p l e R s m args below meth c T locs cells slots) (hx : p.tables.exec = Jvm.exec) (hZ : Z.Warmed39 s.vm) {y z : MethodName} {bytes : ByteArray} {maxL : Nat} {ret : Option FieldType} {rm : Room} {as' : Array Value} {Q : Option Value → Heap → List Loc → Prop} (hM : MetFree l z (head1 [Cond.code z bytes maxL ret] rm) (fun a U => a = as' ∧ Z.Warmed39 U.vm ∧ U.heap = h) (fun _ _ _ _ _ => True) (fun _ U o U' => ∃ v L, o = .returned v ∧ Q v U'.heap L ∧ FrameEnd U o U' L rm.cells rm.slots)) {own C : String} {index : Nat} (hown : s.vm.findClass own = some m.cls) (w1 : (Cond.methodLink own index y).before a0 Z = true) (w2 : (Cond.declares y).before a0 Z = true) (w5 : (Cond.selects C y z).before a0 Z = true) (hyz : y = z) (w6 : (Cond.instanceMethod z).before a0 Z = true) (w3 : (Cond.initialized z.cls).before a0 Z = true) (w4 : (Cond.code z bytes maxL ret).before a0 Z = true) (hy : y.cls ≠ "java/lang/invoke/MethodHandle" ∧ y.cls ≠ "java/lang/invoke/VarHandle") {b : Addr} (E : Exa Z h b C) (W : Nat) (hf : rm.frames + 1 ≤ R.frames) (hl : W + (maxL + 11) + rm.locals ≤ R.locals) (hsize : ls.size = c.maxLocals) (argsL rest : List Value) (hlen : ∀ sig, parseMethodDescriptor y.desc = some sig → argsL.length = sig.parameters.length) (hW : (rest.map fun v => v.category).sum ≤ W) (eT : T.heap = h) (hc : cells + rm.cells ≤ R.cells) (hs : slots + rm.slots ≤ R.slots) (has : (.ref b :: argsL).toArray = as') (hst : st = argsL.reverse ++ .ref b :: rest) (hd : decode c.code pc = .ok (.invokevirtual index, 3)) (K : ∀ (v : Option Value) (T' : State) (L : List Loc), Stand p l e R s m args below meth c T' (locs ++ L) (cells + rm.cells) (slots + rm.slots) → Q v T'.heap L → Gs p e below G T' m (pc + 3) ls (v.toList ++ rest)) : Gs p e below G T m pc ls st := by
  subst hyz
  obtain ⟨cq, kq, qa, qb, qc⟩ := isOf hZ eT E
  obtain ⟨v, _, ⟨T', L', k', n'⟩, -, X', ⟨L, hQ, h1, h2, h3⟩, q⟩ := X.virtualBack hx hown (mvT hZ w1) (mvT hZ w2) (notFace_of_selects (args := #[]) (mvT hZ w5)) (mvT hZ w5) (mvT hZ w6) hy (backOf (W := W) hM hZ w4 w3 hf hl) qa qc (g := mkF m pc ls st) rfl hsize (Steps.refl _) (argsL := argsL) (rest := rest) hlen hst (by show 2 * 0 + _ ≤ _; omega) hd (fun _ _ => ⟨has, eT, hc, hs⟩)
  dsimp only [Pt.U, Pt.locs, Pt.cells, Pt.slots] at X' h1 h2 h3 q hQ
  subst h1 h2 h3
  exact Go.tr q (K v T' L X' hQ)
end Steps
/-- a room -/
abbrev rmk (f c s l : Nat) : Room := { frames := f, cells := c, slots := s, locals := l }
/-- the contract of a body that returns, in this text's own shape -/
abbrev Met (l : Launch) (Z : State) (h0 : Heap) (y : MethodName) (bytes : ByteArray) (maxL : Nat) (ret : Option FieldType) (rm : Room) (as' : Array Value) (Q : Option Value → Heap → List Loc → Prop) : Prop := MetFree l y (head1 [Cond.code y bytes maxL ret] rm) (fun a U => a = as' ∧ Z.Warmed39 U.vm ∧ U.heap = h0) (fun _ _ _ _ _ => True) (fun _ U o U' => ∃ v L, o = .returned v ∧ Q v U'.heap L ∧ FrameEnd U o U' L rm.cells rm.slots)
theorem enter {l : Launch} {y : MethodName} {bytes : ByteArray} {maxL : Nat} {ret : Option FieldType} {rm : Room} {as' : Array Value} {Z : State} {h0 : Heap} {Q : Option Value → Heap → List Loc → Prop} {L0 : Array Slot} (hp : plainFor y = true) (ef : ∀ m : MethodId, entryFrame m as' maxL = mkF m 0 L0 [])
    (body : ∀ (p : Program) (e : Env) (s : State) (m : MethodId) (below : List Frame) (meth : Method) (c : Code) (s₁ : State), p.tables.exec = Jvm.exec → c.code = bytes → c.maxLocals = maxL → s.vm.findClass y.cls = some m.cls → meth.name = y.name → Z.Warmed39 s.vm → Stand p l e rm s m as' below meth c s₁ [] 0 0 → s₁.heap = h0 → meth.sig.returnType = ret → meth.locks = false → Gs p e below (fun o s₂ => ∃ v L, o = .returned v ∧ Q v s₂.heap L ∧ FrameEnd s o s₂ L rm.cells rm.slots) s₁ m 0 L0 []) : Met l Z h0 y bytes maxL ret rm as' Q := by
  refine MetFree.of_bodySF hp hisR ?_
  intro p e s m args below meth c s₁ Bd hml0 hP hK
  obtain ⟨rfl, hZ, hh⟩ := hP
  exact Go.en (ef m) (body p e s m below meth c s₁ Bd.exec Bd.bytes hml0 (findClass_of_methodNamed Bd.named) (name_of_methodNamed Bd.named Bd.method).1 hZ (Stand.of_body Bd) (by rw [← hh, Bd.state]; rfl) Bd.returns Bd.notSynchronized)
end Own
end Jvm.RoadKit
namespace Jvm.Pilot.@@N@@
open Jvm Jvm.ClassFile Sem Op Lib Jvm.Free Jvm.Stand Jvm.LawKit Jvm.RoadKit Bundle Jvm.Pilot.@@N@@.Jvm.D
theorem own_wS {a0 : Array Value} {Z : State} (hw : ∀ d ∈ tables_1, d.before a0 Z = true) : ∀ a ∈ Bundle.stringAtoms, a.before a0 Z = true := by
  intro a ha
  simp only [Bundle.stringAtoms, List.mem_cons, List.not_mem_nil, or_false] at ha
  rcases ha with rfl | rfl | rfl | rfl | rfl | rfl | rfl
  · exact hw _ (List.mem_of_getElem? (i := 8) rfl)
  · exact hw _ (List.mem_of_getElem? (i := 7) rfl)
  · exact hw _ (List.mem_of_getElem? (i := 21) rfl)
  · exact hw _ (List.mem_of_getElem? (i := 22) rfl)
  · exact hw _ (List.mem_of_getElem? (i := 23) rfl)
  · exact hw _ (List.mem_of_getElem? (i := 24) rfl)
  · exact hw _ (List.mem_of_getElem? (i := 25) rfl)
theorem own_k (x : Int32) : (x &&& (2147483647 : Int32)) % (5 : Int32) = (0 : Int32) ∨ (x &&& (2147483647 : Int32)) % (5 : Int32) = (1 : Int32) ∨ (x &&& (2147483647 : Int32)) % (5 : Int32) = (2 : Int32) ∨ (x &&& (2147483647 : Int32)) % (5 : Int32) = (3 : Int32) ∨ (x &&& (2147483647 : Int32)) % (5 : Int32) = (4 : Int32) := by
  have h1 := c_and x (2147483647 : Int32) (by decide)
  have h2 := (c_irem (x &&& (2147483647 : Int32)) (5 : Int32) 5 (by decide)).1 h1.1
  generalize (x &&& (2147483647 : Int32)) % (5 : Int32) = k at *
  have h3 : k.toInt = 0 ∨ k.toInt = 1 ∨ k.toInt = 2 ∨ k.toInt = 3 ∨ k.toInt = 4 := by omega
  rcases h3 with h | h | h | h | h
  · exact (Or.inl (Int32.toInt_inj.mp (h.trans (by decide))))
  · exact (Or.inr (Or.inl (Int32.toInt_inj.mp (h.trans (by decide)))))
  · exact (Or.inr (Or.inr (Or.inl (Int32.toInt_inj.mp (h.trans (by decide))))))
  · exact (Or.inr (Or.inr (Or.inr (Or.inl (Int32.toInt_inj.mp (h.trans (by decide)))))))
  · exact (Or.inr (Or.inr (Or.inr (Or.inr (Int32.toInt_inj.mp (h.trans (by decide)))))))
def own_EL : List (String × Nat) := [("java/lang/String", 7)]
theorem own_mem : ("java/lang/String", 7) ∈ own_EL := List.mem_singleton.mpr rfl
theorem own_EW {a0 : Array Value} {Z : State} (hw : ∀ d ∈ tables_1, d.before a0 Z = true) : EW Z a0 own_EL := EW.cons (hw _ (List.mem_of_getElem? (i := 20) rfl)) (by decide) EW.nil
theorem own_sub : ∀ p ∈ own_EL, p ∈ consts_1 := by decide
theorem own_nb (x : Int32) : 0 ≤ (nar .char x).toInt ∧ (nar .char x).toInt ≤ 65535 := by
  have h := c_i2c x
  show 0 ≤ (x.toUInt32.toUInt16.toUInt32.toInt32).toInt ∧ (x.toUInt32.toUInt16.toUInt32.toInt32).toInt ≤ 65535
  omega
theorem own_nar {v : Int32} (h : 0 ≤ v.toInt ∧ v.toInt ≤ 65535) : nar .char v = v := by
  have h2 := c_i2c v
  apply Int32.toInt_inj.mp
  show (v.toUInt32.toUInt16.toUInt32.toInt32).toInt = _
  omega
theorem own_ch0 {c : Int32} (h : 0 ≤ c.toInt ∧ c.toInt ≤ 127) : ¬ c < (0 : Int32) := own_nn h.1
theorem own_ch1 {c : Int32} (h : 0 ≤ c.toInt ∧ c.toInt ≤ 127) : ¬ (255 : Int32) < c := own_ge (by show c.toInt ≤ 255; omega)
theorem own_ch2 {c : Int32} (h : 0 ≤ c.toInt ∧ c.toInt ≤ 127) : c < (65536 : Int32) := by rw [Int32.lt_iff_toInt_lt]; show c.toInt < 65536; omega
theorem own_eqb {v c : Int32} (hv : 0 ≤ v.toInt ∧ v.toInt ≤ 65535) (h : ¬ (255 : Int32) < v) (hc : 0 ≤ c.toInt ∧ c.toInt ≤ 127) : (nar .byte (v.toInt8.toInt32)) = (c.toInt8.toInt32) ↔ v = c := by
  have h1 := c_i2b v; have h2 := c_i2b (v.toInt8.toInt32); have h3 := c_i2b c
  rw [Int32.lt_iff_toInt_lt] at h
  have e : (255 : Int32).toInt = 255 := rfl
  rw [e] at h
  have hn : nar .byte (v.toInt8.toInt32) = (v.toInt8.toInt32).toInt8.toInt32 := rfl
  rw [hn]
  constructor
  · intro q
    have q' := congrArg Int32.toInt q
    exact Int32.toInt_inj.mp (by omega)
  · rintro rfl
    exact Int32.toInt_inj.mp (by omega)
theorem own_or {x y : Int32} {a b : Nat} (hx : x.toInt = a) (hy : y.toInt = b * 256) (ha : a < 256) (hb : b < 256) : (x ||| y).toInt = a + b * 256 := by
  have tn : ∀ (z : Int32) (k : Nat), z.toInt = k → k < 2 ^ 31 → z.toBitVec.toNat = k := by
    intro z k hz hk
    have h1 : z.toBitVec.toInt = k := hz
    rw [BitVec.toInt_eq_toNat_cond] at h1
    have h2 := z.toBitVec.isLt
    split at h1 <;> omega
  have hx' := tn x a hx (by omega)
  have hy' := tn y (b * 256) (by rw [hy]; omega) (by omega)
  have h1 : (x ||| y).toBitVec.toNat = a + b * 256 := by
    show (x.toBitVec ||| y.toBitVec).toNat = _
    rw [BitVec.toNat_or, hx', hy', Nat.or_comm, show b * 256 = b <<< 8 from by rw [Nat.shiftLeft_eq], ← Nat.shiftLeft_add_eq_or_of_lt (by omega : a < 2 ^ 8)]
    omega
  show (x ||| y).toBitVec.toInt = _
  rw [BitVec.toInt_eq_toNat_cond, h1]
  split <;> omega
theorem own_get {v : Int32} (h : 0 ≤ v.toInt ∧ v.toInt ≤ 65535) : (nar .char (((((nar .byte ((v >>> ((0 : Int32) &&& 31)).toInt8.toInt32)) &&& (255 : Int32)) <<< ((0 : Int32) &&& 31)) ||| (((nar .byte ((v >>> ((8 : Int32) &&& 31)).toInt8.toInt32)) &&& (255 : Int32)) <<< ((8 : Int32) &&& 31))).toUInt32.toUInt16.toUInt32.toInt32)) = v := by
  have s0 := c_ishr v (0 : Int32) 0 (by decide)
  have s8 := c_ishr v (8 : Int32) 8 (by decide)
  have b0 := c_i2b (v >>> ((0 : Int32) &&& 31)); have b8 := c_i2b (v >>> ((8 : Int32) &&& 31))
  have n0 := c_i2b ((v >>> ((0 : Int32) &&& 31)).toInt8.toInt32); have n8 := c_i2b ((v >>> ((8 : Int32) &&& 31)).toInt8.toInt32)
  have e0 : nar .byte ((v >>> ((0 : Int32) &&& 31)).toInt8.toInt32) = ((v >>> ((0 : Int32) &&& 31)).toInt8.toInt32).toInt8.toInt32 := rfl
  have e8 : nar .byte ((v >>> ((8 : Int32) &&& 31)).toInt8.toInt32) = ((v >>> ((8 : Int32) &&& 31)).toInt8.toInt32).toInt8.toInt32 := rfl
  rw [e0, e8]
  generalize ((v >>> ((0 : Int32) &&& 31)).toInt8.toInt32).toInt8.toInt32 = x at *
  generalize ((v >>> ((8 : Int32) &&& 31)).toInt8.toInt32).toInt8.toInt32 = y at *
  have m0 := c_mask x (255 : Int32) 8 (by decide) (by decide)
  have m8 := c_mask y (255 : Int32) 8 (by decide) (by decide)
  have l0 := c_ishl (x &&& (255 : Int32)) (0 : Int32) 0 (by decide)
  have l8 := c_ishl (y &&& (255 : Int32)) (8 : Int32) 8 (by decide)
  have r0 := rng32 ((x &&& (255 : Int32)) <<< ((0 : Int32) &&& 31)); have r8 := rng32 ((y &&& (255 : Int32)) <<< ((8 : Int32) &&& 31))
  obtain ⟨a, ha⟩ : ∃ a : Nat, (a : Int) = v.toInt % 256 := ⟨(v.toInt % 256).toNat, by omega⟩
  obtain ⟨b, hb⟩ : ∃ b : Nat, (b : Int) = v.toInt / 256 := ⟨(v.toInt / 256).toNat, by omega⟩
  have o := own_or (x := (x &&& (255 : Int32)) <<< ((0 : Int32) &&& 31)) (y := (y &&& (255 : Int32)) <<< ((8 : Int32) &&& 31)) (a := a) (b := b) (by omega) (by omega) (by omega) (by omega)
  have c1 := c_i2c (((x &&& (255 : Int32)) <<< ((0 : Int32) &&& 31)) ||| ((y &&& (255 : Int32)) <<< ((8 : Int32) &&& 31)))
  have c2 := c_i2c ((((x &&& (255 : Int32)) <<< ((0 : Int32) &&& 31)) ||| ((y &&& (255 : Int32)) <<< ((8 : Int32) &&& 31))).toUInt32.toUInt16.toUInt32.toInt32)
  apply Int32.toInt_inj.mp
  show ((((((x &&& (255 : Int32)) <<< ((0 : Int32) &&& 31)) ||| ((y &&& (255 : Int32)) <<< ((8 : Int32) &&& 31))).toUInt32.toUInt16.toUInt32.toInt32)).toUInt32.toUInt16.toUInt32.toInt32).toInt = _
  omega
theorem own_gt {v : Int32} (h : 0 ≤ v.toInt ∧ v.toInt ≤ 65535) (q : (255 : Int32) < v) : (255 : Int32) < (nar .char (((((nar .byte ((v >>> ((0 : Int32) &&& 31)).toInt8.toInt32)) &&& (255 : Int32)) <<< ((0 : Int32) &&& 31)) ||| (((nar .byte ((v >>> ((8 : Int32) &&& 31)).toInt8.toInt32)) &&& (255 : Int32)) <<< ((8 : Int32) &&& 31))).toUInt32.toUInt16.toUInt32.toInt32)) := by rw [own_get h]; exact q
theorem own_fm {Z : State} {h0 h : Heap} (K : Keep h0 h []) (F : ∃ v : Value, v.isRef = true ∧ Sta Z h0 "jdk/internal/util/Preconditions" "SIOOBE_FORMATTER" "Ljava/util/function/BiFunction;" v) : ∃ v : Value, v.isRef = true ∧ Sta Z h "jdk/internal/util/Preconditions" "SIOOBE_FORMATTER" "Ljava/util/function/BiFunction;" v := by
  obtain ⟨v, a, b⟩ := F; exact ⟨v, a, staKeep0 b K⟩
def own_QH0 (h0 : Heap) (n0 : Nat) (v : Option Value) (h : Heap) (L : List Loc) : Prop := ∃ (r0 : Int32), v = some (.int r0) ∧ ((r0 = (0 : Int32) ∧ (True) ∧ (True)) ∨ (r0 = (1 : Int32) ∧ ¬ ((True) ∧ (True)))) ∧ Fr n0 L ∧ h = h0
def own_QH1 (v0 : Int32) (h0 : Heap) (n0 : Nat) (v : Option Value) (h : Heap) (L : List Loc) : Prop := ∃ (r0 : Int32), v = some (.int r0) ∧ ((r0 = (0 : Int32) ∧ (¬ v0 = (42 : Int32)) ∧ (¬ v0 = (63 : Int32))) ∨ (r0 = (1 : Int32) ∧ ¬ ((¬ v0 = (42 : Int32)) ∧ (¬ v0 = (63 : Int32))))) ∧ Fr n0 L ∧ h = h0
def own_QH2 (v0 v1 : Int32) (h0 : Heap) (n0 : Nat) (v : Option Value) (h : Heap) (L : List Loc) : Prop := ∃ (r0 : Int32), v = some (.int r0) ∧ ((r0 = (0 : Int32) ∧ (¬ v0 = (42 : Int32) ∧ ¬ v1 = (42 : Int32)) ∧ (¬ v0 = (63 : Int32) ∧ ¬ v1 = (63 : Int32))) ∨ (r0 = (1 : Int32) ∧ ¬ ((¬ v0 = (42 : Int32) ∧ ¬ v1 = (42 : Int32)) ∧ (¬ v0 = (63 : Int32) ∧ ¬ v1 = (63 : Int32))))) ∧ Fr n0 L ∧ h = h0
def own_QH3 (v0 v1 v2 : Int32) (h0 : Heap) (n0 : Nat) (v : Option Value) (h : Heap) (L : List Loc) : Prop := ∃ (r0 : Int32), v = some (.int r0) ∧ ((r0 = (0 : Int32) ∧ (¬ v0 = (42 : Int32) ∧ ¬ v1 = (42 : Int32) ∧ ¬ v2 = (42 : Int32)) ∧ (¬ v0 = (63 : Int32) ∧ ¬ v1 = (63 : Int32) ∧ ¬ v2 = (63 : Int32))) ∨ (r0 = (1 : Int32) ∧ ¬ ((¬ v0 = (42 : Int32) ∧ ¬ v1 = (42 : Int32) ∧ ¬ v2 = (42 : Int32)) ∧ (¬ v0 = (63 : Int32) ∧ ¬ v1 = (63 : Int32) ∧ ¬ v2 = (63 : Int32))))) ∧ Fr n0 L ∧ h = h0
def own_QH4 (v0 v1 v2 v3 : Int32) (h0 : Heap) (n0 : Nat) (v : Option Value) (h : Heap) (L : List Loc) : Prop := ∃ (r0 : Int32), v = some (.int r0) ∧ ((r0 = (0 : Int32) ∧ (¬ v0 = (42 : Int32) ∧ ¬ v1 = (42 : Int32) ∧ ¬ v2 = (42 : Int32) ∧ ¬ v3 = (42 : Int32)) ∧ (¬ v0 = (63 : Int32) ∧ ¬ v1 = (63 : Int32) ∧ ¬ v2 = (63 : Int32) ∧ ¬ v3 = (63 : Int32))) ∨ (r0 = (1 : Int32) ∧ ¬ ((¬ v0 = (42 : Int32) ∧ ¬ v1 = (42 : Int32) ∧ ¬ v2 = (42 : Int32) ∧ ¬ v3 = (42 : Int32)) ∧ (¬ v0 = (63 : Int32) ∧ ¬ v1 = (63 : Int32) ∧ ¬ v2 = (63 : Int32) ∧ ¬ v3 = (63 : Int32))))) ∧ Fr n0 L ∧ h = h0

theorem pn_0 : plainName "com/example/canny_warden/cannywarden/engine/WildcardHasWildcardPinLaw" = true := by first | (simp [plainName, overriddenIn]; done) | decide +kernel
theorem ef_0 (m : MethodId) (x0 : Int32) (x1 : Int32) (x2 : Int32) (x3 : Int32) (x4 : Int32) : entryFrame m #[(.int x0), (.int x1), (.int x2), (.int x3), (.int x4)] maxLocals = mkF m 0 #[.val (.int x0), .val (.int x1), .val (.int x2), .val (.int x3), .val (.int x4), .unset, .unset, .unset, .unset, .unset, .unset, .unset] [] := by first | (simp [entryFrame, mkF, argsToLocals, Value.category, maxLocals]; done) | rfl
theorem d1_0 : decode method_2_code 0 = .ok (.iload_n 0, 1) := by decide +kernel
theorem d1_1 : decode method_2_code 1 = .ok (.iconst 3, 1) := by decide +kernel
theorem d1_2 : decode method_2_code 2 = .ok (.iand, 1) := by decide +kernel
theorem d1_3 : decode method_2_code 3 = .ok (.istore_n 1, 1) := by decide +kernel
theorem d1_4 : decode method_2_code 4 = .ok (.iload_n 1, 1) := by decide +kernel
theorem d1_5 : decode method_2_code 5 = .ok (.ifCond .ne 9, 3) := by decide +kernel
theorem d1_8 : decode method_2_code 8 = .ok (.bipush 42, 2) := by decide +kernel
theorem d1_10 : decode method_2_code 10 = .ok (.istore_n 2, 1) := by decide +kernel
theorem d1_11 : decode method_2_code 11 = .ok (.goto 22, 3) := by decide +kernel
theorem d1_14 : decode method_2_code 14 = .ok (.iload_n 1, 1) := by decide +kernel
theorem d1_15 : decode method_2_code 15 = .ok (.iconst 1, 1) := by decide +kernel
theorem d1_16 : decode method_2_code 16 = .ok (.if_icmp .ne 9, 3) := by decide +kernel
theorem d1_19 : decode method_2_code 19 = .ok (.bipush 63, 2) := by decide +kernel
theorem d1_21 : decode method_2_code 21 = .ok (.istore_n 2, 1) := by decide +kernel
theorem d1_22 : decode method_2_code 22 = .ok (.goto 11, 3) := by decide +kernel
theorem d1_25 : decode method_2_code 25 = .ok (.iload_n 0, 1) := by decide +kernel
theorem d1_26 : decode method_2_code 26 = .ok (.iconst 2, 1) := by decide +kernel
theorem d1_27 : decode method_2_code 27 = .ok (.iushr, 1) := by decide +kernel
theorem d1_28 : decode method_2_code 28 = .ok (.ldc 7, 2) := by decide +kernel
theorem d1_30 : decode method_2_code 30 = .ok (.iand, 1) := by decide +kernel
theorem d1_31 : decode method_2_code 31 = .ok (.i2c, 1) := by decide +kernel
theorem d1_32 : decode method_2_code 32 = .ok (.istore_n 2, 1) := by decide +kernel
theorem d1_33 : decode method_2_code 33 = .ok (.iload_n 2, 1) := by decide +kernel
theorem d1_34 : decode method_2_code 34 = .ok (.ireturn, 1) := by decide +kernel
theorem pn_1 : plainName "com/example/canny_warden/cannywarden/engine/WildcardHasWildcardPinLaw" = true := by first | (simp [plainName, overriddenIn]; done) | decide +kernel
theorem ef_1 (m : MethodId) (x0 : Int32) : entryFrame m #[(.int x0)] 3 = mkF m 0 #[.val (.int x0), .unset, .unset] [] := by first | (simp [entryFrame, mkF, argsToLocals, Value.category]; done) | rfl
theorem d2_0 : decode jdk_42_method_3_code 0 = .ok (.aload_n 0, 1) := by decide +kernel
theorem d2_1 : decode jdk_42_method_3_code 1 = .ok (.aload_n 1, 1) := by decide +kernel
theorem d2_2 : decode jdk_42_method_3_code 2 = .ok (.iconst 0, 1) := by decide +kernel
theorem d2_3 : decode jdk_42_method_3_code 3 = .ok (.aload_n 1, 1) := by decide +kernel
theorem d2_4 : decode jdk_42_method_3_code 4 = .ok (.arraylength, 1) := by decide +kernel
theorem d2_5 : decode jdk_42_method_3_code 5 = .ok (.aconst_null, 1) := by decide +kernel
theorem d2_6 : decode jdk_42_method_3_code 6 = .ok (.invokespecial 27, 3) := by decide +kernel
theorem d2_9 : decode jdk_42_method_3_code 9 = .ok (.return_, 1) := by decide +kernel
theorem pn_2 : plainName "java/lang/String" = true := by first | (simp [plainName, overriddenIn]; done) | decide +kernel
theorem ef_2 (m : MethodId) (x0 : Addr) (x1 : Addr) : entryFrame m #[(.ref x0), (.ref x1)] 2 = mkF m 0 #[.val (.ref x0), .val (.ref x1)] [] := by first | (simp [entryFrame, mkF, argsToLocals, Value.category]; done) | rfl
theorem d3_0 : decode jdk_42_method_149_code 0 = .ok (.aload_n 0, 1) := by decide +kernel
theorem d3_1 : decode jdk_42_method_149_code 1 = .ok (.invokespecial 1, 3) := by decide +kernel
theorem d3_4 : decode jdk_42_method_149_code 4 = .ok (.iload_n 3, 1) := by decide +kernel
theorem d3_5 : decode jdk_42_method_149_code 5 = .ok (.ifCond .ne 22, 3) := by decide +kernel
theorem d3_8 : decode jdk_42_method_149_code 8 = .ok (.aload_n 0, 1) := by decide +kernel
theorem d3_9 : decode jdk_42_method_149_code 9 = .ok (.ldc 7, 2) := by decide +kernel
theorem d3_11 : decode jdk_42_method_149_code 11 = .ok (.getfield 9, 3) := by decide +kernel
theorem d3_14 : decode jdk_42_method_149_code 14 = .ok (.putfield 9, 3) := by decide +kernel
theorem d3_17 : decode jdk_42_method_149_code 17 = .ok (.aload_n 0, 1) := by decide +kernel
theorem d3_18 : decode jdk_42_method_149_code 18 = .ok (.ldc 7, 2) := by decide +kernel
theorem d3_20 : decode jdk_42_method_149_code 20 = .ok (.getfield 15, 3) := by decide +kernel
theorem d3_23 : decode jdk_42_method_149_code 23 = .ok (.putfield 15, 3) := by decide +kernel
theorem d3_26 : decode jdk_42_method_149_code 26 = .ok (.return_, 1) := by decide +kernel
theorem d3_27 : decode jdk_42_method_149_code 27 = .ok (.getstatic 38, 3) := by decide +kernel
theorem d3_30 : decode jdk_42_method_149_code 30 = .ok (.ifCond .eq 28, 3) := by decide +kernel
theorem d3_33 : decode jdk_42_method_149_code 33 = .ok (.aload_n 1, 1) := by decide +kernel
theorem d3_34 : decode jdk_42_method_149_code 34 = .ok (.iload_n 2, 1) := by decide +kernel
theorem d3_35 : decode jdk_42_method_149_code 35 = .ok (.iload_n 3, 1) := by decide +kernel
theorem d3_36 : decode jdk_42_method_149_code 36 = .ok (.invokestatic 177, 3) := by decide +kernel
theorem d3_39 : decode jdk_42_method_149_code 39 = .ok (.astore 5, 2) := by decide +kernel
theorem d3_41 : decode jdk_42_method_149_code 41 = .ok (.aload_n 0, 1) := by decide +kernel
theorem d3_42 : decode jdk_42_method_149_code 42 = .ok (.aload 5, 2) := by decide +kernel
theorem d3_44 : decode jdk_42_method_149_code 44 = .ok (.iload_n 3, 1) := by decide +kernel
theorem d3_45 : decode jdk_42_method_149_code 45 = .ok (.invokestatic 47, 3) := by decide +kernel
theorem d3_48 : decode jdk_42_method_149_code 48 = .ok (.putfield 15, 3) := by decide +kernel
theorem d3_51 : decode jdk_42_method_149_code 51 = .ok (.aload_n 0, 1) := by decide +kernel
theorem d3_52 : decode jdk_42_method_149_code 52 = .ok (.aload 5, 2) := by decide +kernel
theorem d3_54 : decode jdk_42_method_149_code 54 = .ok (.putfield 9, 3) := by decide +kernel
theorem d3_57 : decode jdk_42_method_149_code 57 = .ok (.return_, 1) := by decide +kernel
theorem d3_58 : decode jdk_42_method_149_code 58 = .ok (.aload_n 0, 1) := by decide +kernel
theorem d3_59 : decode jdk_42_method_149_code 59 = .ok (.iconst 1, 1) := by decide +kernel
theorem d3_60 : decode jdk_42_method_149_code 60 = .ok (.putfield 15, 3) := by decide +kernel
theorem d3_63 : decode jdk_42_method_149_code 63 = .ok (.aload_n 0, 1) := by decide +kernel
theorem d3_64 : decode jdk_42_method_149_code 64 = .ok (.aload_n 1, 1) := by decide +kernel
theorem d3_65 : decode jdk_42_method_149_code 65 = .ok (.iload_n 2, 1) := by decide +kernel
theorem d3_66 : decode jdk_42_method_149_code 66 = .ok (.iload_n 3, 1) := by decide +kernel
theorem pn_3 : plainName "java/lang/String" = true := by first | (simp [plainName, overriddenIn]; done) | decide +kernel
theorem ef_3 (m : MethodId) (x0 : Addr) (x1 : Addr) (x2 : Int32) (x3 : Int32) (x4 : Addr) : entryFrame m #[(.ref x0), (.ref x1), (.int x2), (.int x3), (.ref x4)] 6 = mkF m 0 #[.val (.ref x0), .val (.ref x1), .val (.int x2), .val (.int x3), .val (.ref x4), .unset] [] := by first | (simp [entryFrame, mkF, argsToLocals, Value.category]; done) | rfl
theorem ef_31U (m : MethodId) (x0 : Addr) (x1 : Addr) (x2 : Int32) (x3 : Int32) : entryFrame m #[(.ref x0), (.ref x1), (.int x2), (.int x3), .null] 6 = mkF m 0 #[.val (.ref x0), .val (.ref x1), .val (.int x2), .val (.int x3), .val .null, .unset] [] := by first | (simp [entryFrame, mkF, argsToLocals, Value.category]; done) | rfl
theorem ef_31L (m : MethodId) (x0 : Addr) (x1 : Addr) (x2 : Int32) (x3 : Int32) : entryFrame m #[(.ref x0), (.ref x1), (.int x2), (.int x3), .null] 6 = mkF m 0 #[.val (.ref x0), .val (.ref x1), .val (.int x2), .val (.int x3), .val .null, .unset] [] := by first | (simp [entryFrame, mkF, argsToLocals, Value.category]; done) | rfl
theorem ef_32U (m : MethodId) (x0 : Addr) (x1 : Addr) (x2 : Int32) (x3 : Int32) : entryFrame m #[(.ref x0), (.ref x1), (.int x2), (.int x3), .null] 6 = mkF m 0 #[.val (.ref x0), .val (.ref x1), .val (.int x2), .val (.int x3), .val .null, .unset] [] := by first | (simp [entryFrame, mkF, argsToLocals, Value.category]; done) | rfl
theorem ef_32L (m : MethodId) (x0 : Addr) (x1 : Addr) (x2 : Int32) (x3 : Int32) : entryFrame m #[(.ref x0), (.ref x1), (.int x2), (.int x3), .null] 6 = mkF m 0 #[.val (.ref x0), .val (.ref x1), .val (.int x2), .val (.int x3), .val .null, .unset] [] := by first | (simp [entryFrame, mkF, argsToLocals, Value.category]; done) | rfl
theorem ef_33U (m : MethodId) (x0 : Addr) (x1 : Addr) (x2 : Int32) (x3 : Int32) : entryFrame m #[(.ref x0), (.ref x1), (.int x2), (.int x3), .null] 6 = mkF m 0 #[.val (.ref x0), .val (.ref x1), .val (.int x2), .val (.int x3), .val .null, .unset] [] := by first | (simp [entryFrame, mkF, argsToLocals, Value.category]; done) | rfl
theorem ef_33L (m : MethodId) (x0 : Addr) (x1 : Addr) (x2 : Int32) (x3 : Int32) : entryFrame m #[(.ref x0), (.ref x1), (.int x2), (.int x3), .null] 6 = mkF m 0 #[.val (.ref x0), .val (.ref x1), .val (.int x2), .val (.int x3), .val .null, .unset] [] := by first | (simp [entryFrame, mkF, argsToLocals, Value.category]; done) | rfl
theorem ef_34U (m : MethodId) (x0 : Addr) (x1 : Addr) (x2 : Int32) (x3 : Int32) : entryFrame m #[(.ref x0), (.ref x1), (.int x2), (.int x3), .null] 6 = mkF m 0 #[.val (.ref x0), .val (.ref x1), .val (.int x2), .val (.int x3), .val .null, .unset] [] := by first | (simp [entryFrame, mkF, argsToLocals, Value.category]; done) | rfl
theorem ef_34L (m : MethodId) (x0 : Addr) (x1 : Addr) (x2 : Int32) (x3 : Int32) : entryFrame m #[(.ref x0), (.ref x1), (.int x2), (.int x3), .null] 6 = mkF m 0 #[.val (.ref x0), .val (.ref x1), .val (.int x2), .val (.int x3), .val .null, .unset] [] := by first | (simp [entryFrame, mkF, argsToLocals, Value.category]; done) | rfl
theorem ef_3e (m : MethodId) (x0 : Addr) (x1 : Addr) (x2 : Int32) (x3 : Int32) : entryFrame m #[(.ref x0), (.ref x1), (.int x2), (.int x3), .null] 6 = mkF m 0 #[.val (.ref x0), .val (.ref x1), .val (.int x2), .val (.int x3), .val .null, .unset] [] := by first | (simp [entryFrame, mkF, argsToLocals, Value.category]; done) | rfl
theorem d5_0 : decode prog_77_method_6_code 0 = .ok (.aload_n 0, 1) := by decide +kernel
theorem d5_1 : decode prog_77_method_6_code 1 = .ok (.bipush 42, 2) := by decide +kernel
theorem d5_3 : decode prog_77_method_6_code 3 = .ok (.invokevirtual 80, 3) := by decide +kernel
theorem d5_6 : decode prog_77_method_6_code 6 = .ok (.ifCond .ge 12, 3) := by decide +kernel
theorem d5_9 : decode prog_77_method_6_code 9 = .ok (.aload_n 0, 1) := by decide +kernel
theorem d5_10 : decode prog_77_method_6_code 10 = .ok (.bipush 63, 2) := by decide +kernel
theorem d5_12 : decode prog_77_method_6_code 12 = .ok (.invokevirtual 80, 3) := by decide +kernel
theorem d5_15 : decode prog_77_method_6_code 15 = .ok (.ifCond .lt 7, 3) := by decide +kernel
theorem d5_18 : decode prog_77_method_6_code 18 = .ok (.iconst 1, 1) := by decide +kernel
theorem d5_19 : decode prog_77_method_6_code 19 = .ok (.goto 4, 3) := by decide +kernel
theorem d5_22 : decode prog_77_method_6_code 22 = .ok (.iconst 0, 1) := by decide +kernel
theorem d5_23 : decode prog_77_method_6_code 23 = .ok (.ireturn, 1) := by decide +kernel
theorem pn_5 : plainName "com/example/canny_warden/cannywarden/engine/Wildcard" = true := by first | (simp [plainName, overriddenIn]; done) | decide +kernel
theorem ef_5 (m : MethodId) (x0 : Addr) : entryFrame m #[(.ref x0)] 1 = mkF m 0 #[.val (.ref x0)] [] := by first | (simp [entryFrame, mkF, argsToLocals, Value.category]; done) | rfl
theorem d6_0 : decode jdk_42_method_79_code 0 = .ok (.aload_n 0, 1) := by decide +kernel
theorem d6_1 : decode jdk_42_method_79_code 1 = .ok (.iload_n 1, 1) := by decide +kernel
theorem d6_2 : decode jdk_42_method_79_code 2 = .ok (.iconst 0, 1) := by decide +kernel
theorem d6_3 : decode jdk_42_method_79_code 3 = .ok (.invokevirtual 633, 3) := by decide +kernel
theorem d6_6 : decode jdk_42_method_79_code 6 = .ok (.ireturn, 1) := by decide +kernel
theorem pn_6 : plainName "java/lang/String" = true := by first | (simp [plainName, overriddenIn]; done) | decide +kernel
theorem ef_6 (m : MethodId) (x0 : Addr) (x1 : Int32) : entryFrame m #[(.ref x0), (.int x1)] 2 = mkF m 0 #[.val (.ref x0), .val (.int x1)] [] := by first | (simp [entryFrame, mkF, argsToLocals, Value.category]; done) | rfl
theorem d7_0 : decode jdk_42_method_80_code 0 = .ok (.aload_n 0, 1) := by decide +kernel
theorem d7_1 : decode jdk_42_method_80_code 1 = .ok (.invokevirtual 492, 3) := by decide +kernel
theorem d7_4 : decode jdk_42_method_80_code 4 = .ok (.ifCond .eq 19, 3) := by decide +kernel
theorem d7_7 : decode jdk_42_method_80_code 7 = .ok (.aload_n 0, 1) := by decide +kernel
theorem d7_8 : decode jdk_42_method_80_code 8 = .ok (.getfield 9, 3) := by decide +kernel
theorem d7_11 : decode jdk_42_method_80_code 11 = .ok (.iload_n 1, 1) := by decide +kernel
theorem d7_12 : decode jdk_42_method_80_code 12 = .ok (.iload_n 2, 1) := by decide +kernel
theorem d7_13 : decode jdk_42_method_80_code 13 = .ok (.aload_n 0, 1) := by decide +kernel
theorem d7_14 : decode jdk_42_method_80_code 14 = .ok (.invokevirtual 505, 3) := by decide +kernel
theorem d7_17 : decode jdk_42_method_80_code 17 = .ok (.invokestatic 637, 3) := by decide +kernel
theorem d7_20 : decode jdk_42_method_80_code 20 = .ok (.goto 16, 3) := by decide +kernel
theorem d7_23 : decode jdk_42_method_80_code 23 = .ok (.aload_n 0, 1) := by decide +kernel
theorem d7_24 : decode jdk_42_method_80_code 24 = .ok (.getfield 9, 3) := by decide +kernel
theorem d7_27 : decode jdk_42_method_80_code 27 = .ok (.iload_n 1, 1) := by decide +kernel
theorem d7_28 : decode jdk_42_method_80_code 28 = .ok (.iload_n 2, 1) := by decide +kernel
theorem d7_29 : decode jdk_42_method_80_code 29 = .ok (.aload_n 0, 1) := by decide +kernel
theorem d7_30 : decode jdk_42_method_80_code 30 = .ok (.invokevirtual 505, 3) := by decide +kernel
theorem d7_33 : decode jdk_42_method_80_code 33 = .ok (.invokestatic 640, 3) := by decide +kernel
theorem d7_36 : decode jdk_42_method_80_code 36 = .ok (.ireturn, 1) := by decide +kernel
theorem pn_7 : plainName "java/lang/String" = true := by first | (simp [plainName, overriddenIn]; done) | decide +kernel
theorem ef_7 (m : MethodId) (x0 : Addr) (x1 : Int32) (x2 : Int32) : entryFrame m #[(.ref x0), (.int x1), (.int x2)] 3 = mkF m 0 #[.val (.ref x0), .val (.int x1), .val (.int x2)] [] := by first | (simp [entryFrame, mkF, argsToLocals, Value.category]; done) | rfl
theorem d8_0 : decode jdk_42_method_154_code 0 = .ok (.getstatic 38, 3) := by decide +kernel
theorem d8_3 : decode jdk_42_method_154_code 3 = .ok (.ifCond .eq 14, 3) := by decide +kernel
theorem d8_6 : decode jdk_42_method_154_code 6 = .ok (.aload_n 0, 1) := by decide +kernel
theorem d8_7 : decode jdk_42_method_154_code 7 = .ok (.getfield 15, 3) := by decide +kernel
theorem d8_10 : decode jdk_42_method_154_code 10 = .ok (.ifCond .ne 7, 3) := by decide +kernel
theorem d8_13 : decode jdk_42_method_154_code 13 = .ok (.iconst 1, 1) := by decide +kernel
theorem d8_14 : decode jdk_42_method_154_code 14 = .ok (.goto 4, 3) := by decide +kernel
theorem d8_17 : decode jdk_42_method_154_code 17 = .ok (.iconst 0, 1) := by decide +kernel
theorem d8_18 : decode jdk_42_method_154_code 18 = .ok (.ireturn, 1) := by decide +kernel
theorem pn_8 : plainName "java/lang/String" = true := by first | (simp [plainName, overriddenIn]; done) | decide +kernel
theorem ef_8 (m : MethodId) (x0 : Addr) : entryFrame m #[(.ref x0)] 1 = mkF m 0 #[.val (.ref x0)] [] := by first | (simp [entryFrame, mkF, argsToLocals, Value.category]; done) | rfl
theorem d9_0 : decode jdk_42_method_54_code 0 = .ok (.aload_n 0, 1) := by decide +kernel
theorem d9_1 : decode jdk_42_method_54_code 1 = .ok (.getfield 9, 3) := by decide +kernel
theorem d9_4 : decode jdk_42_method_54_code 4 = .ok (.arraylength, 1) := by decide +kernel
theorem d9_5 : decode jdk_42_method_54_code 5 = .ok (.aload_n 0, 1) := by decide +kernel
theorem d9_6 : decode jdk_42_method_54_code 6 = .ok (.invokevirtual 335, 3) := by decide +kernel
theorem d9_9 : decode jdk_42_method_54_code 9 = .ok (.ishr, 1) := by decide +kernel
theorem d9_10 : decode jdk_42_method_54_code 10 = .ok (.ireturn, 1) := by decide +kernel
theorem pn_9 : plainName "java/lang/String" = true := by first | (simp [plainName, overriddenIn]; done) | decide +kernel
theorem ef_9 (m : MethodId) (x0 : Addr) : entryFrame m #[(.ref x0)] 1 = mkF m 0 #[.val (.ref x0)] [] := by first | (simp [entryFrame, mkF, argsToLocals, Value.category]; done) | rfl
theorem d10_0 : decode jdk_42_method_152_code 0 = .ok (.getstatic 38, 3) := by decide +kernel
theorem d10_3 : decode jdk_42_method_152_code 3 = .ok (.ifCond .eq 10, 3) := by decide +kernel
theorem d10_6 : decode jdk_42_method_152_code 6 = .ok (.aload_n 0, 1) := by decide +kernel
theorem d10_7 : decode jdk_42_method_152_code 7 = .ok (.getfield 15, 3) := by decide +kernel
theorem d10_10 : decode jdk_42_method_152_code 10 = .ok (.goto 4, 3) := by decide +kernel
theorem d10_13 : decode jdk_42_method_152_code 13 = .ok (.iconst 1, 1) := by decide +kernel
theorem d10_14 : decode jdk_42_method_152_code 14 = .ok (.ireturn, 1) := by decide +kernel
theorem pn_10 : plainName "java/lang/String" = true := by first | (simp [plainName, overriddenIn]; done) | decide +kernel
theorem ef_10 (m : MethodId) (x0 : Addr) : entryFrame m #[(.ref x0)] 1 = mkF m 0 #[.val (.ref x0)] [] := by first | (simp [entryFrame, mkF, argsToLocals, Value.category]; done) | rfl
theorem d11_0 : decode jdk_43_method_22_code 0 = .ok (.iload_n 1, 1) := by decide +kernel
theorem d11_1 : decode jdk_43_method_22_code 1 = .ok (.invokestatic 88, 3) := by decide +kernel
theorem d11_4 : decode jdk_43_method_22_code 4 = .ok (.ifCond .ne 5, 3) := by decide +kernel
theorem d11_9 : decode jdk_43_method_22_code 9 = .ok (.iload_n 2, 1) := by decide +kernel
theorem d11_10 : decode jdk_43_method_22_code 10 = .ok (.iconst 0, 1) := by decide +kernel
theorem d11_11 : decode jdk_43_method_22_code 11 = .ok (.invokestatic 92, 3) := by decide +kernel
theorem d11_14 : decode jdk_43_method_22_code 14 = .ok (.istore_n 2, 1) := by decide +kernel
theorem d11_15 : decode jdk_43_method_22_code 15 = .ok (.iload_n 3, 1) := by decide +kernel
theorem d11_16 : decode jdk_43_method_22_code 16 = .ok (.aload_n 0, 1) := by decide +kernel
theorem d11_17 : decode jdk_43_method_22_code 17 = .ok (.arraylength, 1) := by decide +kernel
theorem d11_18 : decode jdk_43_method_22_code 18 = .ok (.invokestatic 38, 3) := by decide +kernel
theorem d11_21 : decode jdk_43_method_22_code 21 = .ok (.istore_n 3, 1) := by decide +kernel
theorem d11_22 : decode jdk_43_method_22_code 22 = .ok (.iload_n 2, 1) := by decide +kernel
theorem d11_23 : decode jdk_43_method_22_code 23 = .ok (.iload_n 3, 1) := by decide +kernel
theorem d11_24 : decode jdk_43_method_22_code 24 = .ok (.if_icmp .lt 5, 3) := by decide +kernel
theorem d11_27 : decode jdk_43_method_22_code 27 = .ok (.iconst (-1), 1) := by decide +kernel
theorem d11_28 : decode jdk_43_method_22_code 28 = .ok (.ireturn, 1) := by decide +kernel
theorem d11_29 : decode jdk_43_method_22_code 29 = .ok (.aload_n 0, 1) := by decide +kernel
theorem d11_30 : decode jdk_43_method_22_code 30 = .ok (.iload_n 1, 1) := by decide +kernel
theorem d11_31 : decode jdk_43_method_22_code 31 = .ok (.iload_n 2, 1) := by decide +kernel
theorem d11_32 : decode jdk_43_method_22_code 32 = .ok (.iload_n 3, 1) := by decide +kernel
theorem d11_33 : decode jdk_43_method_22_code 33 = .ok (.invokestatic 95, 3) := by decide +kernel
theorem d11_36 : decode jdk_43_method_22_code 36 = .ok (.ireturn, 1) := by decide +kernel
theorem pn_11 : plainName "java/lang/StringLatin1" = true := by first | (simp [plainName, overriddenIn]; done) | decide +kernel
theorem ef_11 (m : MethodId) (x0 : Addr) (x1 : Int32) (x2 : Int32) (x3 : Int32) : entryFrame m #[(.ref x0), (.int x1), (.int x2), (.int x3)] 4 = mkF m 0 #[.val (.ref x0), .val (.int x1), .val (.int x2), .val (.int x3)] [] := by first | (simp [entryFrame, mkF, argsToLocals, Value.category]; done) | rfl
theorem d12_0 : decode jdk_43_method_4_code 0 = .ok (.iload_n 0, 1) := by decide +kernel
theorem d12_1 : decode jdk_43_method_4_code 1 = .ok (.ifCond .lt 14, 3) := by decide +kernel
theorem d12_4 : decode jdk_43_method_4_code 4 = .ok (.iload_n 0, 1) := by decide +kernel
theorem d12_5 : decode jdk_43_method_4_code 5 = .ok (.sipush 255, 3) := by decide +kernel
theorem d12_8 : decode jdk_43_method_4_code 8 = .ok (.if_icmp .gt 7, 3) := by decide +kernel
theorem d12_11 : decode jdk_43_method_4_code 11 = .ok (.iconst 1, 1) := by decide +kernel
theorem d12_12 : decode jdk_43_method_4_code 12 = .ok (.goto 4, 3) := by decide +kernel
theorem d12_15 : decode jdk_43_method_4_code 15 = .ok (.iconst 0, 1) := by decide +kernel
theorem d12_16 : decode jdk_43_method_4_code 16 = .ok (.ireturn, 1) := by decide +kernel
theorem pn_12 : plainName "java/lang/StringLatin1" = true := by first | (simp [plainName, overriddenIn]; done) | decide +kernel
theorem ef_12 (m : MethodId) (x0 : Int32) : entryFrame m #[(.int x0)] 1 = mkF m 0 #[.val (.int x0)] [] := by first | (simp [entryFrame, mkF, argsToLocals, Value.category]; done) | rfl
theorem d13_0 : decode jdk_29_method_65_code 0 = .ok (.iload_n 0, 1) := by decide +kernel
theorem d13_1 : decode jdk_29_method_65_code 1 = .ok (.iload_n 1, 1) := by decide +kernel
theorem d13_2 : decode jdk_29_method_65_code 2 = .ok (.if_icmp .lt 7, 3) := by decide +kernel
theorem d13_5 : decode jdk_29_method_65_code 5 = .ok (.iload_n 0, 1) := by decide +kernel
theorem d13_6 : decode jdk_29_method_65_code 6 = .ok (.goto 4, 3) := by decide +kernel
theorem d13_10 : decode jdk_29_method_65_code 10 = .ok (.ireturn, 1) := by decide +kernel
theorem ef_13 (m : MethodId) (x0 : Int32) (x1 : Int32) : entryFrame m #[(.int x0), (.int x1)] 2 = mkF m 0 #[.val (.int x0), .val (.int x1)] [] := by first | (simp [entryFrame, mkF, argsToLocals, Value.category]; done) | rfl
theorem d14_0 : decode jdk_29_method_69_code 0 = .ok (.iload_n 0, 1) := by decide +kernel
theorem d14_1 : decode jdk_29_method_69_code 1 = .ok (.iload_n 1, 1) := by decide +kernel
theorem d14_2 : decode jdk_29_method_69_code 2 = .ok (.if_icmp .gt 7, 3) := by decide +kernel
theorem d14_5 : decode jdk_29_method_69_code 5 = .ok (.iload_n 0, 1) := by decide +kernel
theorem d14_6 : decode jdk_29_method_69_code 6 = .ok (.goto 4, 3) := by decide +kernel
theorem d14_10 : decode jdk_29_method_69_code 10 = .ok (.ireturn, 1) := by decide +kernel
theorem ef_14 (m : MethodId) (x0 : Int32) (x1 : Int32) : entryFrame m #[(.int x0), (.int x1)] 2 = mkF m 0 #[.val (.int x0), .val (.int x1)] [] := by first | (simp [entryFrame, mkF, argsToLocals, Value.category]; done) | rfl
theorem d15_0 : decode jdk_52_method_16_code 0 = .ok (.iload_n 2, 1) := by decide +kernel
theorem d15_1 : decode jdk_52_method_16_code 1 = .ok (.newarray .byte, 2) := by decide +kernel
theorem d15_3 : decode jdk_52_method_16_code 3 = .ok (.astore_n 3, 1) := by decide +kernel
theorem d15_4 : decode jdk_52_method_16_code 4 = .ok (.aload_n 0, 1) := by decide +kernel
theorem d15_5 : decode jdk_52_method_16_code 5 = .ok (.iload_n 1, 1) := by decide +kernel
theorem d15_6 : decode jdk_52_method_16_code 6 = .ok (.aload_n 3, 1) := by decide +kernel
theorem d15_7 : decode jdk_52_method_16_code 7 = .ok (.iconst 0, 1) := by decide +kernel
theorem d15_8 : decode jdk_52_method_16_code 8 = .ok (.iload_n 2, 1) := by decide +kernel
theorem d15_9 : decode jdk_52_method_16_code 9 = .ok (.invokestatic 115, 3) := by decide +kernel
theorem d15_12 : decode jdk_52_method_16_code 12 = .ok (.istore 4, 2) := by decide +kernel
theorem d15_14 : decode jdk_52_method_16_code 14 = .ok (.iload 4, 2) := by decide +kernel
theorem d15_16 : decode jdk_52_method_16_code 16 = .ok (.iload_n 2, 1) := by decide +kernel
theorem d15_17 : decode jdk_52_method_16_code 17 = .ok (.if_icmp .eq 40, 3) := by decide +kernel
theorem d15_20 : decode jdk_52_method_16_code 20 = .ok (.aload_n 0, 1) := by decide +kernel
theorem d15_21 : decode jdk_52_method_16_code 21 = .ok (.iload_n 1, 1) := by decide +kernel
theorem d15_22 : decode jdk_52_method_16_code 22 = .ok (.iload_n 2, 1) := by decide +kernel
theorem d15_23 : decode jdk_52_method_16_code 23 = .ok (.invokestatic 119, 3) := by decide +kernel
theorem d15_26 : decode jdk_52_method_16_code 26 = .ok (.astore 5, 2) := by decide +kernel
theorem d15_28 : decode jdk_52_method_16_code 28 = .ok (.aload 5, 2) := by decide +kernel
theorem d15_30 : decode jdk_52_method_16_code 30 = .ok (.iload 4, 2) := by decide +kernel
theorem d15_32 : decode jdk_52_method_16_code 32 = .ok (.invokestatic 71, 3) := by decide +kernel
theorem d15_35 : decode jdk_52_method_16_code 35 = .ok (.sipush 255, 3) := by decide +kernel
theorem d15_38 : decode jdk_52_method_16_code 38 = .ok (.if_icmp .gt 16, 3) := by decide +kernel
theorem d15_54 : decode jdk_52_method_16_code 54 = .ok (.aload 5, 2) := by decide +kernel
theorem d15_56 : decode jdk_52_method_16_code 56 = .ok (.areturn, 1) := by decide +kernel
theorem d15_57 : decode jdk_52_method_16_code 57 = .ok (.aload_n 3, 1) := by decide +kernel
theorem d15_58 : decode jdk_52_method_16_code 58 = .ok (.areturn, 1) := by decide +kernel
theorem pn_15 : plainName "java/lang/StringUTF16" = true := by first | (simp [plainName, overriddenIn]; done) | decide +kernel
theorem ef_15 (m : MethodId) (x0 : Addr) (x1 : Int32) (x2 : Int32) : entryFrame m #[(.ref x0), (.int x1), (.int x2)] 6 = mkF m 0 #[.val (.ref x0), .val (.int x1), .val (.int x2), .unset, .unset, .unset] [] := by first | (simp [entryFrame, mkF, argsToLocals, Value.category]; done) | rfl
theorem d16_0 : decode jdk_52_method_21_code 0 = .ok (.iconst 0, 1) := by decide +kernel
theorem d16_1 : decode jdk_52_method_21_code 1 = .ok (.istore 5, 2) := by decide +kernel
theorem d16_3 : decode jdk_52_method_21_code 3 = .ok (.iload 5, 2) := by decide +kernel
theorem d16_5 : decode jdk_52_method_21_code 5 = .ok (.iload 4, 2) := by decide +kernel
theorem d16_7 : decode jdk_52_method_21_code 7 = .ok (.if_icmp .ge 37, 3) := by decide +kernel
theorem d16_10 : decode jdk_52_method_21_code 10 = .ok (.aload_n 0, 1) := by decide +kernel
theorem d16_11 : decode jdk_52_method_21_code 11 = .ok (.iload_n 1, 1) := by decide +kernel
theorem d16_12 : decode jdk_52_method_21_code 12 = .ok (.caload, 1) := by decide +kernel
theorem d16_13 : decode jdk_52_method_21_code 13 = .ok (.istore 6, 2) := by decide +kernel
theorem d16_15 : decode jdk_52_method_21_code 15 = .ok (.iload 6, 2) := by decide +kernel
theorem d16_17 : decode jdk_52_method_21_code 17 = .ok (.sipush 255, 3) := by decide +kernel
theorem d16_20 : decode jdk_52_method_21_code 20 = .ok (.if_icmp .le 6, 3) := by decide +kernel
theorem d16_23 : decode jdk_52_method_21_code 23 = .ok (.iload 5, 2) := by decide +kernel
theorem d16_25 : decode jdk_52_method_21_code 25 = .ok (.ireturn, 1) := by decide +kernel
theorem d16_26 : decode jdk_52_method_21_code 26 = .ok (.aload_n 2, 1) := by decide +kernel
theorem d16_27 : decode jdk_52_method_21_code 27 = .ok (.iload_n 3, 1) := by decide +kernel
theorem d16_28 : decode jdk_52_method_21_code 28 = .ok (.iload 6, 2) := by decide +kernel
theorem d16_30 : decode jdk_52_method_21_code 30 = .ok (.i2b, 1) := by decide +kernel
theorem d16_31 : decode jdk_52_method_21_code 31 = .ok (.bastore, 1) := by decide +kernel
theorem d16_32 : decode jdk_52_method_21_code 32 = .ok (.iinc 1 1, 3) := by decide +kernel
theorem d16_35 : decode jdk_52_method_21_code 35 = .ok (.iinc 3 1, 3) := by decide +kernel
theorem d16_38 : decode jdk_52_method_21_code 38 = .ok (.iinc 5 1, 3) := by decide +kernel
theorem d16_41 : decode jdk_52_method_21_code 41 = .ok (.goto (-38), 3) := by decide +kernel
theorem d16_44 : decode jdk_52_method_21_code 44 = .ok (.iload 4, 2) := by decide +kernel
theorem d16_46 : decode jdk_52_method_21_code 46 = .ok (.ireturn, 1) := by decide +kernel
theorem pn_16 : plainName "java/lang/StringUTF16" = true := by first | (simp [plainName, overriddenIn]; done) | decide +kernel
theorem ef_16 (m : MethodId) (x0 : Addr) (x1 : Int32) (x2 : Addr) (x3 : Int32) (x4 : Int32) : entryFrame m #[(.ref x0), (.int x1), (.ref x2), (.int x3), (.int x4)] 7 = mkF m 0 #[.val (.ref x0), .val (.int x1), .val (.ref x2), .val (.int x3), .val (.int x4), .unset, .unset] [] := by first | (simp [entryFrame, mkF, argsToLocals, Value.category]; done) | rfl
theorem d17_0 : decode jdk_52_method_15_code 0 = .ok (.iload_n 1, 1) := by decide +kernel
theorem d17_1 : decode jdk_52_method_15_code 1 = .ok (.aload_n 0, 1) := by decide +kernel
theorem d17_2 : decode jdk_52_method_15_code 2 = .ok (.arraylength, 1) := by decide +kernel
theorem d17_3 : decode jdk_52_method_15_code 3 = .ok (.isub, 1) := by decide +kernel
theorem d17_4 : decode jdk_52_method_15_code 4 = .ok (.bipush 31, 2) := by decide +kernel
theorem d17_6 : decode jdk_52_method_15_code 6 = .ok (.iushr, 1) := by decide +kernel
theorem d17_7 : decode jdk_52_method_15_code 7 = .ok (.i2b, 1) := by decide +kernel
theorem d17_8 : decode jdk_52_method_15_code 8 = .ok (.ireturn, 1) := by decide +kernel
theorem pn_17 : plainName "java/lang/StringUTF16" = true := by first | (simp [plainName, overriddenIn]; done) | decide +kernel
theorem ef_17 (m : MethodId) (x0 : Addr) (x1 : Int32) : entryFrame m #[(.ref x0), (.int x1)] 2 = mkF m 0 #[.val (.ref x0), .val (.int x1)] [] := by first | (simp [entryFrame, mkF, argsToLocals, Value.category]; done) | rfl
theorem d18_0 : decode method_3_code 0 = .ok (.iload_n 0, 1) := by decide +kernel
theorem d18_1 : decode method_3_code 1 = .ok (.bipush 42, 2) := by decide +kernel
theorem d18_3 : decode method_3_code 3 = .ok (.if_icmp .eq 9, 3) := by decide +kernel
theorem d18_6 : decode method_3_code 6 = .ok (.iload_n 0, 1) := by decide +kernel
theorem d18_7 : decode method_3_code 7 = .ok (.bipush 63, 2) := by decide +kernel
theorem d18_9 : decode method_3_code 9 = .ok (.if_icmp .ne 7, 3) := by decide +kernel
theorem d18_12 : decode method_3_code 12 = .ok (.iconst 1, 1) := by decide +kernel
theorem d18_13 : decode method_3_code 13 = .ok (.goto 4, 3) := by decide +kernel
theorem d18_16 : decode method_3_code 16 = .ok (.iconst 0, 1) := by decide +kernel
theorem d18_17 : decode method_3_code 17 = .ok (.ireturn, 1) := by decide +kernel
theorem pn_18 : plainName "com/example/canny_warden/cannywarden/engine/WildcardHasWildcardPinLaw" = true := by first | (simp [plainName, overriddenIn]; done) | decide +kernel
theorem ef_18 (m : MethodId) (x0 : Int32) : entryFrame m #[(.int x0)] 1 = mkF m 0 #[.val (.int x0)] [] := by first | (simp [entryFrame, mkF, argsToLocals, Value.category]; done) | rfl
theorem d19_0 : decode jdk_43_method_23_code 0 = .ok (.iload_n 1, 1) := by decide +kernel
theorem d19_1 : decode jdk_43_method_23_code 1 = .ok (.i2b, 1) := by decide +kernel
theorem d19_2 : decode jdk_43_method_23_code 2 = .ok (.istore 4, 2) := by decide +kernel
theorem d19_4 : decode jdk_43_method_23_code 4 = .ok (.iload_n 2, 1) := by decide +kernel
theorem d19_5 : decode jdk_43_method_23_code 5 = .ok (.istore 5, 2) := by decide +kernel
theorem d19_7 : decode jdk_43_method_23_code 7 = .ok (.iload 5, 2) := by decide +kernel
theorem d19_9 : decode jdk_43_method_23_code 9 = .ok (.iload_n 3, 1) := by decide +kernel
theorem d19_10 : decode jdk_43_method_23_code 10 = .ok (.if_icmp .ge 21, 3) := by decide +kernel
theorem d19_13 : decode jdk_43_method_23_code 13 = .ok (.aload_n 0, 1) := by decide +kernel
theorem d19_14 : decode jdk_43_method_23_code 14 = .ok (.iload 5, 2) := by decide +kernel
theorem d19_16 : decode jdk_43_method_23_code 16 = .ok (.baload, 1) := by decide +kernel
theorem d19_17 : decode jdk_43_method_23_code 17 = .ok (.iload 4, 2) := by decide +kernel
theorem d19_19 : decode jdk_43_method_23_code 19 = .ok (.if_icmp .ne 6, 3) := by decide +kernel
theorem d19_22 : decode jdk_43_method_23_code 22 = .ok (.iload 5, 2) := by decide +kernel
theorem d19_24 : decode jdk_43_method_23_code 24 = .ok (.ireturn, 1) := by decide +kernel
theorem d19_25 : decode jdk_43_method_23_code 25 = .ok (.iinc 5 1, 3) := by decide +kernel
theorem d19_28 : decode jdk_43_method_23_code 28 = .ok (.goto (-21), 3) := by decide +kernel
theorem d19_31 : decode jdk_43_method_23_code 31 = .ok (.iconst (-1), 1) := by decide +kernel
theorem d19_32 : decode jdk_43_method_23_code 32 = .ok (.ireturn, 1) := by decide +kernel
theorem pn_19 : plainName "java/lang/StringLatin1" = true := by first | (simp [plainName, overriddenIn]; done) | decide +kernel
theorem ef_19 (m : MethodId) (x0 : Addr) (x1 : Int32) (x2 : Int32) (x3 : Int32) : entryFrame m #[(.ref x0), (.int x1), (.int x2), (.int x3)] 6 = mkF m 0 #[.val (.ref x0), .val (.int x1), .val (.int x2), .val (.int x3), .unset, .unset] [] := by first | (simp [entryFrame, mkF, argsToLocals, Value.category]; done) | rfl
theorem d20_0 : decode jdk_52_method_14_code 0 = .ok (.iload_n 2, 1) := by decide +kernel
theorem d20_1 : decode jdk_52_method_14_code 1 = .ok (.invokestatic 107, 3) := by decide +kernel
theorem d20_4 : decode jdk_52_method_14_code 4 = .ok (.astore_n 3, 1) := by decide +kernel
theorem d20_5 : decode jdk_52_method_14_code 5 = .ok (.iconst 0, 1) := by decide +kernel
theorem d20_6 : decode jdk_52_method_14_code 6 = .ok (.istore 4, 2) := by decide +kernel
theorem d20_8 : decode jdk_52_method_14_code 8 = .ok (.iload 4, 2) := by decide +kernel
theorem d20_10 : decode jdk_52_method_14_code 10 = .ok (.iload_n 2, 1) := by decide +kernel
theorem d20_11 : decode jdk_52_method_14_code 11 = .ok (.if_icmp .ge 21, 3) := by decide +kernel
theorem d20_14 : decode jdk_52_method_14_code 14 = .ok (.aload_n 3, 1) := by decide +kernel
theorem d20_15 : decode jdk_52_method_14_code 15 = .ok (.iload 4, 2) := by decide +kernel
theorem d20_17 : decode jdk_52_method_14_code 17 = .ok (.aload_n 0, 1) := by decide +kernel
theorem d20_18 : decode jdk_52_method_14_code 18 = .ok (.iload_n 1, 1) := by decide +kernel
theorem d20_19 : decode jdk_52_method_14_code 19 = .ok (.caload, 1) := by decide +kernel
theorem d20_20 : decode jdk_52_method_14_code 20 = .ok (.invokestatic 111, 3) := by decide +kernel
theorem d20_23 : decode jdk_52_method_14_code 23 = .ok (.iinc 1 1, 3) := by decide +kernel
theorem d20_26 : decode jdk_52_method_14_code 26 = .ok (.iinc 4 1, 3) := by decide +kernel
theorem d20_29 : decode jdk_52_method_14_code 29 = .ok (.goto (-21), 3) := by decide +kernel
theorem d20_32 : decode jdk_52_method_14_code 32 = .ok (.aload_n 3, 1) := by decide +kernel
theorem d20_33 : decode jdk_52_method_14_code 33 = .ok (.areturn, 1) := by decide +kernel
theorem pn_20 : plainName "java/lang/StringUTF16" = true := by first | (simp [plainName, overriddenIn]; done) | decide +kernel
theorem ef_20 (m : MethodId) (x0 : Addr) (x1 : Int32) (x2 : Int32) : entryFrame m #[(.ref x0), (.int x1), (.int x2)] 5 = mkF m 0 #[.val (.ref x0), .val (.int x1), .val (.int x2), .unset, .unset] [] := by first | (simp [entryFrame, mkF, argsToLocals, Value.category]; done) | rfl
theorem d21_0 : decode jdk_52_method_2_code 0 = .ok (.iload_n 0, 1) := by decide +kernel
theorem d21_1 : decode jdk_52_method_2_code 1 = .ok (.invokestatic 11, 3) := by decide +kernel
theorem d21_4 : decode jdk_52_method_2_code 4 = .ok (.newarray .byte, 2) := by decide +kernel
theorem d21_6 : decode jdk_52_method_2_code 6 = .ok (.areturn, 1) := by decide +kernel
theorem pn_21 : plainName "java/lang/StringUTF16" = true := by first | (simp [plainName, overriddenIn]; done) | decide +kernel
theorem ef_21 (m : MethodId) (x0 : Int32) : entryFrame m #[(.int x0)] 1 = mkF m 0 #[.val (.int x0)] [] := by first | (simp [entryFrame, mkF, argsToLocals, Value.category]; done) | rfl
theorem d22_0 : decode jdk_52_method_3_code 0 = .ok (.iload_n 0, 1) := by decide +kernel
theorem d22_1 : decode jdk_52_method_3_code 1 = .ok (.ifCond .ge 11, 3) := by decide +kernel
theorem d22_12 : decode jdk_52_method_3_code 12 = .ok (.iload_n 0, 1) := by decide +kernel
theorem d22_13 : decode jdk_52_method_3_code 13 = .ok (.ldc 20, 2) := by decide +kernel
theorem d22_15 : decode jdk_52_method_3_code 15 = .ok (.if_icmp .lt 40, 3) := by decide +kernel
theorem d22_55 : decode jdk_52_method_3_code 55 = .ok (.iload_n 0, 1) := by decide +kernel
theorem d22_56 : decode jdk_52_method_3_code 56 = .ok (.iconst 1, 1) := by decide +kernel
theorem d22_57 : decode jdk_52_method_3_code 57 = .ok (.ishl, 1) := by decide +kernel
theorem d22_58 : decode jdk_52_method_3_code 58 = .ok (.ireturn, 1) := by decide +kernel
theorem pn_22 : plainName "java/lang/StringUTF16" = true := by first | (simp [plainName, overriddenIn]; done) | decide +kernel
theorem ef_22 (m : MethodId) (x0 : Int32) : entryFrame m #[(.int x0)] 1 = mkF m 0 #[.val (.int x0)] [] := by first | (simp [entryFrame, mkF, argsToLocals, Value.category]; done) | rfl
theorem d23_0 : decode jdk_52_method_4_code 0 = .ok (.getstatic 44, 3) := by decide +kernel
theorem d23_3 : decode jdk_52_method_4_code 3 = .ok (.ifCond .ne 25, 3) := by decide +kernel
theorem d23_28 : decode jdk_52_method_4_code 28 = .ok (.iload_n 1, 1) := by decide +kernel
theorem d23_29 : decode jdk_52_method_4_code 29 = .ok (.iconst 1, 1) := by decide +kernel
theorem d23_30 : decode jdk_52_method_4_code 30 = .ok (.ishl, 1) := by decide +kernel
theorem d23_31 : decode jdk_52_method_4_code 31 = .ok (.istore_n 1, 1) := by decide +kernel
theorem d23_32 : decode jdk_52_method_4_code 32 = .ok (.aload_n 0, 1) := by decide +kernel
theorem d23_33 : decode jdk_52_method_4_code 33 = .ok (.iload_n 1, 1) := by decide +kernel
theorem d23_34 : decode jdk_52_method_4_code 34 = .ok (.iinc 1 1, 3) := by decide +kernel
theorem d23_37 : decode jdk_52_method_4_code 37 = .ok (.iload_n 2, 1) := by decide +kernel
theorem d23_38 : decode jdk_52_method_4_code 38 = .ok (.getstatic 59, 3) := by decide +kernel
theorem d23_41 : decode jdk_52_method_4_code 41 = .ok (.ishr, 1) := by decide +kernel
theorem d23_42 : decode jdk_52_method_4_code 42 = .ok (.i2b, 1) := by decide +kernel
theorem d23_43 : decode jdk_52_method_4_code 43 = .ok (.bastore, 1) := by decide +kernel
theorem d23_44 : decode jdk_52_method_4_code 44 = .ok (.aload_n 0, 1) := by decide +kernel
theorem d23_45 : decode jdk_52_method_4_code 45 = .ok (.iload_n 1, 1) := by decide +kernel
theorem d23_46 : decode jdk_52_method_4_code 46 = .ok (.iload_n 2, 1) := by decide +kernel
theorem d23_47 : decode jdk_52_method_4_code 47 = .ok (.getstatic 63, 3) := by decide +kernel
theorem d23_50 : decode jdk_52_method_4_code 50 = .ok (.ishr, 1) := by decide +kernel
theorem d23_51 : decode jdk_52_method_4_code 51 = .ok (.i2b, 1) := by decide +kernel
theorem d23_52 : decode jdk_52_method_4_code 52 = .ok (.bastore, 1) := by decide +kernel
theorem d23_53 : decode jdk_52_method_4_code 53 = .ok (.return_, 1) := by decide +kernel
theorem pn_23 : plainName "java/lang/StringUTF16" = true := by first | (simp [plainName, overriddenIn]; done) | decide +kernel
theorem ef_23 (m : MethodId) (x0 : Addr) (x1 : Int32) (x2 : Int32) : entryFrame m #[(.ref x0), (.int x1), (.int x2)] 3 = mkF m 0 #[.val (.ref x0), .val (.int x1), .val (.int x2)] [] := by first | (simp [entryFrame, mkF, argsToLocals, Value.category]; done) | rfl
theorem d24_0 : decode jdk_52_method_5_code 0 = .ok (.getstatic 44, 3) := by decide +kernel
theorem d24_3 : decode jdk_52_method_5_code 3 = .ok (.ifCond .ne 25, 3) := by decide +kernel
theorem d24_28 : decode jdk_52_method_5_code 28 = .ok (.iload_n 1, 1) := by decide +kernel
theorem d24_29 : decode jdk_52_method_5_code 29 = .ok (.iconst 1, 1) := by decide +kernel
theorem d24_30 : decode jdk_52_method_5_code 30 = .ok (.ishl, 1) := by decide +kernel
theorem d24_31 : decode jdk_52_method_5_code 31 = .ok (.istore_n 1, 1) := by decide +kernel
theorem d24_32 : decode jdk_52_method_5_code 32 = .ok (.aload_n 0, 1) := by decide +kernel
theorem d24_33 : decode jdk_52_method_5_code 33 = .ok (.iload_n 1, 1) := by decide +kernel
theorem d24_34 : decode jdk_52_method_5_code 34 = .ok (.iinc 1 1, 3) := by decide +kernel
theorem d24_37 : decode jdk_52_method_5_code 37 = .ok (.baload, 1) := by decide +kernel
theorem d24_38 : decode jdk_52_method_5_code 38 = .ok (.sipush 255, 3) := by decide +kernel
theorem d24_41 : decode jdk_52_method_5_code 41 = .ok (.iand, 1) := by decide +kernel
theorem d24_42 : decode jdk_52_method_5_code 42 = .ok (.getstatic 59, 3) := by decide +kernel
theorem d24_45 : decode jdk_52_method_5_code 45 = .ok (.ishl, 1) := by decide +kernel
theorem d24_46 : decode jdk_52_method_5_code 46 = .ok (.aload_n 0, 1) := by decide +kernel
theorem d24_47 : decode jdk_52_method_5_code 47 = .ok (.iload_n 1, 1) := by decide +kernel
theorem d24_48 : decode jdk_52_method_5_code 48 = .ok (.baload, 1) := by decide +kernel
theorem d24_49 : decode jdk_52_method_5_code 49 = .ok (.sipush 255, 3) := by decide +kernel
theorem d24_52 : decode jdk_52_method_5_code 52 = .ok (.iand, 1) := by decide +kernel
theorem d24_53 : decode jdk_52_method_5_code 53 = .ok (.getstatic 63, 3) := by decide +kernel
theorem d24_56 : decode jdk_52_method_5_code 56 = .ok (.ishl, 1) := by decide +kernel
theorem d24_57 : decode jdk_52_method_5_code 57 = .ok (.ior, 1) := by decide +kernel
theorem d24_58 : decode jdk_52_method_5_code 58 = .ok (.i2c, 1) := by decide +kernel
theorem d24_59 : decode jdk_52_method_5_code 59 = .ok (.ireturn, 1) := by decide +kernel
theorem pn_24 : plainName "java/lang/StringUTF16" = true := by first | (simp [plainName, overriddenIn]; done) | decide +kernel
theorem ef_24 (m : MethodId) (x0 : Addr) (x1 : Int32) : entryFrame m #[(.ref x0), (.int x1)] 2 = mkF m 0 #[.val (.ref x0), .val (.int x1)] [] := by first | (simp [entryFrame, mkF, argsToLocals, Value.category]; done) | rfl
theorem d25_0 : decode jdk_52_method_40_code 0 = .ok (.iload_n 2, 1) := by decide +kernel
theorem d25_1 : decode jdk_52_method_40_code 1 = .ok (.iconst 0, 1) := by decide +kernel
theorem d25_2 : decode jdk_52_method_40_code 2 = .ok (.invokestatic 224, 3) := by decide +kernel
theorem d25_5 : decode jdk_52_method_40_code 5 = .ok (.istore_n 2, 1) := by decide +kernel
theorem d25_6 : decode jdk_52_method_40_code 6 = .ok (.iload_n 3, 1) := by decide +kernel
theorem d25_7 : decode jdk_52_method_40_code 7 = .ok (.aload_n 0, 1) := by decide +kernel
theorem d25_8 : decode jdk_52_method_40_code 8 = .ok (.arraylength, 1) := by decide +kernel
theorem d25_9 : decode jdk_52_method_40_code 9 = .ok (.iconst 1, 1) := by decide +kernel
theorem d25_10 : decode jdk_52_method_40_code 10 = .ok (.ishr, 1) := by decide +kernel
theorem d25_11 : decode jdk_52_method_40_code 11 = .ok (.invokestatic 183, 3) := by decide +kernel
theorem d25_14 : decode jdk_52_method_40_code 14 = .ok (.istore_n 3, 1) := by decide +kernel
theorem d25_15 : decode jdk_52_method_40_code 15 = .ok (.iload_n 2, 1) := by decide +kernel
theorem d25_16 : decode jdk_52_method_40_code 16 = .ok (.iload_n 3, 1) := by decide +kernel
theorem d25_17 : decode jdk_52_method_40_code 17 = .ok (.if_icmp .lt 5, 3) := by decide +kernel
theorem d25_22 : decode jdk_52_method_40_code 22 = .ok (.iload_n 1, 1) := by decide +kernel
theorem d25_23 : decode jdk_52_method_40_code 23 = .ok (.ldc 227, 2) := by decide +kernel
theorem d25_25 : decode jdk_52_method_40_code 25 = .ok (.if_icmp .ge 11, 3) := by decide +kernel
theorem d25_28 : decode jdk_52_method_40_code 28 = .ok (.aload_n 0, 1) := by decide +kernel
theorem d25_29 : decode jdk_52_method_40_code 29 = .ok (.iload_n 1, 1) := by decide +kernel
theorem d25_30 : decode jdk_52_method_40_code 30 = .ok (.iload_n 2, 1) := by decide +kernel
theorem d25_31 : decode jdk_52_method_40_code 31 = .ok (.iload_n 3, 1) := by decide +kernel
theorem d25_32 : decode jdk_52_method_40_code 32 = .ok (.invokestatic 228, 3) := by decide +kernel
theorem d25_35 : decode jdk_52_method_40_code 35 = .ok (.ireturn, 1) := by decide +kernel
theorem pn_25 : plainName "java/lang/StringUTF16" = true := by first | (simp [plainName, overriddenIn]; done) | decide +kernel
theorem ef_25 (m : MethodId) (x0 : Addr) (x1 : Int32) (x2 : Int32) (x3 : Int32) : entryFrame m #[(.ref x0), (.int x1), (.int x2), (.int x3)] 4 = mkF m 0 #[.val (.ref x0), .val (.int x1), .val (.int x2), .val (.int x3)] [] := by first | (simp [entryFrame, mkF, argsToLocals, Value.category]; done) | rfl
theorem d26_0 : decode jdk_52_method_47_code 0 = .ok (.iload_n 2, 1) := by decide +kernel
theorem d26_1 : decode jdk_52_method_47_code 1 = .ok (.iload_n 3, 1) := by decide +kernel
theorem d26_2 : decode jdk_52_method_47_code 2 = .ok (.aload_n 0, 1) := by decide +kernel
theorem d26_3 : decode jdk_52_method_47_code 3 = .ok (.invokestatic 96, 3) := by decide +kernel
theorem d26_6 : decode jdk_52_method_47_code 6 = .ok (.aload_n 0, 1) := by decide +kernel
theorem d26_7 : decode jdk_52_method_47_code 7 = .ok (.iload_n 1, 1) := by decide +kernel
theorem d26_8 : decode jdk_52_method_47_code 8 = .ok (.iload_n 2, 1) := by decide +kernel
theorem d26_9 : decode jdk_52_method_47_code 9 = .ok (.iload_n 3, 1) := by decide +kernel
theorem d26_10 : decode jdk_52_method_47_code 10 = .ok (.invokestatic 244, 3) := by decide +kernel
theorem d26_13 : decode jdk_52_method_47_code 13 = .ok (.ireturn, 1) := by decide +kernel
theorem pn_26 : plainName "java/lang/StringUTF16" = true := by first | (simp [plainName, overriddenIn]; done) | decide +kernel
theorem ef_26 (m : MethodId) (x0 : Addr) (x1 : Int32) (x2 : Int32) (x3 : Int32) : entryFrame m #[(.ref x0), (.int x1), (.int x2), (.int x3)] 4 = mkF m 0 #[.val (.ref x0), .val (.int x1), .val (.int x2), .val (.int x3)] [] := by first | (simp [entryFrame, mkF, argsToLocals, Value.category]; done) | rfl
theorem d27_0 : decode jdk_52_method_93_code 0 = .ok (.iload_n 0, 1) := by decide +kernel
theorem d27_1 : decode jdk_52_method_93_code 1 = .ok (.iload_n 1, 1) := by decide +kernel
theorem d27_2 : decode jdk_52_method_93_code 2 = .ok (.aload_n 2, 1) := by decide +kernel
theorem d27_3 : decode jdk_52_method_93_code 3 = .ok (.invokestatic 48, 3) := by decide +kernel
theorem d27_6 : decode jdk_52_method_93_code 6 = .ok (.invokestatic 241, 3) := by decide +kernel
theorem d27_9 : decode jdk_52_method_93_code 9 = .ok (.return_, 1) := by decide +kernel
theorem pn_27 : plainName "java/lang/StringUTF16" = true := by first | (simp [plainName, overriddenIn]; done) | decide +kernel
theorem ef_27 (m : MethodId) (x0 : Int32) (x1 : Int32) (x2 : Addr) : entryFrame m #[(.int x0), (.int x1), (.ref x2)] 3 = mkF m 0 #[.val (.int x0), .val (.int x1), .val (.ref x2)] [] := by first | (simp [entryFrame, mkF, argsToLocals, Value.category]; done) | rfl
theorem d28_0 : decode jdk_52_method_6_code 0 = .ok (.aload_n 0, 1) := by decide +kernel
theorem d28_1 : decode jdk_52_method_6_code 1 = .ok (.arraylength, 1) := by decide +kernel
theorem d28_2 : decode jdk_52_method_6_code 2 = .ok (.iconst 1, 1) := by decide +kernel
theorem d28_3 : decode jdk_52_method_6_code 3 = .ok (.ishr, 1) := by decide +kernel
theorem d28_4 : decode jdk_52_method_6_code 4 = .ok (.ireturn, 1) := by decide +kernel
theorem pn_28 : plainName "java/lang/StringUTF16" = true := by first | (simp [plainName, overriddenIn]; done) | decide +kernel
theorem ef_28 (m : MethodId) (x0 : Addr) : entryFrame m #[(.ref x0)] 1 = mkF m 0 #[.val (.ref x0)] [] := by first | (simp [entryFrame, mkF, argsToLocals, Value.category]; done) | rfl
theorem d29_0 : decode jdk_42_method_158_code 0 = .ok (.iload_n 0, 1) := by decide +kernel
theorem d29_1 : decode jdk_42_method_158_code 1 = .ok (.iload_n 1, 1) := by decide +kernel
theorem d29_2 : decode jdk_42_method_158_code 2 = .ok (.iload_n 2, 1) := by decide +kernel
theorem d29_3 : decode jdk_42_method_158_code 3 = .ok (.getstatic 1053, 3) := by decide +kernel
theorem d29_6 : decode jdk_42_method_158_code 6 = .ok (.invokestatic 1062, 3) := by decide +kernel
theorem d29_9 : decode jdk_42_method_158_code 9 = .ok (.pop, 1) := by decide +kernel
theorem d29_10 : decode jdk_42_method_158_code 10 = .ok (.return_, 1) := by decide +kernel
theorem pn_29 : plainName "java/lang/String" = true := by first | (simp [plainName, overriddenIn]; done) | decide +kernel
theorem ef_29 (m : MethodId) (x0 : Int32) (x1 : Int32) (x2 : Int32) : entryFrame m #[(.int x0), (.int x1), (.int x2)] 3 = mkF m 0 #[.val (.int x0), .val (.int x1), .val (.int x2)] [] := by first | (simp [entryFrame, mkF, argsToLocals, Value.category]; done) | rfl
theorem d30_0 : decode jdk_41_method_12_code 0 = .ok (.iload_n 0, 1) := by decide +kernel
theorem d30_1 : decode jdk_41_method_12_code 1 = .ok (.ifCond .lt 13, 3) := by decide +kernel
theorem d30_4 : decode jdk_41_method_12_code 4 = .ok (.iload_n 0, 1) := by decide +kernel
theorem d30_5 : decode jdk_41_method_12_code 5 = .ok (.iload_n 1, 1) := by decide +kernel
theorem d30_6 : decode jdk_41_method_12_code 6 = .ok (.if_icmp .gt 8, 3) := by decide +kernel
theorem d30_9 : decode jdk_41_method_12_code 9 = .ok (.iload_n 1, 1) := by decide +kernel
theorem d30_10 : decode jdk_41_method_12_code 10 = .ok (.iload_n 2, 1) := by decide +kernel
theorem d30_11 : decode jdk_41_method_12_code 11 = .ok (.if_icmp .le 11, 3) := by decide +kernel
theorem d30_22 : decode jdk_41_method_12_code 22 = .ok (.iload_n 0, 1) := by decide +kernel
theorem d30_23 : decode jdk_41_method_12_code 23 = .ok (.ireturn, 1) := by decide +kernel
theorem pn_30 : plainName "jdk/internal/util/Preconditions" = true := by first | (simp [plainName, overriddenIn]; done) | decide +kernel
theorem ef_30 (m : MethodId) (x0 : Int32) (x1 : Int32) (x2 : Int32) (x3 : Addr) : entryFrame m #[(.int x0), (.int x1), (.int x2), (.ref x3)] 4 = mkF m 0 #[.val (.int x0), .val (.int x1), .val (.int x2), .val (.ref x3)] [] := by first | (simp [entryFrame, mkF, argsToLocals, Value.category]; done) | rfl
theorem ef_301n (m : MethodId) (x0 : Int32) (x1 : Int32) (x2 : Int32) : entryFrame m #[(.int x0), (.int x1), (.int x2), .null] 4 = mkF m 0 #[.val (.int x0), .val (.int x1), .val (.int x2), .val .null] [] := by first | (simp [entryFrame, mkF, argsToLocals, Value.category]; done) | rfl
theorem ef_302n (m : MethodId) (x0 : Int32) (x1 : Int32) (x2 : Int32) : entryFrame m #[(.int x0), (.int x1), (.int x2), .null] 4 = mkF m 0 #[.val (.int x0), .val (.int x1), .val (.int x2), .val .null] [] := by first | (simp [entryFrame, mkF, argsToLocals, Value.category]; done) | rfl
theorem ef_303n (m : MethodId) (x0 : Int32) (x1 : Int32) (x2 : Int32) : entryFrame m #[(.int x0), (.int x1), (.int x2), .null] 4 = mkF m 0 #[.val (.int x0), .val (.int x1), .val (.int x2), .val .null] [] := by first | (simp [entryFrame, mkF, argsToLocals, Value.category]; done) | rfl
theorem ef_304n (m : MethodId) (x0 : Int32) (x1 : Int32) (x2 : Int32) : entryFrame m #[(.int x0), (.int x1), (.int x2), .null] 4 = mkF m 0 #[.val (.int x0), .val (.int x1), .val (.int x2), .val .null] [] := by first | (simp [entryFrame, mkF, argsToLocals, Value.category]; done) | rfl
theorem d31_0 : decode jdk_52_method_48_code 0 = .ok (.iload_n 2, 1) := by decide +kernel
theorem d31_1 : decode jdk_52_method_48_code 1 = .ok (.istore 4, 2) := by decide +kernel
theorem d31_3 : decode jdk_52_method_48_code 3 = .ok (.iload 4, 2) := by decide +kernel
theorem d31_5 : decode jdk_52_method_48_code 5 = .ok (.iload_n 3, 1) := by decide +kernel
theorem d31_6 : decode jdk_52_method_48_code 6 = .ok (.if_icmp .ge 22, 3) := by decide +kernel
theorem d31_9 : decode jdk_52_method_48_code 9 = .ok (.aload_n 0, 1) := by decide +kernel
theorem d31_10 : decode jdk_52_method_48_code 10 = .ok (.iload 4, 2) := by decide +kernel
theorem d31_12 : decode jdk_52_method_48_code 12 = .ok (.invokestatic 71, 3) := by decide +kernel
theorem d31_15 : decode jdk_52_method_48_code 15 = .ok (.iload_n 1, 1) := by decide +kernel
theorem d31_16 : decode jdk_52_method_48_code 16 = .ok (.if_icmp .ne 6, 3) := by decide +kernel
theorem d31_19 : decode jdk_52_method_48_code 19 = .ok (.iload 4, 2) := by decide +kernel
theorem d31_21 : decode jdk_52_method_48_code 21 = .ok (.ireturn, 1) := by decide +kernel
theorem d31_22 : decode jdk_52_method_48_code 22 = .ok (.iinc 4 1, 3) := by decide +kernel
theorem d31_25 : decode jdk_52_method_48_code 25 = .ok (.goto (-22), 3) := by decide +kernel
theorem d31_28 : decode jdk_52_method_48_code 28 = .ok (.iconst (-1), 1) := by decide +kernel
theorem d31_29 : decode jdk_52_method_48_code 29 = .ok (.ireturn, 1) := by decide +kernel
theorem pn_31 : plainName "java/lang/StringUTF16" = true := by first | (simp [plainName, overriddenIn]; done) | decide +kernel
theorem ef_31 (m : MethodId) (x0 : Addr) (x1 : Int32) (x2 : Int32) (x3 : Int32) : entryFrame m #[(.ref x0), (.int x1), (.int x2), (.int x3)] 5 = mkF m 0 #[.val (.ref x0), .val (.int x1), .val (.int x2), .val (.int x3), .unset] [] := by first | (simp [entryFrame, mkF, argsToLocals, Value.category]; done) | rfl
theorem pd_0 : parseMethodDescriptor "(I)I" = some ⟨[.int], some .int⟩ := by decide +kernel
theorem pd_1 : parseMethodDescriptor "(I)[B" = some ⟨[.int], some (.array .byte)⟩ := by decide +kernel
theorem pd_2 : parseMethodDescriptor "([BII)V" = some ⟨[(.array .byte), .int, .int], none⟩ := by decide +kernel
theorem pd_3 : parseMethodDescriptor "([CI[BII)I" = some ⟨[(.array .char), .int, (.array .byte), .int, .int], some .int⟩ := by decide +kernel
theorem pd_4 : parseMethodDescriptor "([CII)[B" = some ⟨[(.array .char), .int, .int], some (.array .byte)⟩ := by decide +kernel
theorem pd_5 : parseMethodDescriptor "([BI)C" = some ⟨[(.array .byte), .int], some .char⟩ := by decide +kernel
theorem pd_6 : parseMethodDescriptor "([BI)B" = some ⟨[(.array .byte), .int], some .byte⟩ := by decide +kernel
theorem pd_7 : parseMethodDescriptor "([CIILjava/lang/Void;)V" = some ⟨[(.array .char), .int, .int, (.object "java/lang/Void")], none⟩ := by decide +kernel
theorem pd_8 : parseMethodDescriptor "(I)Z" = some ⟨[.int], some .boolean⟩ := by decide +kernel
theorem pd_9 : parseMethodDescriptor "(II)I" = some ⟨[.int, .int], some .int⟩ := by decide +kernel
theorem pd_10 : parseMethodDescriptor "([BIII)I" = some ⟨[(.array .byte), .int, .int, .int], some .int⟩ := by decide +kernel
theorem pd_11 : parseMethodDescriptor "(IIILjava/util/function/BiFunction;)I" = some ⟨[.int, .int, .int, (.object "java/util/function/BiFunction")], some .int⟩ := by decide +kernel
theorem pd_12 : parseMethodDescriptor "([B)I" = some ⟨[(.array .byte)], some .int⟩ := by decide +kernel
theorem pd_13 : parseMethodDescriptor "(III)V" = some ⟨[.int, .int, .int], none⟩ := by decide +kernel
theorem pd_14 : parseMethodDescriptor "(II[B)V" = some ⟨[.int, .int, (.array .byte)], none⟩ := by decide +kernel
theorem pd_15 : parseMethodDescriptor "()B" = some ⟨[], some .byte⟩ := by decide +kernel
theorem pd_16 : parseMethodDescriptor "()Z" = some ⟨[], some .boolean⟩ := by decide +kernel
theorem pd_17 : parseMethodDescriptor "()I" = some ⟨[], some .int⟩ := by decide +kernel
theorem pd_18 : parseMethodDescriptor "(I)C" = some ⟨[.int], some .char⟩ := by decide +kernel
theorem pd_19 : parseMethodDescriptor "(Ljava/lang/String;)Z" = some ⟨[(.object "java/lang/String")], some .boolean⟩ := by decide +kernel
theorem pd_20 : parseMethodDescriptor "([C)V" = some ⟨[(.array .char)], none⟩ := by decide +kernel
theorem pd_21 : parseMethodDescriptor "(C)Z" = some ⟨[.char], some .boolean⟩ := by decide +kernel
abbrev Hw (a0 : Array Value) (Z : State) : Prop := ∀ d ∈ tables_1, d.before a0 Z = true
theorem tw0 {a0 : Array Value} {Z : State} (hw : Hw a0 Z) : (Jvm.Cond.constant "com/example/canny_warden/cannywarden/engine/WildcardHasWildcardPinLaw" (8 : Nat) (2147483647 : Int32)).before a0 Z = true := hw _ (List.mem_of_getElem? (i := 0) rfl)
theorem tw1 {a0 : Array Value} {Z : State} (hw : Hw a0 Z) : (Jvm.Cond.methodLink "com/example/canny_warden/cannywarden/engine/WildcardHasWildcardPinLaw" (9 : Nat) ({ cls := "com/example/canny_warden/cannywarden/engine/WildcardHasWildcardPinLaw", name := "draw", desc := "(I)C" } : Jvm.MethodName)).before a0 Z = true := hw _ (List.mem_of_getElem? (i := 1) rfl)
theorem tw2 {a0 : Array Value} {Z : State} (hw : Hw a0 Z) : (Jvm.Cond.static ({ cls := "com/example/canny_warden/cannywarden/engine/WildcardHasWildcardPinLaw", name := "draw", desc := "(I)C" } : Jvm.MethodName)).before a0 Z = true := hw _ (List.mem_of_getElem? (i := 2) rfl)
theorem tw3 {a0 : Array Value} {Z : State} (hw : Hw a0 Z) : (Jvm.Cond.initialized "com/example/canny_warden/cannywarden/engine/WildcardHasWildcardPinLaw").before a0 Z = true := hw _ (List.mem_of_getElem? (i := 3) rfl)
theorem tw4 {a0 : Array Value} {Z : State} (hw : Hw a0 Z) : (Jvm.Cond.code ({ cls := "com/example/canny_warden/cannywarden/engine/WildcardHasWildcardPinLaw", name := "draw", desc := "(I)C" } : Jvm.MethodName) method_2_code (3 : Nat) (Option.some Jvm.ClassFile.FieldType.char)).before a0 Z = true := hw _ (List.mem_of_getElem? (i := 4) rfl)
theorem tw5 {a0 : Array Value} {Z : State} (hw : Hw a0 Z) : (Jvm.Cond.constant "com/example/canny_warden/cannywarden/engine/WildcardHasWildcardPinLaw" (7 : Nat) (65535 : Int32)).before a0 Z = true := hw _ (List.mem_of_getElem? (i := 5) rfl)
theorem tw6 {a0 : Array Value} {Z : State} (hw : Hw a0 Z) : (Jvm.Cond.classLink "com/example/canny_warden/cannywarden/engine/WildcardHasWildcardPinLaw" (15 : Nat) "java/lang/String").before a0 Z = true := hw _ (List.mem_of_getElem? (i := 6) rfl)
theorem tw7 {a0 : Array Value} {Z : State} (hw : Hw a0 Z) : (Jvm.Cond.instantiable "java/lang/String" (4 : Nat)).before a0 Z = true := hw _ (List.mem_of_getElem? (i := 7) rfl)
theorem tw8 {a0 : Array Value} {Z : State} (hw : Hw a0 Z) : (Jvm.Cond.initialized "java/lang/String").before a0 Z = true := hw _ (List.mem_of_getElem? (i := 8) rfl)
theorem tw9 {a0 : Array Value} {Z : State} (hw : Hw a0 Z) : (Jvm.Cond.arrayClass Jvm.ClassFile.FieldType.char).before a0 Z = true := hw _ (List.mem_of_getElem? (i := 9) rfl)
theorem tw10 {a0 : Array Value} {Z : State} (hw : Hw a0 Z) : (Jvm.Cond.methodLink "com/example/canny_warden/cannywarden/engine/WildcardHasWildcardPinLaw" (17 : Nat) ({ cls := "java/lang/String", name := "<init>", desc := "([C)V" } : Jvm.MethodName)).before a0 Z = true := hw _ (List.mem_of_getElem? (i := 10) rfl)
theorem tw11 {a0 : Array Value} {Z : State} (hw : Hw a0 Z) : (Jvm.Cond.instanceMethod ({ cls := "java/lang/String", name := "<init>", desc := "([C)V" } : Jvm.MethodName)).before a0 Z = true := hw _ (List.mem_of_getElem? (i := 11) rfl)
theorem tw12 {a0 : Array Value} {Z : State} (hw : Hw a0 Z) : (Jvm.Cond.code ({ cls := "java/lang/String", name := "<init>", desc := "([C)V" } : Jvm.MethodName) jdk_42_method_3_code (2 : Nat) (Option.none : Option Jvm.ClassFile.FieldType)).before a0 Z = true := hw _ (List.mem_of_getElem? (i := 12) rfl)
theorem tw13 {a0 : Array Value} {Z : State} (hw : Hw a0 Z) : (Jvm.Cond.methodLink "java/lang/String" (27 : Nat) ({ cls := "java/lang/String", name := "<init>", desc := "([CIILjava/lang/Void;)V" } : Jvm.MethodName)).before a0 Z = true := hw _ (List.mem_of_getElem? (i := 13) rfl)
theorem tw14 {a0 : Array Value} {Z : State} (hw : Hw a0 Z) : (Jvm.Cond.instanceMethod ({ cls := "java/lang/String", name := "<init>", desc := "([CIILjava/lang/Void;)V" } : Jvm.MethodName)).before a0 Z = true := hw _ (List.mem_of_getElem? (i := 14) rfl)
theorem tw16 {a0 : Array Value} {Z : State} (hw : Hw a0 Z) : (Jvm.Cond.code ({ cls := "java/lang/String", name := "<init>", desc := "([CIILjava/lang/Void;)V" } : Jvm.MethodName) jdk_42_method_149_code (6 : Nat) (Option.none : Option Jvm.ClassFile.FieldType)).before a0 Z = true := hw _ (List.mem_of_getElem? (i := 16) rfl)
theorem tw17 {a0 : Array Value} {Z : State} (hw : Hw a0 Z) : (Jvm.Cond.methodLink "java/lang/String" (1 : Nat) ({ cls := "java/lang/Object", name := "<init>", desc := "()V" } : Jvm.MethodName)).before a0 Z = true := hw _ (List.mem_of_getElem? (i := 17) rfl)
theorem tw18 {a0 : Array Value} {Z : State} (hw : Hw a0 Z) : (Jvm.Cond.instanceMethod ({ cls := "java/lang/Object", name := "<init>", desc := "()V" } : Jvm.MethodName)).before a0 Z = true := hw _ (List.mem_of_getElem? (i := 18) rfl)
theorem tw19 {a0 : Array Value} {Z : State} (hw : Hw a0 Z) : (Jvm.Cond.code ({ cls := "java/lang/Object", name := "<init>", desc := "()V" } : Jvm.MethodName) object_method_1_code (1 : Nat) (Option.none : Option Jvm.ClassFile.FieldType)).before a0 Z = true := hw _ (List.mem_of_getElem? (i := 19) rfl)
theorem tw20 {a0 : Array Value} {Z : State} (hw : Hw a0 Z) : (Jvm.Cond.stringLink "java/lang/String" (7 : Nat) "").before a0 Z = true := hw _ (List.mem_of_getElem? (i := 20) rfl)
theorem tw21 {a0 : Array Value} {Z : State} (hw : Hw a0 Z) : (Jvm.Cond.arrayClass Jvm.ClassFile.FieldType.byte).before a0 Z = true := hw _ (List.mem_of_getElem? (i := 21) rfl)
theorem tw22 {a0 : Array Value} {Z : State} (hw : Hw a0 Z) : (Jvm.Cond.laysFinal "java/lang/String" "java/lang/String" "value" "[B").before a0 Z = true := hw _ (List.mem_of_getElem? (i := 22) rfl)
theorem tw23 {a0 : Array Value} {Z : State} (hw : Hw a0 Z) : (Jvm.Cond.laysFinal "java/lang/String" "java/lang/String" "coder" "B").before a0 Z = true := hw _ (List.mem_of_getElem? (i := 23) rfl)
theorem tw26 {a0 : Array Value} {Z : State} (hw : Hw a0 Z) : (Jvm.Cond.fieldLink "java/lang/String" (9 : Nat) "java/lang/String" "value" "[B").before a0 Z = true := hw _ (List.mem_of_getElem? (i := 26) rfl)
theorem tw27 {a0 : Array Value} {Z : State} (hw : Hw a0 Z) : (Jvm.Cond.fieldLink "java/lang/String" (15 : Nat) "java/lang/String" "coder" "B").before a0 Z = true := hw _ (List.mem_of_getElem? (i := 27) rfl)
theorem tw28 {a0 : Array Value} {Z : State} (hw : Hw a0 Z) : (Jvm.Cond.methodLink "com/example/canny_warden/cannywarden/engine/WildcardHasWildcardPinLaw" (24 : Nat) ({ cls := "com/example/canny_warden/cannywarden/engine/Wildcard", name := "hasWildcard", desc := "(Ljava/lang/String;)Z" } : Jvm.MethodName)).before a0 Z = true := hw _ (List.mem_of_getElem? (i := 28) rfl)
theorem tw29 {a0 : Array Value} {Z : State} (hw : Hw a0 Z) : (Jvm.Cond.static ({ cls := "com/example/canny_warden/cannywarden/engine/Wildcard", name := "hasWildcard", desc := "(Ljava/lang/String;)Z" } : Jvm.MethodName)).before a0 Z = true := hw _ (List.mem_of_getElem? (i := 29) rfl)
theorem tw30 {a0 : Array Value} {Z : State} (hw : Hw a0 Z) : (Jvm.Cond.initialized "com/example/canny_warden/cannywarden/engine/Wildcard").before a0 Z = true := hw _ (List.mem_of_getElem? (i := 30) rfl)
theorem tw31 {a0 : Array Value} {Z : State} (hw : Hw a0 Z) : (Jvm.Cond.code ({ cls := "com/example/canny_warden/cannywarden/engine/Wildcard", name := "hasWildcard", desc := "(Ljava/lang/String;)Z" } : Jvm.MethodName) prog_77_method_6_code (1 : Nat) (Option.some Jvm.ClassFile.FieldType.boolean)).before a0 Z = true := hw _ (List.mem_of_getElem? (i := 31) rfl)
theorem tw32 {a0 : Array Value} {Z : State} (hw : Hw a0 Z) : (Jvm.Cond.methodLink "com/example/canny_warden/cannywarden/engine/Wildcard" (80 : Nat) ({ cls := "java/lang/String", name := "indexOf", desc := "(I)I" } : Jvm.MethodName)).before a0 Z = true := hw _ (List.mem_of_getElem? (i := 32) rfl)
theorem tw33 {a0 : Array Value} {Z : State} (hw : Hw a0 Z) : (Jvm.Cond.declares ({ cls := "java/lang/String", name := "indexOf", desc := "(I)I" } : Jvm.MethodName)).before a0 Z = true := hw _ (List.mem_of_getElem? (i := 33) rfl)
theorem tw34 {a0 : Array Value} {Z : State} (hw : Hw a0 Z) : (Jvm.Cond.instanceMethod ({ cls := "java/lang/String", name := "indexOf", desc := "(I)I" } : Jvm.MethodName)).before a0 Z = true := hw _ (List.mem_of_getElem? (i := 34) rfl)
theorem tw35 {a0 : Array Value} {Z : State} (hw : Hw a0 Z) : (Jvm.Cond.selects "java/lang/String" ({ cls := "java/lang/String", name := "indexOf", desc := "(I)I" } : Jvm.MethodName) ({ cls := "java/lang/String", name := "indexOf", desc := "(I)I" } : Jvm.MethodName)).before a0 Z = true := hw _ (List.mem_of_getElem? (i := 35) rfl)
theorem tw36 {a0 : Array Value} {Z : State} (hw : Hw a0 Z) : (Jvm.Cond.code ({ cls := "java/lang/String", name := "indexOf", desc := "(I)I" } : Jvm.MethodName) jdk_42_method_79_code (2 : Nat) (Option.some Jvm.ClassFile.FieldType.int)).before a0 Z = true := hw _ (List.mem_of_getElem? (i := 36) rfl)
theorem tw37 {a0 : Array Value} {Z : State} (hw : Hw a0 Z) : (Jvm.Cond.methodLink "java/lang/String" (633 : Nat) ({ cls := "java/lang/String", name := "indexOf", desc := "(II)I" } : Jvm.MethodName)).before a0 Z = true := hw _ (List.mem_of_getElem? (i := 37) rfl)
theorem tw38 {a0 : Array Value} {Z : State} (hw : Hw a0 Z) : (Jvm.Cond.declares ({ cls := "java/lang/String", name := "indexOf", desc := "(II)I" } : Jvm.MethodName)).before a0 Z = true := hw _ (List.mem_of_getElem? (i := 38) rfl)
theorem tw39 {a0 : Array Value} {Z : State} (hw : Hw a0 Z) : (Jvm.Cond.instanceMethod ({ cls := "java/lang/String", name := "indexOf", desc := "(II)I" } : Jvm.MethodName)).before a0 Z = true := hw _ (List.mem_of_getElem? (i := 39) rfl)
theorem tw40 {a0 : Array Value} {Z : State} (hw : Hw a0 Z) : (Jvm.Cond.selects "java/lang/String" ({ cls := "java/lang/String", name := "indexOf", desc := "(II)I" } : Jvm.MethodName) ({ cls := "java/lang/String", name := "indexOf", desc := "(II)I" } : Jvm.MethodName)).before a0 Z = true := hw _ (List.mem_of_getElem? (i := 40) rfl)
theorem tw41 {a0 : Array Value} {Z : State} (hw : Hw a0 Z) : (Jvm.Cond.code ({ cls := "java/lang/String", name := "indexOf", desc := "(II)I" } : Jvm.MethodName) jdk_42_method_80_code (3 : Nat) (Option.some Jvm.ClassFile.FieldType.int)).before a0 Z = true := hw _ (List.mem_of_getElem? (i := 41) rfl)
theorem tw42 {a0 : Array Value} {Z : State} (hw : Hw a0 Z) : (Jvm.Cond.methodLink "java/lang/String" (492 : Nat) ({ cls := "java/lang/String", name := "isLatin1", desc := "()Z" } : Jvm.MethodName)).before a0 Z = true := hw _ (List.mem_of_getElem? (i := 42) rfl)
theorem tw43 {a0 : Array Value} {Z : State} (hw : Hw a0 Z) : (Jvm.Cond.declares ({ cls := "java/lang/String", name := "isLatin1", desc := "()Z" } : Jvm.MethodName)).before a0 Z = true := hw _ (List.mem_of_getElem? (i := 43) rfl)
theorem tw44 {a0 : Array Value} {Z : State} (hw : Hw a0 Z) : (Jvm.Cond.instanceMethod ({ cls := "java/lang/String", name := "isLatin1", desc := "()Z" } : Jvm.MethodName)).before a0 Z = true := hw _ (List.mem_of_getElem? (i := 44) rfl)
theorem tw45 {a0 : Array Value} {Z : State} (hw : Hw a0 Z) : (Jvm.Cond.selects "java/lang/String" ({ cls := "java/lang/String", name := "isLatin1", desc := "()Z" } : Jvm.MethodName) ({ cls := "java/lang/String", name := "isLatin1", desc := "()Z" } : Jvm.MethodName)).before a0 Z = true := hw _ (List.mem_of_getElem? (i := 45) rfl)
theorem tw46 {a0 : Array Value} {Z : State} (hw : Hw a0 Z) : (Jvm.Cond.code ({ cls := "java/lang/String", name := "isLatin1", desc := "()Z" } : Jvm.MethodName) jdk_42_method_154_code (1 : Nat) (Option.some Jvm.ClassFile.FieldType.boolean)).before a0 Z = true := hw _ (List.mem_of_getElem? (i := 46) rfl)
theorem tw47 {a0 : Array Value} {Z : State} (hw : Hw a0 Z) : (Jvm.Cond.fieldLink "java/lang/String" (38 : Nat) "java/lang/String" "COMPACT_STRINGS" "Z").before a0 Z = true := hw _ (List.mem_of_getElem? (i := 47) rfl)
theorem tw48 {a0 : Array Value} {Z : State} (hw : Hw a0 Z) : (Jvm.Cond.methodLink "java/lang/String" (505 : Nat) ({ cls := "java/lang/String", name := "length", desc := "()I" } : Jvm.MethodName)).before a0 Z = true := hw _ (List.mem_of_getElem? (i := 48) rfl)
theorem tw49 {a0 : Array Value} {Z : State} (hw : Hw a0 Z) : (Jvm.Cond.declares ({ cls := "java/lang/String", name := "length", desc := "()I" } : Jvm.MethodName)).before a0 Z = true := hw _ (List.mem_of_getElem? (i := 49) rfl)
theorem tw50 {a0 : Array Value} {Z : State} (hw : Hw a0 Z) : (Jvm.Cond.instanceMethod ({ cls := "java/lang/String", name := "length", desc := "()I" } : Jvm.MethodName)).before a0 Z = true := hw _ (List.mem_of_getElem? (i := 50) rfl)
theorem tw51 {a0 : Array Value} {Z : State} (hw : Hw a0 Z) : (Jvm.Cond.selects "java/lang/String" ({ cls := "java/lang/String", name := "length", desc := "()I" } : Jvm.MethodName) ({ cls := "java/lang/String", name := "length", desc := "()I" } : Jvm.MethodName)).before a0 Z = true := hw _ (List.mem_of_getElem? (i := 51) rfl)
theorem tw52 {a0 : Array Value} {Z : State} (hw : Hw a0 Z) : (Jvm.Cond.code ({ cls := "java/lang/String", name := "length", desc := "()I" } : Jvm.MethodName) jdk_42_method_54_code (1 : Nat) (Option.some Jvm.ClassFile.FieldType.int)).before a0 Z = true := hw _ (List.mem_of_getElem? (i := 52) rfl)
theorem tw53 {a0 : Array Value} {Z : State} (hw : Hw a0 Z) : (Jvm.Cond.methodLink "java/lang/String" (335 : Nat) ({ cls := "java/lang/String", name := "coder", desc := "()B" } : Jvm.MethodName)).before a0 Z = true := hw _ (List.mem_of_getElem? (i := 53) rfl)
theorem tw54 {a0 : Array Value} {Z : State} (hw : Hw a0 Z) : (Jvm.Cond.declares ({ cls := "java/lang/String", name := "coder", desc := "()B" } : Jvm.MethodName)).before a0 Z = true := hw _ (List.mem_of_getElem? (i := 54) rfl)
theorem tw55 {a0 : Array Value} {Z : State} (hw : Hw a0 Z) : (Jvm.Cond.instanceMethod ({ cls := "java/lang/String", name := "coder", desc := "()B" } : Jvm.MethodName)).before a0 Z = true := hw _ (List.mem_of_getElem? (i := 55) rfl)
theorem tw56 {a0 : Array Value} {Z : State} (hw : Hw a0 Z) : (Jvm.Cond.selects "java/lang/String" ({ cls := "java/lang/String", name := "coder", desc := "()B" } : Jvm.MethodName) ({ cls := "java/lang/String", name := "coder", desc := "()B" } : Jvm.MethodName)).before a0 Z = true := hw _ (List.mem_of_getElem? (i := 56) rfl)
theorem tw57 {a0 : Array Value} {Z : State} (hw : Hw a0 Z) : (Jvm.Cond.code ({ cls := "java/lang/String", name := "coder", desc := "()B" } : Jvm.MethodName) jdk_42_method_152_code (1 : Nat) (Option.some Jvm.ClassFile.FieldType.byte)).before a0 Z = true := hw _ (List.mem_of_getElem? (i := 57) rfl)
theorem tw58 {a0 : Array Value} {Z : State} (hw : Hw a0 Z) : (Jvm.Cond.methodLink "java/lang/String" (637 : Nat) ({ cls := "java/lang/StringLatin1", name := "indexOf", desc := "([BIII)I" } : Jvm.MethodName)).before a0 Z = true := hw _ (List.mem_of_getElem? (i := 58) rfl)
theorem tw59 {a0 : Array Value} {Z : State} (hw : Hw a0 Z) : (Jvm.Cond.static ({ cls := "java/lang/StringLatin1", name := "indexOf", desc := "([BIII)I" } : Jvm.MethodName)).before a0 Z = true := hw _ (List.mem_of_getElem? (i := 59) rfl)
theorem tw60 {a0 : Array Value} {Z : State} (hw : Hw a0 Z) : (Jvm.Cond.initialized "java/lang/StringLatin1").before a0 Z = true := hw _ (List.mem_of_getElem? (i := 60) rfl)
theorem tw61 {a0 : Array Value} {Z : State} (hw : Hw a0 Z) : (Jvm.Cond.code ({ cls := "java/lang/StringLatin1", name := "indexOf", desc := "([BIII)I" } : Jvm.MethodName) jdk_43_method_22_code (4 : Nat) (Option.some Jvm.ClassFile.FieldType.int)).before a0 Z = true := hw _ (List.mem_of_getElem? (i := 61) rfl)
theorem tw62 {a0 : Array Value} {Z : State} (hw : Hw a0 Z) : (Jvm.Cond.methodLink "java/lang/StringLatin1" (88 : Nat) ({ cls := "java/lang/StringLatin1", name := "canEncode", desc := "(I)Z" } : Jvm.MethodName)).before a0 Z = true := hw _ (List.mem_of_getElem? (i := 62) rfl)
theorem tw63 {a0 : Array Value} {Z : State} (hw : Hw a0 Z) : (Jvm.Cond.static ({ cls := "java/lang/StringLatin1", name := "canEncode", desc := "(I)Z" } : Jvm.MethodName)).before a0 Z = true := hw _ (List.mem_of_getElem? (i := 63) rfl)
theorem tw64 {a0 : Array Value} {Z : State} (hw : Hw a0 Z) : (Jvm.Cond.code ({ cls := "java/lang/StringLatin1", name := "canEncode", desc := "(I)Z" } : Jvm.MethodName) jdk_43_method_4_code (1 : Nat) (Option.some Jvm.ClassFile.FieldType.boolean)).before a0 Z = true := hw _ (List.mem_of_getElem? (i := 64) rfl)
theorem tw65 {a0 : Array Value} {Z : State} (hw : Hw a0 Z) : (Jvm.Cond.methodLink "java/lang/StringLatin1" (92 : Nat) ({ cls := "java/lang/Math", name := "max", desc := "(II)I" } : Jvm.MethodName)).before a0 Z = true := hw _ (List.mem_of_getElem? (i := 65) rfl)
theorem tw66 {a0 : Array Value} {Z : State} (hw : Hw a0 Z) : (Jvm.Cond.static ({ cls := "java/lang/Math", name := "max", desc := "(II)I" } : Jvm.MethodName)).before a0 Z = true := hw _ (List.mem_of_getElem? (i := 66) rfl)
theorem tw67 {a0 : Array Value} {Z : State} (hw : Hw a0 Z) : (Jvm.Cond.initialized "java/lang/Math").before a0 Z = true := hw _ (List.mem_of_getElem? (i := 67) rfl)
theorem tw68 {a0 : Array Value} {Z : State} (hw : Hw a0 Z) : (Jvm.Cond.code ({ cls := "java/lang/Math", name := "max", desc := "(II)I" } : Jvm.MethodName) jdk_29_method_65_code (2 : Nat) (Option.some Jvm.ClassFile.FieldType.int)).before a0 Z = true := hw _ (List.mem_of_getElem? (i := 68) rfl)
theorem tw69 {a0 : Array Value} {Z : State} (hw : Hw a0 Z) : (Jvm.Cond.methodLink "java/lang/StringLatin1" (38 : Nat) ({ cls := "java/lang/Math", name := "min", desc := "(II)I" } : Jvm.MethodName)).before a0 Z = true := hw _ (List.mem_of_getElem? (i := 69) rfl)
theorem tw70 {a0 : Array Value} {Z : State} (hw : Hw a0 Z) : (Jvm.Cond.static ({ cls := "java/lang/Math", name := "min", desc := "(II)I" } : Jvm.MethodName)).before a0 Z = true := hw _ (List.mem_of_getElem? (i := 70) rfl)
theorem tw71 {a0 : Array Value} {Z : State} (hw : Hw a0 Z) : (Jvm.Cond.code ({ cls := "java/lang/Math", name := "min", desc := "(II)I" } : Jvm.MethodName) jdk_29_method_69_code (2 : Nat) (Option.some Jvm.ClassFile.FieldType.int)).before a0 Z = true := hw _ (List.mem_of_getElem? (i := 71) rfl)
theorem tw72 {a0 : Array Value} {Z : State} (hw : Hw a0 Z) : (Jvm.Cond.methodLink "java/lang/String" (177 : Nat) ({ cls := "java/lang/StringUTF16", name := "compress", desc := "([CII)[B" } : Jvm.MethodName)).before a0 Z = true := hw _ (List.mem_of_getElem? (i := 72) rfl)
theorem tw73 {a0 : Array Value} {Z : State} (hw : Hw a0 Z) : (Jvm.Cond.static ({ cls := "java/lang/StringUTF16", name := "compress", desc := "([CII)[B" } : Jvm.MethodName)).before a0 Z = true := hw _ (List.mem_of_getElem? (i := 73) rfl)
theorem tw74 {a0 : Array Value} {Z : State} (hw : Hw a0 Z) : (Jvm.Cond.initialized "java/lang/StringUTF16").before a0 Z = true := hw _ (List.mem_of_getElem? (i := 74) rfl)
theorem tw75 {a0 : Array Value} {Z : State} (hw : Hw a0 Z) : (Jvm.Cond.code ({ cls := "java/lang/StringUTF16", name := "compress", desc := "([CII)[B" } : Jvm.MethodName) jdk_52_method_16_code (6 : Nat) (Option.some (Jvm.ClassFile.FieldType.array Jvm.ClassFile.FieldType.byte))).before a0 Z = true := hw _ (List.mem_of_getElem? (i := 75) rfl)
theorem tw76 {a0 : Array Value} {Z : State} (hw : Hw a0 Z) : (Jvm.Cond.methodLink "java/lang/StringUTF16" (115 : Nat) ({ cls := "java/lang/StringUTF16", name := "compress", desc := "([CI[BII)I" } : Jvm.MethodName)).before a0 Z = true := hw _ (List.mem_of_getElem? (i := 76) rfl)
theorem tw77 {a0 : Array Value} {Z : State} (hw : Hw a0 Z) : (Jvm.Cond.static ({ cls := "java/lang/StringUTF16", name := "compress", desc := "([CI[BII)I" } : Jvm.MethodName)).before a0 Z = true := hw _ (List.mem_of_getElem? (i := 77) rfl)
theorem tw78 {a0 : Array Value} {Z : State} (hw : Hw a0 Z) : (Jvm.Cond.code ({ cls := "java/lang/StringUTF16", name := "compress", desc := "([CI[BII)I" } : Jvm.MethodName) jdk_52_method_21_code (7 : Nat) (Option.some Jvm.ClassFile.FieldType.int)).before a0 Z = true := hw _ (List.mem_of_getElem? (i := 78) rfl)
theorem tw79 {a0 : Array Value} {Z : State} (hw : Hw a0 Z) : (Jvm.Cond.methodLink "java/lang/String" (47 : Nat) ({ cls := "java/lang/StringUTF16", name := "coderFromArrayLen", desc := "([BI)B" } : Jvm.MethodName)).before a0 Z = true := hw _ (List.mem_of_getElem? (i := 79) rfl)
theorem tw80 {a0 : Array Value} {Z : State} (hw : Hw a0 Z) : (Jvm.Cond.static ({ cls := "java/lang/StringUTF16", name := "coderFromArrayLen", desc := "([BI)B" } : Jvm.MethodName)).before a0 Z = true := hw _ (List.mem_of_getElem? (i := 80) rfl)
theorem tw81 {a0 : Array Value} {Z : State} (hw : Hw a0 Z) : (Jvm.Cond.code ({ cls := "java/lang/StringUTF16", name := "coderFromArrayLen", desc := "([BI)B" } : Jvm.MethodName) jdk_52_method_15_code (2 : Nat) (Option.some Jvm.ClassFile.FieldType.byte)).before a0 Z = true := hw _ (List.mem_of_getElem? (i := 81) rfl)
theorem tw82 {a0 : Array Value} {Z : State} (hw : Hw a0 Z) : (Jvm.Cond.methodLink "com/example/canny_warden/cannywarden/engine/WildcardHasWildcardPinLaw" (20 : Nat) ({ cls := "com/example/canny_warden/cannywarden/engine/WildcardHasWildcardPinLaw", name := "wild", desc := "(C)Z" } : Jvm.MethodName)).before a0 Z = true := hw _ (List.mem_of_getElem? (i := 82) rfl)
theorem tw83 {a0 : Array Value} {Z : State} (hw : Hw a0 Z) : (Jvm.Cond.static ({ cls := "com/example/canny_warden/cannywarden/engine/WildcardHasWildcardPinLaw", name := "wild", desc := "(C)Z" } : Jvm.MethodName)).before a0 Z = true := hw _ (List.mem_of_getElem? (i := 83) rfl)
theorem tw84 {a0 : Array Value} {Z : State} (hw : Hw a0 Z) : (Jvm.Cond.code ({ cls := "com/example/canny_warden/cannywarden/engine/WildcardHasWildcardPinLaw", name := "wild", desc := "(C)Z" } : Jvm.MethodName) method_3_code (1 : Nat) (Option.some Jvm.ClassFile.FieldType.boolean)).before a0 Z = true := hw _ (List.mem_of_getElem? (i := 84) rfl)
theorem tw85 {a0 : Array Value} {Z : State} (hw : Hw a0 Z) : (Jvm.Cond.methodLink "java/lang/StringLatin1" (95 : Nat) ({ cls := "java/lang/StringLatin1", name := "indexOfChar", desc := "([BIII)I" } : Jvm.MethodName)).before a0 Z = true := hw _ (List.mem_of_getElem? (i := 85) rfl)
theorem tw86 {a0 : Array Value} {Z : State} (hw : Hw a0 Z) : (Jvm.Cond.static ({ cls := "java/lang/StringLatin1", name := "indexOfChar", desc := "([BIII)I" } : Jvm.MethodName)).before a0 Z = true := hw _ (List.mem_of_getElem? (i := 86) rfl)
theorem tw87 {a0 : Array Value} {Z : State} (hw : Hw a0 Z) : (Jvm.Cond.code ({ cls := "java/lang/StringLatin1", name := "indexOfChar", desc := "([BIII)I" } : Jvm.MethodName) jdk_43_method_23_code (6 : Nat) (Option.some Jvm.ClassFile.FieldType.int)).before a0 Z = true := hw _ (List.mem_of_getElem? (i := 87) rfl)
theorem tw88 {a0 : Array Value} {Z : State} (hw : Hw a0 Z) : (Jvm.Cond.methodLink "java/lang/StringUTF16" (119 : Nat) ({ cls := "java/lang/StringUTF16", name := "toBytes", desc := "([CII)[B" } : Jvm.MethodName)).before a0 Z = true := hw _ (List.mem_of_getElem? (i := 88) rfl)
theorem tw89 {a0 : Array Value} {Z : State} (hw : Hw a0 Z) : (Jvm.Cond.static ({ cls := "java/lang/StringUTF16", name := "toBytes", desc := "([CII)[B" } : Jvm.MethodName)).before a0 Z = true := hw _ (List.mem_of_getElem? (i := 89) rfl)
theorem tw90 {a0 : Array Value} {Z : State} (hw : Hw a0 Z) : (Jvm.Cond.code ({ cls := "java/lang/StringUTF16", name := "toBytes", desc := "([CII)[B" } : Jvm.MethodName) jdk_52_method_14_code (5 : Nat) (Option.some (Jvm.ClassFile.FieldType.array Jvm.ClassFile.FieldType.byte))).before a0 Z = true := hw _ (List.mem_of_getElem? (i := 90) rfl)
theorem tw91 {a0 : Array Value} {Z : State} (hw : Hw a0 Z) : (Jvm.Cond.methodLink "java/lang/StringUTF16" (107 : Nat) ({ cls := "java/lang/StringUTF16", name := "newBytesFor", desc := "(I)[B" } : Jvm.MethodName)).before a0 Z = true := hw _ (List.mem_of_getElem? (i := 91) rfl)
theorem tw92 {a0 : Array Value} {Z : State} (hw : Hw a0 Z) : (Jvm.Cond.static ({ cls := "java/lang/StringUTF16", name := "newBytesFor", desc := "(I)[B" } : Jvm.MethodName)).before a0 Z = true := hw _ (List.mem_of_getElem? (i := 92) rfl)
theorem tw93 {a0 : Array Value} {Z : State} (hw : Hw a0 Z) : (Jvm.Cond.code ({ cls := "java/lang/StringUTF16", name := "newBytesFor", desc := "(I)[B" } : Jvm.MethodName) jdk_52_method_2_code (1 : Nat) (Option.some (Jvm.ClassFile.FieldType.array Jvm.ClassFile.FieldType.byte))).before a0 Z = true := hw _ (List.mem_of_getElem? (i := 93) rfl)
theorem tw94 {a0 : Array Value} {Z : State} (hw : Hw a0 Z) : (Jvm.Cond.methodLink "java/lang/StringUTF16" (11 : Nat) ({ cls := "java/lang/StringUTF16", name := "newBytesLength", desc := "(I)I" } : Jvm.MethodName)).before a0 Z = true := hw _ (List.mem_of_getElem? (i := 94) rfl)
theorem tw95 {a0 : Array Value} {Z : State} (hw : Hw a0 Z) : (Jvm.Cond.static ({ cls := "java/lang/StringUTF16", name := "newBytesLength", desc := "(I)I" } : Jvm.MethodName)).before a0 Z = true := hw _ (List.mem_of_getElem? (i := 95) rfl)
theorem tw96 {a0 : Array Value} {Z : State} (hw : Hw a0 Z) : (Jvm.Cond.code ({ cls := "java/lang/StringUTF16", name := "newBytesLength", desc := "(I)I" } : Jvm.MethodName) jdk_52_method_3_code (1 : Nat) (Option.some Jvm.ClassFile.FieldType.int)).before a0 Z = true := hw _ (List.mem_of_getElem? (i := 96) rfl)
theorem tw97 {a0 : Array Value} {Z : State} (hw : Hw a0 Z) : (Jvm.Cond.constant "java/lang/StringUTF16" (20 : Nat) (1073741823 : Int32)).before a0 Z = true := hw _ (List.mem_of_getElem? (i := 97) rfl)
theorem tw98 {a0 : Array Value} {Z : State} (hw : Hw a0 Z) : (Jvm.Cond.methodLink "java/lang/StringUTF16" (111 : Nat) ({ cls := "java/lang/StringUTF16", name := "putChar", desc := "([BII)V" } : Jvm.MethodName)).before a0 Z = true := hw _ (List.mem_of_getElem? (i := 98) rfl)
theorem tw99 {a0 : Array Value} {Z : State} (hw : Hw a0 Z) : (Jvm.Cond.static ({ cls := "java/lang/StringUTF16", name := "putChar", desc := "([BII)V" } : Jvm.MethodName)).before a0 Z = true := hw _ (List.mem_of_getElem? (i := 99) rfl)
theorem tw100 {a0 : Array Value} {Z : State} (hw : Hw a0 Z) : (Jvm.Cond.code ({ cls := "java/lang/StringUTF16", name := "putChar", desc := "([BII)V" } : Jvm.MethodName) jdk_52_method_4_code (3 : Nat) (Option.none : Option Jvm.ClassFile.FieldType)).before a0 Z = true := hw _ (List.mem_of_getElem? (i := 100) rfl)
theorem tw101 {a0 : Array Value} {Z : State} (hw : Hw a0 Z) : (Jvm.Cond.fieldLink "java/lang/StringUTF16" (44 : Nat) "java/lang/StringUTF16" "$assertionsDisabled" "Z").before a0 Z = true := hw _ (List.mem_of_getElem? (i := 101) rfl)
theorem tw102 {a0 : Array Value} {Z : State} (hw : Hw a0 Z) : (Jvm.Cond.fieldLink "java/lang/StringUTF16" (59 : Nat) "java/lang/StringUTF16" "HI_BYTE_SHIFT" "I").before a0 Z = true := hw _ (List.mem_of_getElem? (i := 102) rfl)
theorem tw103 {a0 : Array Value} {Z : State} (hw : Hw a0 Z) : (Jvm.Cond.fieldLink "java/lang/StringUTF16" (63 : Nat) "java/lang/StringUTF16" "LO_BYTE_SHIFT" "I").before a0 Z = true := hw _ (List.mem_of_getElem? (i := 103) rfl)
theorem tw104 {a0 : Array Value} {Z : State} (hw : Hw a0 Z) : (Jvm.Cond.methodLink "java/lang/StringUTF16" (71 : Nat) ({ cls := "java/lang/StringUTF16", name := "getChar", desc := "([BI)C" } : Jvm.MethodName)).before a0 Z = true := hw _ (List.mem_of_getElem? (i := 104) rfl)
theorem tw105 {a0 : Array Value} {Z : State} (hw : Hw a0 Z) : (Jvm.Cond.static ({ cls := "java/lang/StringUTF16", name := "getChar", desc := "([BI)C" } : Jvm.MethodName)).before a0 Z = true := hw _ (List.mem_of_getElem? (i := 105) rfl)
theorem tw106 {a0 : Array Value} {Z : State} (hw : Hw a0 Z) : (Jvm.Cond.code ({ cls := "java/lang/StringUTF16", name := "getChar", desc := "([BI)C" } : Jvm.MethodName) jdk_52_method_5_code (2 : Nat) (Option.some Jvm.ClassFile.FieldType.char)).before a0 Z = true := hw _ (List.mem_of_getElem? (i := 106) rfl)
theorem tw107 {a0 : Array Value} {Z : State} (hw : Hw a0 Z) : (Jvm.Cond.methodLink "java/lang/String" (640 : Nat) ({ cls := "java/lang/StringUTF16", name := "indexOf", desc := "([BIII)I" } : Jvm.MethodName)).before a0 Z = true := hw _ (List.mem_of_getElem? (i := 107) rfl)
theorem tw108 {a0 : Array Value} {Z : State} (hw : Hw a0 Z) : (Jvm.Cond.static ({ cls := "java/lang/StringUTF16", name := "indexOf", desc := "([BIII)I" } : Jvm.MethodName)).before a0 Z = true := hw _ (List.mem_of_getElem? (i := 108) rfl)
theorem tw109 {a0 : Array Value} {Z : State} (hw : Hw a0 Z) : (Jvm.Cond.code ({ cls := "java/lang/StringUTF16", name := "indexOf", desc := "([BIII)I" } : Jvm.MethodName) jdk_52_method_40_code (4 : Nat) (Option.some Jvm.ClassFile.FieldType.int)).before a0 Z = true := hw _ (List.mem_of_getElem? (i := 109) rfl)
theorem tw110 {a0 : Array Value} {Z : State} (hw : Hw a0 Z) : (Jvm.Cond.methodLink "java/lang/StringUTF16" (224 : Nat) ({ cls := "java/lang/Math", name := "max", desc := "(II)I" } : Jvm.MethodName)).before a0 Z = true := hw _ (List.mem_of_getElem? (i := 110) rfl)
theorem tw111 {a0 : Array Value} {Z : State} (hw : Hw a0 Z) : (Jvm.Cond.methodLink "java/lang/StringUTF16" (183 : Nat) ({ cls := "java/lang/Math", name := "min", desc := "(II)I" } : Jvm.MethodName)).before a0 Z = true := hw _ (List.mem_of_getElem? (i := 111) rfl)
theorem tw112 {a0 : Array Value} {Z : State} (hw : Hw a0 Z) : (Jvm.Cond.constant "java/lang/StringUTF16" (227 : Nat) (65536 : Int32)).before a0 Z = true := hw _ (List.mem_of_getElem? (i := 112) rfl)
theorem tw113 {a0 : Array Value} {Z : State} (hw : Hw a0 Z) : (Jvm.Cond.methodLink "java/lang/StringUTF16" (228 : Nat) ({ cls := "java/lang/StringUTF16", name := "indexOfChar", desc := "([BIII)I" } : Jvm.MethodName)).before a0 Z = true := hw _ (List.mem_of_getElem? (i := 113) rfl)
theorem tw114 {a0 : Array Value} {Z : State} (hw : Hw a0 Z) : (Jvm.Cond.static ({ cls := "java/lang/StringUTF16", name := "indexOfChar", desc := "([BIII)I" } : Jvm.MethodName)).before a0 Z = true := hw _ (List.mem_of_getElem? (i := 114) rfl)
theorem tw115 {a0 : Array Value} {Z : State} (hw : Hw a0 Z) : (Jvm.Cond.code ({ cls := "java/lang/StringUTF16", name := "indexOfChar", desc := "([BIII)I" } : Jvm.MethodName) jdk_52_method_47_code (4 : Nat) (Option.some Jvm.ClassFile.FieldType.int)).before a0 Z = true := hw _ (List.mem_of_getElem? (i := 115) rfl)
theorem tw116 {a0 : Array Value} {Z : State} (hw : Hw a0 Z) : (Jvm.Cond.methodLink "java/lang/StringUTF16" (96 : Nat) ({ cls := "java/lang/StringUTF16", name := "checkBoundsBeginEnd", desc := "(II[B)V" } : Jvm.MethodName)).before a0 Z = true := hw _ (List.mem_of_getElem? (i := 116) rfl)
theorem tw117 {a0 : Array Value} {Z : State} (hw : Hw a0 Z) : (Jvm.Cond.static ({ cls := "java/lang/StringUTF16", name := "checkBoundsBeginEnd", desc := "(II[B)V" } : Jvm.MethodName)).before a0 Z = true := hw _ (List.mem_of_getElem? (i := 117) rfl)
theorem tw118 {a0 : Array Value} {Z : State} (hw : Hw a0 Z) : (Jvm.Cond.code ({ cls := "java/lang/StringUTF16", name := "checkBoundsBeginEnd", desc := "(II[B)V" } : Jvm.MethodName) jdk_52_method_93_code (3 : Nat) (Option.none : Option Jvm.ClassFile.FieldType)).before a0 Z = true := hw _ (List.mem_of_getElem? (i := 118) rfl)
theorem tw119 {a0 : Array Value} {Z : State} (hw : Hw a0 Z) : (Jvm.Cond.methodLink "java/lang/StringUTF16" (48 : Nat) ({ cls := "java/lang/StringUTF16", name := "length", desc := "([B)I" } : Jvm.MethodName)).before a0 Z = true := hw _ (List.mem_of_getElem? (i := 119) rfl)
theorem tw120 {a0 : Array Value} {Z : State} (hw : Hw a0 Z) : (Jvm.Cond.static ({ cls := "java/lang/StringUTF16", name := "length", desc := "([B)I" } : Jvm.MethodName)).before a0 Z = true := hw _ (List.mem_of_getElem? (i := 120) rfl)
theorem tw121 {a0 : Array Value} {Z : State} (hw : Hw a0 Z) : (Jvm.Cond.code ({ cls := "java/lang/StringUTF16", name := "length", desc := "([B)I" } : Jvm.MethodName) jdk_52_method_6_code (1 : Nat) (Option.some Jvm.ClassFile.FieldType.int)).before a0 Z = true := hw _ (List.mem_of_getElem? (i := 121) rfl)
theorem tw122 {a0 : Array Value} {Z : State} (hw : Hw a0 Z) : (Jvm.Cond.methodLink "java/lang/StringUTF16" (241 : Nat) ({ cls := "java/lang/String", name := "checkBoundsBeginEnd", desc := "(III)V" } : Jvm.MethodName)).before a0 Z = true := hw _ (List.mem_of_getElem? (i := 122) rfl)
theorem tw123 {a0 : Array Value} {Z : State} (hw : Hw a0 Z) : (Jvm.Cond.static ({ cls := "java/lang/String", name := "checkBoundsBeginEnd", desc := "(III)V" } : Jvm.MethodName)).before a0 Z = true := hw _ (List.mem_of_getElem? (i := 123) rfl)
theorem tw124 {a0 : Array Value} {Z : State} (hw : Hw a0 Z) : (Jvm.Cond.code ({ cls := "java/lang/String", name := "checkBoundsBeginEnd", desc := "(III)V" } : Jvm.MethodName) jdk_42_method_158_code (3 : Nat) (Option.none : Option Jvm.ClassFile.FieldType)).before a0 Z = true := hw _ (List.mem_of_getElem? (i := 124) rfl)
theorem tw125 {a0 : Array Value} {Z : State} (hw : Hw a0 Z) : (Jvm.Cond.fieldLink "java/lang/String" (1053 : Nat) "jdk/internal/util/Preconditions" "SIOOBE_FORMATTER" "Ljava/util/function/BiFunction;").before a0 Z = true := hw _ (List.mem_of_getElem? (i := 125) rfl)
theorem tw126 {a0 : Array Value} {Z : State} (hw : Hw a0 Z) : (Jvm.Cond.initialized "jdk/internal/util/Preconditions").before a0 Z = true := hw _ (List.mem_of_getElem? (i := 126) rfl)
theorem tw127 {a0 : Array Value} {Z : State} (hw : Hw a0 Z) : (Jvm.Cond.methodLink "java/lang/String" (1062 : Nat) ({ cls := "jdk/internal/util/Preconditions", name := "checkFromToIndex", desc := "(IIILjava/util/function/BiFunction;)I" } : Jvm.MethodName)).before a0 Z = true := hw _ (List.mem_of_getElem? (i := 127) rfl)
theorem tw128 {a0 : Array Value} {Z : State} (hw : Hw a0 Z) : (Jvm.Cond.static ({ cls := "jdk/internal/util/Preconditions", name := "checkFromToIndex", desc := "(IIILjava/util/function/BiFunction;)I" } : Jvm.MethodName)).before a0 Z = true := hw _ (List.mem_of_getElem? (i := 128) rfl)
theorem tw129 {a0 : Array Value} {Z : State} (hw : Hw a0 Z) : (Jvm.Cond.code ({ cls := "jdk/internal/util/Preconditions", name := "checkFromToIndex", desc := "(IIILjava/util/function/BiFunction;)I" } : Jvm.MethodName) jdk_41_method_12_code (4 : Nat) (Option.some Jvm.ClassFile.FieldType.int)).before a0 Z = true := hw _ (List.mem_of_getElem? (i := 129) rfl)
theorem tw130 {a0 : Array Value} {Z : State} (hw : Hw a0 Z) : (Jvm.Cond.methodLink "java/lang/StringUTF16" (244 : Nat) ({ cls := "java/lang/StringUTF16", name := "indexOfCharUnsafe", desc := "([BIII)I" } : Jvm.MethodName)).before a0 Z = true := hw _ (List.mem_of_getElem? (i := 130) rfl)
theorem tw131 {a0 : Array Value} {Z : State} (hw : Hw a0 Z) : (Jvm.Cond.static ({ cls := "java/lang/StringUTF16", name := "indexOfCharUnsafe", desc := "([BIII)I" } : Jvm.MethodName)).before a0 Z = true := hw _ (List.mem_of_getElem? (i := 131) rfl)
theorem tw132 {a0 : Array Value} {Z : State} (hw : Hw a0 Z) : (Jvm.Cond.code ({ cls := "java/lang/StringUTF16", name := "indexOfCharUnsafe", desc := "([BIII)I" } : Jvm.MethodName) jdk_52_method_48_code (5 : Nat) (Option.some Jvm.ClassFile.FieldType.int)).before a0 Z = true := hw _ (List.mem_of_getElem? (i := 132) rfl)
abbrev yy0 : MethodName := ⟨"com/example/canny_warden/cannywarden/engine/WildcardHasWildcardPinLaw", "draw", "(I)C"⟩
abbrev yy1 : MethodName := ⟨"com/example/canny_warden/cannywarden/engine/WildcardHasWildcardPinLaw", "wild", "(C)Z"⟩
abbrev yy2 : MethodName := ⟨"java/lang/StringLatin1", "canEncode", "(I)Z"⟩
abbrev yy3 : MethodName := ⟨"java/lang/String", "isLatin1", "()Z"⟩
abbrev yy4 : MethodName := ⟨"java/lang/String", "coder", "()B"⟩
abbrev yy5 : MethodName := ⟨"java/lang/Math", "max", "(II)I"⟩
abbrev yy6 : MethodName := ⟨"java/lang/Math", "min", "(II)I"⟩
abbrev yy7 : MethodName := ⟨"java/lang/StringUTF16", "newBytesLength", "(I)I"⟩
abbrev yy8 : MethodName := ⟨"java/lang/StringUTF16", "newBytesFor", "(I)[B"⟩
abbrev yy9 : MethodName := ⟨"java/lang/StringUTF16", "putChar", "([BII)V"⟩
abbrev yy10 : MethodName := ⟨"java/lang/StringUTF16", "getChar", "([BI)C"⟩
abbrev yy11 : MethodName := ⟨"java/lang/StringUTF16", "toBytes", "([CII)[B"⟩
abbrev yy12 : MethodName := ⟨"java/lang/StringUTF16", "compress", "([CI[BII)I"⟩
abbrev yy13 : MethodName := ⟨"java/lang/StringUTF16", "compress", "([CII)[B"⟩
abbrev yy14 : MethodName := ⟨"java/lang/StringUTF16", "coderFromArrayLen", "([BI)B"⟩
abbrev yy15 : MethodName := ⟨"java/lang/String", "<init>", "([CIILjava/lang/Void;)V"⟩
abbrev yy16 : MethodName := ⟨"java/lang/String", "<init>", "([C)V"⟩
abbrev yy17 : MethodName := ⟨"java/lang/StringLatin1", "indexOf", "([BIII)I"⟩
abbrev yy18 : MethodName := ⟨"java/lang/StringLatin1", "indexOfChar", "([BIII)I"⟩
abbrev yy19 : MethodName := ⟨"java/lang/StringUTF16", "length", "([B)I"⟩
abbrev yy20 : MethodName := ⟨"jdk/internal/util/Preconditions", "checkFromToIndex", "(IIILjava/util/function/BiFunction;)I"⟩
abbrev yy21 : MethodName := ⟨"java/lang/String", "checkBoundsBeginEnd", "(III)V"⟩
abbrev yy22 : MethodName := ⟨"java/lang/StringUTF16", "checkBoundsBeginEnd", "(II[B)V"⟩
abbrev yy23 : MethodName := ⟨"java/lang/StringUTF16", "indexOfCharUnsafe", "([BIII)I"⟩
abbrev yy24 : MethodName := ⟨"java/lang/StringUTF16", "indexOfChar", "([BIII)I"⟩
abbrev yy25 : MethodName := ⟨"java/lang/StringUTF16", "indexOf", "([BIII)I"⟩
abbrev yy26 : MethodName := ⟨"java/lang/String", "length", "()I"⟩
abbrev yy27 : MethodName := ⟨"java/lang/String", "indexOf", "(II)I"⟩
abbrev yy28 : MethodName := ⟨"java/lang/String", "indexOf", "(I)I"⟩
abbrev yy29 : MethodName := ⟨"com/example/canny_warden/cannywarden/engine/Wildcard", "hasWildcard", "(Ljava/lang/String;)Z"⟩
abbrev s0_ : String := "java/lang/String"
abbrev s1_ : String := "java/lang/StringUTF16"
abbrev s2_ : String := "$assertionsDisabled"
abbrev s3_ : String := "HI_BYTE_SHIFT"
abbrev s4_ : String := "LO_BYTE_SHIFT"
abbrev s5_ : String := "COMPACT_STRINGS"
abbrev s6_ : String := "jdk/internal/util/Preconditions"
abbrev s7_ : String := "SIOOBE_FORMATTER"
abbrev s8_ : String := "Ljava/util/function/BiFunction;"
abbrev im4 : Int32 := -4
abbrev im3 : Int32 := -3
abbrev im2 : Int32 := -2
abbrev im1 : Int32 := -1
abbrev i0 : Int32 := 0
abbrev i1 : Int32 := 1
abbrev i2 : Int32 := 2
abbrev i3 : Int32 := 3
abbrev i4 : Int32 := 4
abbrev i5 : Int32 := 5
abbrev i6 : Int32 := 6
abbrev i7 : Int32 := 7
abbrev i8 : Int32 := 8
abbrev i31 : Int32 := 31
abbrev i42 : Int32 := 42
abbrev i63 : Int32 := 63
abbrev i255 : Int32 := 255
abbrev i65535 : Int32 := 65535
abbrev i65536 : Int32 := 65536
abbrev i1073741823 : Int32 := 1073741823
abbrev i2147483647 : Int32 := 2147483647
set_option maxRecDepth 65536
set_option maxHeartbeats 40000000
def Qm1 (Z : State) (p1 : Int32) (h0 : Heap) (n0 : Nat) (v : Option Value) (h : Heap) (L : List Loc) : Prop := ∃ (r0 : Int32), v = some (.int r0) ∧ (0 ≤ r0.toInt ∧ r0.toInt ≤ 65535) ∧ Fr n0 L ∧ h = h0
theorem rm1 (l : Launch) (Z : State) (a0 : Array Value) (hw : Hw a0 Z) (p1 : Int32) (h0 : Heap) (n0 : Nat) (Z0 : n0 ≤ h0.size) :
  Met l Z h0 yy0 method_2_code 3 (some .char) (rmk 0 0 0 0) #[(.int p1)] (Qm1 Z p1 h0 n0) := by
 refine enter (plainFor_of_name pn_1) (fun m => ef_1 m p1) fun p e s m below meth c s₁ hx hby hml hown hnm hZ X0 e0 hret hlk => ?_
 have N0 := Fr.nil n0; have H := @hb c _ hby
 refine g_iloadN X0 hx (H d1_0) rfl ?_
 refine g_iconst X0 hx i3 (H d1_1) rfl ?_
 refine g_iand X0 hx (H d1_2) ?_
 refine g_istoreN X0 hx (H d1_3) (l' := #[iv p1, .val (.int (p1 &&& i3)), .unset]) rfl ?_
 refine g_iloadN X0 hx (H d1_4) rfl ?_
 by_cases hc_1 : (p1 &&& i3) = i0
 ·skip
  refine g_ifNo X0 hx (H d1_5) (teq hc_1).2 ?_
  refine g_bipush X0 hx i42 (H d1_8) rfl ?_
  refine g_istoreN X0 hx (H d1_10) (l' := #[iv p1, .val (.int (p1 &&& i3)), iv i42]) rfl ?_
  refine g_goto X0 hx 33 (H d1_11) (by decide) (by decide) ?_
  refine g_iloadN X0 hx (H d1_33) rfl ?_
  exact Go.ret (Q := Qm1 Z p1 h0 n0) X0 (v := some (.int i42)) (fun h => by rw [hret] at h; cases h) hlk (fun fs hr => retN X0 hx (t := .char) hret (by simp) (H d1_34) hr) e0 ⟨_, rfl, (by decide), N0, rfl⟩ (by decide) (by decide)
 ·skip
  refine g_ifYes X0 hx 14 (H d1_5) (feq hc_1).2 (by decide) (by decide) ?_
  refine g_iloadN X0 hx (H d1_14) rfl ?_
  refine g_iconst X0 hx i1 (H d1_15) rfl ?_
  by_cases hc_2 : (p1 &&& i3) = i1
  ·skip
   refine g_icmpNo X0 hx (H d1_16) (teq hc_2).2 ?_
   refine g_bipush X0 hx i63 (H d1_19) rfl ?_
   refine g_istoreN X0 hx (H d1_21) (l' := #[iv p1, .val (.int (p1 &&& i3)), iv i63]) rfl ?_
   refine g_goto X0 hx 33 (H d1_22) (by decide) (by decide) ?_
   refine g_iloadN X0 hx (H d1_33) rfl ?_
   exact Go.ret (Q := Qm1 Z p1 h0 n0) X0 (v := some (.int i63)) (fun h => by rw [hret] at h; cases h) hlk (fun fs hr => retN X0 hx (t := .char) hret (by simp) (H d1_34) hr) e0 ⟨_, rfl, (by decide), N0, rfl⟩ (by decide) (by decide)
  ·skip
   refine g_icmpYes X0 hx 25 (H d1_16) (feq hc_2).2 (by decide) (by decide) ?_
   refine g_iloadN X0 hx (H d1_25) rfl ?_
   refine g_iconst X0 hx i2 (H d1_26) rfl ?_
   refine g_iushr X0 hx (H d1_27) ?_
   refine Go.st (fun _ kk => X0.ldcInt hx hown (mvT hZ (tw5 hw)) (g := (mkF m 28 #[iv p1, .val (.int (p1 &&& i3)), .unset] [(.int ((p1.toUInt32 >>> (i2 &&& 31).toUInt32).toInt32))])) rfl (H d1_28) _ kk) ?_
   show Gs p e below _ s₁ m 30 #[iv p1, .val (.int (p1 &&& i3)), .unset] [(.int i65535), (.int ((p1.toUInt32 >>> (i2 &&& 31).toUInt32).toInt32))]
   refine g_iand X0 hx (H d1_30) ?_
   refine g_i2c X0 hx (H d1_31) ?_
   refine g_istoreN X0 hx (H d1_32) (l' := #[iv p1, .val (.int (p1 &&& i3)), .val (.int ((((p1.toUInt32 >>> (i2 &&& 31).toUInt32).toInt32) &&& i65535).toUInt32.toUInt16.toUInt32.toInt32))]) rfl ?_
   refine g_iloadN X0 hx (H d1_33) rfl ?_
   exact Go.ret (Q := Qm1 Z p1 h0 n0) X0 (v := some (.int (nar .char ((((p1.toUInt32 >>> (i2 &&& 31).toUInt32).toInt32) &&& i65535).toUInt32.toUInt16.toUInt32.toInt32)))) (fun h => by rw [hret] at h; cases h) hlk (fun fs hr => retN X0 hx (t := .char) hret (by simp) (H d1_34) hr) e0 ⟨_, rfl, (own_nb _), N0, rfl⟩ (by decide) (by decide)
def Qm18_t (Z : State) (p1 : Int32) (h0 : Heap) (n0 : Nat) (v : Option Value) (h : Heap) (L : List Loc) : Prop := v = some (.int i1) ∧ Fr n0 L ∧ h = h0
theorem rm18_t (l : Launch) (Z : State) (a0 : Array Value) (hw : Hw a0 Z) (p1 : Int32) (h0 : Heap) (n0 : Nat) (Z0 : n0 ≤ h0.size) (hd0 : p1 = i42) :
  Met l Z h0 yy1 method_3_code 1 (some .boolean) (rmk 0 0 0 0) #[(.int p1)] (Qm18_t Z p1 h0 n0) := by
 refine enter (plainFor_of_name pn_18) (fun m => ef_18 m p1) fun p e s m below meth c s₁ hx hby hml hown hnm hZ X0 e0 hret hlk => ?_
 have N0 := Fr.nil n0; have H := @hb c _ hby
 refine g_iloadN X0 hx (H d18_0) rfl ?_
 refine g_bipush X0 hx i42 (H d18_1) rfl ?_
 refine g_icmpYes X0 hx 12 (H d18_3) (teq hd0).1 (by decide) (by decide) ?_
 refine g_iconst X0 hx i1 (H d18_12) rfl ?_
 refine g_goto X0 hx 17 (H d18_13) (by decide) (by decide) ?_
 exact Go.ret (Q := Qm18_t Z p1 h0 n0) X0 (v := some (.int i1)) (fun h => by rw [hret] at h; cases h) hlk (fun fs hr => retN X0 hx (t := .boolean) hret (by simp) (H d18_17) hr) e0 ⟨rfl, N0, rfl⟩ (by decide) (by decide)
def Qm18_ft (Z : State) (p1 : Int32) (h0 : Heap) (n0 : Nat) (v : Option Value) (h : Heap) (L : List Loc) : Prop := v = some (.int i1) ∧ Fr n0 L ∧ h = h0
theorem rm18_ft (l : Launch) (Z : State) (a0 : Array Value) (hw : Hw a0 Z) (p1 : Int32) (h0 : Heap) (n0 : Nat) (Z0 : n0 ≤ h0.size) (hd0 : ¬ (p1 = i42)) (hd1 : p1 = i63) :
  Met l Z h0 yy1 method_3_code 1 (some .boolean) (rmk 0 0 0 0) #[(.int p1)] (Qm18_ft Z p1 h0 n0) := by
 refine enter (plainFor_of_name pn_18) (fun m => ef_18 m p1) fun p e s m below meth c s₁ hx hby hml hown hnm hZ X0 e0 hret hlk => ?_
 have N0 := Fr.nil n0; have H := @hb c _ hby
 refine g_iloadN X0 hx (H d18_0) rfl ?_
 refine g_bipush X0 hx i42 (H d18_1) rfl ?_
 refine g_icmpNo X0 hx (H d18_3) (feq hd0).1 ?_
 refine g_iloadN X0 hx (H d18_6) rfl ?_
 refine g_bipush X0 hx i63 (H d18_7) rfl ?_
 refine g_icmpNo X0 hx (H d18_9) (teq hd1).2 ?_
 refine g_iconst X0 hx i1 (H d18_12) rfl ?_
 refine g_goto X0 hx 17 (H d18_13) (by decide) (by decide) ?_
 exact Go.ret (Q := Qm18_ft Z p1 h0 n0) X0 (v := some (.int i1)) (fun h => by rw [hret] at h; cases h) hlk (fun fs hr => retN X0 hx (t := .boolean) hret (by simp) (H d18_17) hr) e0 ⟨rfl, N0, rfl⟩ (by decide) (by decide)
def Qm18_ff (Z : State) (p1 : Int32) (h0 : Heap) (n0 : Nat) (v : Option Value) (h : Heap) (L : List Loc) : Prop := v = some (.int i0) ∧ Fr n0 L ∧ h = h0
theorem rm18_ff (l : Launch) (Z : State) (a0 : Array Value) (hw : Hw a0 Z) (p1 : Int32) (h0 : Heap) (n0 : Nat) (Z0 : n0 ≤ h0.size) (hd0 : ¬ (p1 = i42)) (hd1 : ¬ (p1 = i63)) :
  Met l Z h0 yy1 method_3_code 1 (some .boolean) (rmk 0 0 0 0) #[(.int p1)] (Qm18_ff Z p1 h0 n0) := by
 refine enter (plainFor_of_name pn_18) (fun m => ef_18 m p1) fun p e s m below meth c s₁ hx hby hml hown hnm hZ X0 e0 hret hlk => ?_
 have N0 := Fr.nil n0; have H := @hb c _ hby
 refine g_iloadN X0 hx (H d18_0) rfl ?_
 refine g_bipush X0 hx i42 (H d18_1) rfl ?_
 refine g_icmpNo X0 hx (H d18_3) (feq hd0).1 ?_
 refine g_iloadN X0 hx (H d18_6) rfl ?_
 refine g_bipush X0 hx i63 (H d18_7) rfl ?_
 refine g_icmpYes X0 hx 16 (H d18_9) (feq hd1).2 (by decide) (by decide) ?_
 refine g_iconst X0 hx i0 (H d18_16) rfl ?_
 exact Go.ret (Q := Qm18_ff Z p1 h0 n0) X0 (v := some (.int i0)) (fun h => by rw [hret] at h; cases h) hlk (fun fs hr => retN X0 hx (t := .boolean) hret (by simp) (H d18_17) hr) e0 ⟨rfl, N0, rfl⟩ (by decide) (by decide)
def Qm12_t (Z : State) (p1 : Int32) (h0 : Heap) (n0 : Nat) (v : Option Value) (h : Heap) (L : List Loc) : Prop := v = some (.int i0) ∧ Fr n0 L ∧ h = h0
theorem rm12_t (l : Launch) (Z : State) (a0 : Array Value) (hw : Hw a0 Z) (p1 : Int32) (h0 : Heap) (n0 : Nat) (Z0 : n0 ≤ h0.size) (hd0 : p1 < i0) :
  Met l Z h0 yy2 jdk_43_method_4_code 1 (some .boolean) (rmk 0 0 0 0) #[(.int p1)] (Qm12_t Z p1 h0 n0) := by
 refine enter (plainFor_of_name pn_12) (fun m => ef_12 m p1) fun p e s m below meth c s₁ hx hby hml hown hnm hZ X0 e0 hret hlk => ?_
 have N0 := Fr.nil n0; have H := @hb c _ hby
 refine g_iloadN X0 hx (H d12_0) rfl ?_
 refine g_ifYes X0 hx 15 (H d12_1) (tlt hd0).1 (by decide) (by decide) ?_
 refine g_iconst X0 hx i0 (H d12_15) rfl ?_
 exact Go.ret (Q := Qm12_t Z p1 h0 n0) X0 (v := some (.int i0)) (fun h => by rw [hret] at h; cases h) hlk (fun fs hr => retN X0 hx (t := .boolean) hret (by simp) (H d12_16) hr) e0 ⟨rfl, N0, rfl⟩ (by decide) (by decide)
def Qm12_ft (Z : State) (p1 : Int32) (h0 : Heap) (n0 : Nat) (v : Option Value) (h : Heap) (L : List Loc) : Prop := v = some (.int i0) ∧ Fr n0 L ∧ h = h0
theorem rm12_ft (l : Launch) (Z : State) (a0 : Array Value) (hw : Hw a0 Z) (p1 : Int32) (h0 : Heap) (n0 : Nat) (Z0 : n0 ≤ h0.size) (hd0 : ¬ (p1 < i0)) (hd1 : i255 < p1) :
  Met l Z h0 yy2 jdk_43_method_4_code 1 (some .boolean) (rmk 0 0 0 0) #[(.int p1)] (Qm12_ft Z p1 h0 n0) := by
 refine enter (plainFor_of_name pn_12) (fun m => ef_12 m p1) fun p e s m below meth c s₁ hx hby hml hown hnm hZ X0 e0 hret hlk => ?_
 have N0 := Fr.nil n0; have H := @hb c _ hby
 refine g_iloadN X0 hx (H d12_0) rfl ?_
 refine g_ifNo X0 hx (H d12_1) (flt hd0).1 ?_
 refine g_iloadN X0 hx (H d12_4) rfl ?_
 refine g_sipush X0 hx i255 (H d12_5) rfl ?_
 refine g_icmpYes X0 hx 15 (H d12_8) (tlt hd1).2.2.1 (by decide) (by decide) ?_
 refine g_iconst X0 hx i0 (H d12_15) rfl ?_
 exact Go.ret (Q := Qm12_ft Z p1 h0 n0) X0 (v := some (.int i0)) (fun h => by rw [hret] at h; cases h) hlk (fun fs hr => retN X0 hx (t := .boolean) hret (by simp) (H d12_16) hr) e0 ⟨rfl, N0, rfl⟩ (by decide) (by decide)
def Qm12_ff (Z : State) (p1 : Int32) (h0 : Heap) (n0 : Nat) (v : Option Value) (h : Heap) (L : List Loc) : Prop := v = some (.int i1) ∧ Fr n0 L ∧ h = h0
theorem rm12_ff (l : Launch) (Z : State) (a0 : Array Value) (hw : Hw a0 Z) (p1 : Int32) (h0 : Heap) (n0 : Nat) (Z0 : n0 ≤ h0.size) (hd0 : ¬ (p1 < i0)) (hd1 : ¬ (i255 < p1)) :
  Met l Z h0 yy2 jdk_43_method_4_code 1 (some .boolean) (rmk 0 0 0 0) #[(.int p1)] (Qm12_ff Z p1 h0 n0) := by
 refine enter (plainFor_of_name pn_12) (fun m => ef_12 m p1) fun p e s m below meth c s₁ hx hby hml hown hnm hZ X0 e0 hret hlk => ?_
 have N0 := Fr.nil n0; have H := @hb c _ hby
 refine g_iloadN X0 hx (H d12_0) rfl ?_
 refine g_ifNo X0 hx (H d12_1) (flt hd0).1 ?_
 refine g_iloadN X0 hx (H d12_4) rfl ?_
 refine g_sipush X0 hx i255 (H d12_5) rfl ?_
 refine g_icmpNo X0 hx (H d12_8) (flt hd1).2.2.1 ?_
 refine g_iconst X0 hx i1 (H d12_11) rfl ?_
 refine g_goto X0 hx 16 (H d12_12) (by decide) (by decide) ?_
 exact Go.ret (Q := Qm12_ff Z p1 h0 n0) X0 (v := some (.int i1)) (fun h => by rw [hret] at h; cases h) hlk (fun fs hr => retN X0 hx (t := .boolean) hret (by simp) (H d12_16) hr) e0 ⟨rfl, N0, rfl⟩ (by decide) (by decide)
def Qm8_t (Z : State) (a1 : Addr) (w2 : Int32) (h0 : Heap) (n0 : Nat) (v : Option Value) (h : Heap) (L : List Loc) : Prop := v = some (.int i0) ∧ Fr n0 L ∧ h = h0
theorem rm8_t (l : Launch) (Z : State) (a0 : Array Value) (hw : Hw a0 Z) (a1 : Addr) (w2 : Int32) (h0 : Heap) (n0 : Nat) (Z0 : n0 ≤ h0.size) (S_COMPACT_STRINGS : Sta Z h0 s0_ s5_ "Z" (.int w2)) (hd0 : w2 = i0) :
  Met l Z h0 yy3 jdk_42_method_154_code 1 (some .boolean) (rmk 0 0 0 0) #[(.ref a1)] (Qm8_t Z a1 w2 h0 n0) := by
 refine enter (plainFor_of_name pn_8) (fun m => ef_8 m a1) fun p e s m below meth c s₁ hx hby hml hown hnm hZ X0 e0 hret hlk => ?_
 have N0 := Fr.nil n0; have H := @hb c _ hby
 refine g_getS X0 hx hZ hown (tw47 hw) e0 S_COMPACT_STRINGS (H d8_0) fun T3 X3 e3 => ?_
 refine g_ifYes X3 hx 17 (H d8_3) (teq hd0).1 (by decide) (by decide) ?_
 refine g_iconst X3 hx i0 (H d8_17) rfl ?_
 exact Go.ret (Q := Qm8_t Z a1 w2 h0 n0) X3 (v := some (.int i0)) (fun h => by rw [hret] at h; cases h) hlk (fun fs hr => retN X3 hx (t := .boolean) hret (by simp) (H d8_18) hr) e3 ⟨rfl, N0, rfl⟩ (by decide) (by decide)
def Qm8_ft (Z : State) (a1 : Addr) (w2 : Int32) (w4 : Int32) (h0 : Heap) (n0 : Nat) (v : Option Value) (h : Heap) (L : List Loc) : Prop := v = some (.int i1) ∧ Fr n0 L ∧ h = h0
theorem rm8_ft (l : Launch) (Z : State) (a0 : Array Value) (hw : Hw a0 Z) (a1 : Addr) (w2 : Int32) (w4 : Int32) (h0 : Heap) (n0 : Nat) (Z0 : n0 ≤ h0.size) (S_COMPACT_STRINGS : Sta Z h0 s0_ s5_ "Z" (.int w2)) (hd0 : ¬ (w2 = i0)) (F_coder_a1 : Fld Z h0 a1 s0_ "coder" "B" (.int w4)) (hd1 : w4 = i0) :
  Met l Z h0 yy3 jdk_42_method_154_code 1 (some .boolean) (rmk 0 0 0 0) #[(.ref a1)] (Qm8_ft Z a1 w2 w4 h0 n0) := by
 refine enter (plainFor_of_name pn_8) (fun m => ef_8 m a1) fun p e s m below meth c s₁ hx hby hml hown hnm hZ X0 e0 hret hlk => ?_
 have N0 := Fr.nil n0; have H := @hb c _ hby
 refine g_getS X0 hx hZ hown (tw47 hw) e0 S_COMPACT_STRINGS (H d8_0) fun T3 X3 e3 => ?_
 refine g_ifNo X3 hx (H d8_3) (feq hd0).1 ?_
 refine g_aloadN X3 hx (H d8_6) rfl rfl ?_
 refine g_getF X3 hx hZ hown (tw27 hw) Via.refl e3 F_coder_a1 (H d8_7) fun T5 X5 e5 => ?_
 refine g_ifNo X5 hx (H d8_10) (teq hd1).2 ?_
 refine g_iconst X5 hx i1 (H d8_13) rfl ?_
 refine g_goto X5 hx 18 (H d8_14) (by decide) (by decide) ?_
 exact Go.ret (Q := Qm8_ft Z a1 w2 w4 h0 n0) X5 (v := some (.int i1)) (fun h => by rw [hret] at h; cases h) hlk (fun fs hr => retN X5 hx (t := .boolean) hret (by simp) (H d8_18) hr) e5 ⟨rfl, N0, rfl⟩ (by decide) (by decide)
def Qm8_ff (Z : State) (a1 : Addr) (w2 : Int32) (w4 : Int32) (h0 : Heap) (n0 : Nat) (v : Option Value) (h : Heap) (L : List Loc) : Prop := v = some (.int i0) ∧ Fr n0 L ∧ h = h0
theorem rm8_ff (l : Launch) (Z : State) (a0 : Array Value) (hw : Hw a0 Z) (a1 : Addr) (w2 : Int32) (w4 : Int32) (h0 : Heap) (n0 : Nat) (Z0 : n0 ≤ h0.size) (S_COMPACT_STRINGS : Sta Z h0 s0_ s5_ "Z" (.int w2)) (hd0 : ¬ (w2 = i0)) (F_coder_a1 : Fld Z h0 a1 s0_ "coder" "B" (.int w4)) (hd1 : ¬ (w4 = i0)) :
  Met l Z h0 yy3 jdk_42_method_154_code 1 (some .boolean) (rmk 0 0 0 0) #[(.ref a1)] (Qm8_ff Z a1 w2 w4 h0 n0) := by
 refine enter (plainFor_of_name pn_8) (fun m => ef_8 m a1) fun p e s m below meth c s₁ hx hby hml hown hnm hZ X0 e0 hret hlk => ?_
 have N0 := Fr.nil n0; have H := @hb c _ hby
 refine g_getS X0 hx hZ hown (tw47 hw) e0 S_COMPACT_STRINGS (H d8_0) fun T3 X3 e3 => ?_
 refine g_ifNo X3 hx (H d8_3) (feq hd0).1 ?_
 refine g_aloadN X3 hx (H d8_6) rfl rfl ?_
 refine g_getF X3 hx hZ hown (tw27 hw) Via.refl e3 F_coder_a1 (H d8_7) fun T5 X5 e5 => ?_
 refine g_ifYes X5 hx 17 (H d8_10) (feq hd1).2 (by decide) (by decide) ?_
 refine g_iconst X5 hx i0 (H d8_17) rfl ?_
 exact Go.ret (Q := Qm8_ff Z a1 w2 w4 h0 n0) X5 (v := some (.int i0)) (fun h => by rw [hret] at h; cases h) hlk (fun fs hr => retN X5 hx (t := .boolean) hret (by simp) (H d8_18) hr) e5 ⟨rfl, N0, rfl⟩ (by decide) (by decide)
def Qm10_t (Z : State) (a1 : Addr) (w2 : Int32) (h0 : Heap) (n0 : Nat) (v : Option Value) (h : Heap) (L : List Loc) : Prop := v = some (.int i1) ∧ Fr n0 L ∧ h = h0
theorem rm10_t (l : Launch) (Z : State) (a0 : Array Value) (hw : Hw a0 Z) (a1 : Addr) (w2 : Int32) (h0 : Heap) (n0 : Nat) (Z0 : n0 ≤ h0.size) (S_COMPACT_STRINGS : Sta Z h0 s0_ s5_ "Z" (.int w2)) (hd0 : w2 = i0) :
  Met l Z h0 yy4 jdk_42_method_152_code 1 (some .byte) (rmk 0 0 0 0) #[(.ref a1)] (Qm10_t Z a1 w2 h0 n0) := by
 refine enter (plainFor_of_name pn_10) (fun m => ef_10 m a1) fun p e s m below meth c s₁ hx hby hml hown hnm hZ X0 e0 hret hlk => ?_
 have N0 := Fr.nil n0; have H := @hb c _ hby
 refine g_getS X0 hx hZ hown (tw47 hw) e0 S_COMPACT_STRINGS (H d10_0) fun T3 X3 e3 => ?_
 refine g_ifYes X3 hx 13 (H d10_3) (teq hd0).1 (by decide) (by decide) ?_
 refine g_iconst X3 hx i1 (H d10_13) rfl ?_
 exact Go.ret (Q := Qm10_t Z a1 w2 h0 n0) X3 (v := some (.int i1)) (fun h => by rw [hret] at h; cases h) hlk (fun fs hr => retN X3 hx (t := .byte) hret (by simp) (H d10_14) hr) e3 ⟨rfl, N0, rfl⟩ (by decide) (by decide)
def Qm10_f (Z : State) (a1 : Addr) (w2 : Int32) (w4 : Int32) (h0 : Heap) (n0 : Nat) (v : Option Value) (h : Heap) (L : List Loc) : Prop := v = some (.int (nar .byte w4)) ∧ Fr n0 L ∧ h = h0
theorem rm10_f (l : Launch) (Z : State) (a0 : Array Value) (hw : Hw a0 Z) (a1 : Addr) (w2 : Int32) (w4 : Int32) (h0 : Heap) (n0 : Nat) (Z0 : n0 ≤ h0.size) (S_COMPACT_STRINGS : Sta Z h0 s0_ s5_ "Z" (.int w2)) (hd0 : ¬ (w2 = i0)) (F_coder_a1 : Fld Z h0 a1 s0_ "coder" "B" (.int w4)) :
  Met l Z h0 yy4 jdk_42_method_152_code 1 (some .byte) (rmk 0 0 0 0) #[(.ref a1)] (Qm10_f Z a1 w2 w4 h0 n0) := by
 refine enter (plainFor_of_name pn_10) (fun m => ef_10 m a1) fun p e s m below meth c s₁ hx hby hml hown hnm hZ X0 e0 hret hlk => ?_
 have N0 := Fr.nil n0; have H := @hb c _ hby
 refine g_getS X0 hx hZ hown (tw47 hw) e0 S_COMPACT_STRINGS (H d10_0) fun T3 X3 e3 => ?_
 refine g_ifNo X3 hx (H d10_3) (feq hd0).1 ?_
 refine g_aloadN X3 hx (H d10_6) rfl rfl ?_
 refine g_getF X3 hx hZ hown (tw27 hw) Via.refl e3 F_coder_a1 (H d10_7) fun T5 X5 e5 => ?_
 refine g_goto X5 hx 14 (H d10_10) (by decide) (by decide) ?_
 exact Go.ret (Q := Qm10_f Z a1 w2 w4 h0 n0) X5 (v := some (.int (nar .byte w4))) (fun h => by rw [hret] at h; cases h) hlk (fun fs hr => retN X5 hx (t := .byte) hret (by simp) (H d10_14) hr) e5 ⟨rfl, N0, rfl⟩ (by decide) (by decide)
def Qm13z_o (Z : State)  (h0 : Heap) (n0 : Nat) (v : Option Value) (h : Heap) (L : List Loc) : Prop := v = some (.int i0) ∧ Fr n0 L ∧ h = h0
theorem rm13z_o (l : Launch) (Z : State) (a0 : Array Value) (hw : Hw a0 Z)  (h0 : Heap) (n0 : Nat) (Z0 : n0 ≤ h0.size) :
  Met l Z h0 yy5 jdk_29_method_65_code 2 (some .int) (rmk 0 0 0 0) #[(.int i0), (.int i0)] (Qm13z_o Z  h0 n0) := by
 refine enter (Jvm.Free.JP.mathPlain rfl (by decide +kernel)) (fun m => ef_13 m i0 i0) fun p e s m below meth c s₁ hx hby hml hown hnm hZ X0 e0 hret hlk => ?_
 have N0 := Fr.nil n0; have H := @hb c _ hby
 refine g_iloadN X0 hx (H d13_0) rfl ?_
 refine g_iloadN X0 hx (H d13_1) rfl ?_
 refine g_icmpNo X0 hx (H d13_2) (flt (by decide : ¬ (i0 < i0))).1 ?_
 refine g_iloadN X0 hx (H d13_5) rfl ?_
 refine g_goto X0 hx 10 (H d13_6) (by decide) (by decide) ?_
 exact Go.ret (Q := Qm13z_o Z  h0 n0) X0 (v := some (.int i0)) (fun h => by rw [hret] at h; cases h) hlk (fun fs hr => retOut X0 hx hret rfl (Or.inl ⟨rfl, Or.inl rfl, _, rfl⟩) (H d13_10) hr) e0 ⟨rfl, N0, rfl⟩ (by decide) (by decide)
def Qm140_o (Z : State)  (h0 : Heap) (n0 : Nat) (v : Option Value) (h : Heap) (L : List Loc) : Prop := v = some (.int i0) ∧ Fr n0 L ∧ h = h0
theorem rm140_o (l : Launch) (Z : State) (a0 : Array Value) (hw : Hw a0 Z)  (h0 : Heap) (n0 : Nat) (Z0 : n0 ≤ h0.size) :
  Met l Z h0 yy6 jdk_29_method_69_code 2 (some .int) (rmk 0 0 0 0) #[(.int i0), (.int i0)] (Qm140_o Z  h0 n0) := by
 refine enter (Jvm.Free.JP.mathPlain rfl (by decide +kernel)) (fun m => ef_14 m i0 i0) fun p e s m below meth c s₁ hx hby hml hown hnm hZ X0 e0 hret hlk => ?_
 have N0 := Fr.nil n0; have H := @hb c _ hby
 refine g_iloadN X0 hx (H d14_0) rfl ?_
 refine g_iloadN X0 hx (H d14_1) rfl ?_
 refine g_icmpNo X0 hx (H d14_2) (flt (by decide : ¬ (i0 < i0))).2.2.1 ?_
 refine g_iloadN X0 hx (H d14_5) rfl ?_
 refine g_goto X0 hx 10 (H d14_6) (by decide) (by decide) ?_
 exact Go.ret (Q := Qm140_o Z  h0 n0) X0 (v := some (.int i0)) (fun h => by rw [hret] at h; cases h) hlk (fun fs hr => retOut X0 hx hret rfl (Or.inl ⟨rfl, Or.inl rfl, _, rfl⟩) (H d14_10) hr) e0 ⟨rfl, N0, rfl⟩ (by decide) (by decide)
def Qm141_o (Z : State)  (h0 : Heap) (n0 : Nat) (v : Option Value) (h : Heap) (L : List Loc) : Prop := v = some (.int i1) ∧ Fr n0 L ∧ h = h0
theorem rm141_o (l : Launch) (Z : State) (a0 : Array Value) (hw : Hw a0 Z)  (h0 : Heap) (n0 : Nat) (Z0 : n0 ≤ h0.size) :
  Met l Z h0 yy6 jdk_29_method_69_code 2 (some .int) (rmk 0 0 0 0) #[(.int i1), (.int i1)] (Qm141_o Z  h0 n0) := by
 refine enter (Jvm.Free.JP.mathPlain rfl (by decide +kernel)) (fun m => ef_14 m i1 i1) fun p e s m below meth c s₁ hx hby hml hown hnm hZ X0 e0 hret hlk => ?_
 have N0 := Fr.nil n0; have H := @hb c _ hby
 refine g_iloadN X0 hx (H d14_0) rfl ?_
 refine g_iloadN X0 hx (H d14_1) rfl ?_
 refine g_icmpNo X0 hx (H d14_2) (flt (by decide : ¬ (i1 < i1))).2.2.1 ?_
 refine g_iloadN X0 hx (H d14_5) rfl ?_
 refine g_goto X0 hx 10 (H d14_6) (by decide) (by decide) ?_
 exact Go.ret (Q := Qm141_o Z  h0 n0) X0 (v := some (.int i1)) (fun h => by rw [hret] at h; cases h) hlk (fun fs hr => retOut X0 hx hret rfl (Or.inl ⟨rfl, Or.inl rfl, _, rfl⟩) (H d14_10) hr) e0 ⟨rfl, N0, rfl⟩ (by decide) (by decide)
def Qm142_o (Z : State)  (h0 : Heap) (n0 : Nat) (v : Option Value) (h : Heap) (L : List Loc) : Prop := v = some (.int i2) ∧ Fr n0 L ∧ h = h0
theorem rm142_o (l : Launch) (Z : State) (a0 : Array Value) (hw : Hw a0 Z)  (h0 : Heap) (n0 : Nat) (Z0 : n0 ≤ h0.size) :
  Met l Z h0 yy6 jdk_29_method_69_code 2 (some .int) (rmk 0 0 0 0) #[(.int i2), (.int i2)] (Qm142_o Z  h0 n0) := by
 refine enter (Jvm.Free.JP.mathPlain rfl (by decide +kernel)) (fun m => ef_14 m i2 i2) fun p e s m below meth c s₁ hx hby hml hown hnm hZ X0 e0 hret hlk => ?_
 have N0 := Fr.nil n0; have H := @hb c _ hby
 refine g_iloadN X0 hx (H d14_0) rfl ?_
 refine g_iloadN X0 hx (H d14_1) rfl ?_
 refine g_icmpNo X0 hx (H d14_2) (flt (by decide : ¬ (i2 < i2))).2.2.1 ?_
 refine g_iloadN X0 hx (H d14_5) rfl ?_
 refine g_goto X0 hx 10 (H d14_6) (by decide) (by decide) ?_
 exact Go.ret (Q := Qm142_o Z  h0 n0) X0 (v := some (.int i2)) (fun h => by rw [hret] at h; cases h) hlk (fun fs hr => retOut X0 hx hret rfl (Or.inl ⟨rfl, Or.inl rfl, _, rfl⟩) (H d14_10) hr) e0 ⟨rfl, N0, rfl⟩ (by decide) (by decide)
def Qm143_o (Z : State)  (h0 : Heap) (n0 : Nat) (v : Option Value) (h : Heap) (L : List Loc) : Prop := v = some (.int i3) ∧ Fr n0 L ∧ h = h0
theorem rm143_o (l : Launch) (Z : State) (a0 : Array Value) (hw : Hw a0 Z)  (h0 : Heap) (n0 : Nat) (Z0 : n0 ≤ h0.size) :
  Met l Z h0 yy6 jdk_29_method_69_code 2 (some .int) (rmk 0 0 0 0) #[(.int i3), (.int i3)] (Qm143_o Z  h0 n0) := by
 refine enter (Jvm.Free.JP.mathPlain rfl (by decide +kernel)) (fun m => ef_14 m i3 i3) fun p e s m below meth c s₁ hx hby hml hown hnm hZ X0 e0 hret hlk => ?_
 have N0 := Fr.nil n0; have H := @hb c _ hby
 refine g_iloadN X0 hx (H d14_0) rfl ?_
 refine g_iloadN X0 hx (H d14_1) rfl ?_
 refine g_icmpNo X0 hx (H d14_2) (flt (by decide : ¬ (i3 < i3))).2.2.1 ?_
 refine g_iloadN X0 hx (H d14_5) rfl ?_
 refine g_goto X0 hx 10 (H d14_6) (by decide) (by decide) ?_
 exact Go.ret (Q := Qm143_o Z  h0 n0) X0 (v := some (.int i3)) (fun h => by rw [hret] at h; cases h) hlk (fun fs hr => retOut X0 hx hret rfl (Or.inl ⟨rfl, Or.inl rfl, _, rfl⟩) (H d14_10) hr) e0 ⟨rfl, N0, rfl⟩ (by decide) (by decide)
def Qm144_o (Z : State)  (h0 : Heap) (n0 : Nat) (v : Option Value) (h : Heap) (L : List Loc) : Prop := v = some (.int i4) ∧ Fr n0 L ∧ h = h0
theorem rm144_o (l : Launch) (Z : State) (a0 : Array Value) (hw : Hw a0 Z)  (h0 : Heap) (n0 : Nat) (Z0 : n0 ≤ h0.size) :
  Met l Z h0 yy6 jdk_29_method_69_code 2 (some .int) (rmk 0 0 0 0) #[(.int i4), (.int i4)] (Qm144_o Z  h0 n0) := by
 refine enter (Jvm.Free.JP.mathPlain rfl (by decide +kernel)) (fun m => ef_14 m i4 i4) fun p e s m below meth c s₁ hx hby hml hown hnm hZ X0 e0 hret hlk => ?_
 have N0 := Fr.nil n0; have H := @hb c _ hby
 refine g_iloadN X0 hx (H d14_0) rfl ?_
 refine g_iloadN X0 hx (H d14_1) rfl ?_
 refine g_icmpNo X0 hx (H d14_2) (flt (by decide : ¬ (i4 < i4))).2.2.1 ?_
 refine g_iloadN X0 hx (H d14_5) rfl ?_
 refine g_goto X0 hx 10 (H d14_6) (by decide) (by decide) ?_
 exact Go.ret (Q := Qm144_o Z  h0 n0) X0 (v := some (.int i4)) (fun h => by rw [hret] at h; cases h) hlk (fun fs hr => retOut X0 hx hret rfl (Or.inl ⟨rfl, Or.inl rfl, _, rfl⟩) (H d14_10) hr) e0 ⟨rfl, N0, rfl⟩ (by decide) (by decide)
def Qm221_o (Z : State)  (h0 : Heap) (n0 : Nat) (v : Option Value) (h : Heap) (L : List Loc) : Prop := v = some (.int i2) ∧ Fr n0 L ∧ h = h0
theorem rm221_o (l : Launch) (Z : State) (a0 : Array Value) (hw : Hw a0 Z)  (h0 : Heap) (n0 : Nat) (Z0 : n0 ≤ h0.size) :
  Met l Z h0 yy7 jdk_52_method_3_code 1 (some .int) (rmk 0 0 0 0) #[(.int i1)] (Qm221_o Z  h0 n0) := by
 refine enter (plainFor_of_name pn_22) (fun m => ef_22 m i1) fun p e s m below meth c s₁ hx hby hml hown hnm hZ X0 e0 hret hlk => ?_
 have N0 := Fr.nil n0; have H := @hb c _ hby
 refine g_iloadN X0 hx (H d22_0) rfl ?_
 refine g_ifYes X0 hx 12 (H d22_1) (flt (by decide : ¬ (i1 < i0))).2.1 (by decide) (by decide) ?_
 refine g_iloadN X0 hx (H d22_12) rfl ?_
 refine Go.st (fun _ kk => X0.ldcInt hx hown (mvT hZ (tw97 hw)) (g := (mkF m 13 #[iv i1] [(.int i1)])) rfl (H d22_13) _ kk) ?_
 show Gs p e below _ s₁ m 15 #[iv i1] [(.int i1073741823), (.int i1)]
 refine g_icmpYes X0 hx 55 (H d22_15) (tlt (by decide : (i1 < i1073741823))).1 (by decide) (by decide) ?_
 refine g_iloadN X0 hx (H d22_55) rfl ?_
 refine g_iconst X0 hx i1 (H d22_56) rfl ?_
 refine g_ishl X0 hx (H d22_57) ?_
 rw [show (i1 <<< (i1 &&& 31)) = i2 from by decide]
 show Gs p e below _ s₁ m 58 #[iv i1] [(.int i2)]
 exact Go.ret (Q := Qm221_o Z  h0 n0) X0 (v := some (.int i2)) (fun h => by rw [hret] at h; cases h) hlk (fun fs hr => retOut X0 hx hret rfl (Or.inl ⟨rfl, Or.inl rfl, _, rfl⟩) (H d22_58) hr) e0 ⟨rfl, N0, rfl⟩ (by decide) (by decide)
def Qm211_o (Z : State)  (h0 : Heap) (n0 : Nat) (v : Option Value) (h : Heap) (L : List Loc) : Prop := ∃ (b2 : Addr) (k2 : ClassId), v = some (.ref b2) ∧ Fr n0 L ∧ Keep h0 h [] ∧ n0 ≤ b2 ∧ h0.size ≤ b2 ∧ Arv Z h b2 k2 .byte i2 [(.int i0), (.int i0)] (.int i0)
theorem rm211_o (l : Launch) (Z : State) (a0 : Array Value) (hw : Hw a0 Z)  (h0 : Heap) (n0 : Nat) (Z0 : n0 ≤ h0.size) :
  Met l Z h0 yy8 jdk_52_method_2_code 1 (some (.array .byte)) (rmk 1 1 2 12) #[(.int i1)] (Qm211_o Z  h0 n0) := by
 refine enter (plainFor_of_name pn_21) (fun m => ef_21 m i1) fun p e s m below meth c s₁ hx hby hml hown hnm hZ X0 e0 hret hlk => ?_
 have N0 := Fr.nil n0; have H := @hb c _ hby
 refine g_iloadN X0 hx (H d21_0) rfl ?_
 refine g_static X0 hx hZ (rm221_o l Z a0 hw  h0 n0 Z0 ) hown (tw94 hw) (tw95 hw) (tw74 hw) (tw96 hw) (by decide) 0 (by decide) (by decide) (by rw [hml]; rfl) [(.int i1)] [] (lenOf pd_0 rfl) (Nat.le_of_eq rfl) e0 (by decide) (by decide) rfl rfl (H d21_1) fun v1 T1 Lc1 X1 hQ1 => ?_
 obtain ⟨rfl, N1q, eq1⟩ := hQ1
 have N1 := Fr.app N0 N1q
 show Gs p e below _ T1 m 4 #[iv i1] [(.int i2)]
 refine g_newP X1 hx hZ (H d21_4) (tw21 hw) eq1 (by decide) 2 (by decide) (by decide) (by decide) (by decide) fun b2 T2 h2 k2 g2 X2 e2 E2 A2 => ?_
 have g_b2 : n0 ≤ b2 := Nat.le_trans Z0 (Nat.le_of_eq g2.symm)
 have sz_b2 : h0.size ≤ b2 := Nat.le_of_eq g2.symm
 have K2 : Keep h0 h2 [] := (Keep.refl h0 []).ext E2
 have V_b2 : Arv Z h2 b2 k2 .byte i2 [(.int i0), (.int i0)] (.int i0) := (Arv.new A2 (by decide)).pad (pad_rep [] (.int i0) 2)
 exact Go.ret (Q := Qm211_o Z  h0 n0) X2 (v := some (.ref b2)) (fun h => by rw [hret] at h; cases h) hlk (fun fs hr => retOut X2 hx hret rfl (Or.inr (Or.inr (Or.inr (Or.inr ⟨rfl, rfl, rfl⟩)))) (H d21_6) hr) e2 ⟨b2, k2, rfl, N1, K2, g_b2, sz_b2, V_b2⟩ (by decide) (by decide)
def Qm2310_o (Z : State) (a1 : Addr) (p2 : Int32) (y0 : Int32) (y1 : Int32) (kb : ClassId) (h0 : Heap) (n0 : Nat) (v : Option Value) (h : Heap) (L : List Loc) : Prop := v = none ∧ Fr n0 L ∧ Keep h0 h [a1] ∧ Arv Z h a1 kb .byte i2 [(.int (nar .byte ((p2 >>> (i0 &&& 31)).toInt8.toInt32))), (.int (nar .byte ((p2 >>> (i8 &&& 31)).toInt8.toInt32)))] (.int i0)
theorem rm2310_o (l : Launch) (Z : State) (a0 : Array Value) (hw : Hw a0 Z) (a1 : Addr) (p2 : Int32) (y0 : Int32) (y1 : Int32) (kb : ClassId) (h0 : Heap) (n0 : Nat) (Z0 : n0 ≤ h0.size) (V_a1 : Arv Z h0 a1 kb .byte i2 [(.int y0), (.int y1)] (.int i0)) (S__assertionsDisabled : Sta Z h0 s1_ s2_ "Z" (.int i1)) (S_HI_BYTE_SHIFT : Sta Z h0 s1_ s3_ "I" (.int i0)) (S_LO_BYTE_SHIFT : Sta Z h0 s1_ s4_ "I" (.int i8)) (g_a1 : n0 ≤ a1) :
  Met l Z h0 yy9 jdk_52_method_4_code 3 none (rmk 0 0 0 0) #[(.ref a1), (.int i0), (.int p2)] (Qm2310_o Z a1 p2 y0 y1 kb h0 n0) := by
 refine enter (plainFor_of_name pn_23) (fun m => ef_23 m a1 i0 p2) fun p e s m below meth c s₁ hx hby hml hown hnm hZ X0 e0 hret hlk => ?_
 have N0 := Fr.nil n0; have H := @hb c _ hby
 refine g_getS X0 hx hZ hown (tw101 hw) e0 S__assertionsDisabled (H d23_0) fun T3 X3 e3 => ?_
 refine g_ifYes X3 hx 28 (H d23_3) (feq (by decide : ¬ (i1 = i0))).2 (by decide) (by decide) ?_
 refine g_iloadN X3 hx (H d23_28) rfl ?_
 refine g_iconst X3 hx i1 (H d23_29) rfl ?_
 refine g_ishl X3 hx (H d23_30) ?_
 rw [show (i0 <<< (i1 &&& 31)) = i0 from by decide]
 show Gs p e below _ T3 m 31 #[rv a1, iv i0, iv p2] [(.int i0)]
 refine g_istoreN X3 hx (H d23_31) (l' := #[rv a1, iv i0, iv p2]) rfl ?_
 refine g_aloadN X3 hx (H d23_32) rfl rfl ?_
 refine g_iloadN X3 hx (H d23_33) rfl ?_
 refine g_iinc X3 hx (H d23_34) rfl (l' := #[rv a1, iv i1, iv p2]) rfl ?_
 refine g_iloadN X3 hx (H d23_37) rfl ?_
 refine g_getS X3 hx hZ hown (tw102 hw) e3 S_HI_BYTE_SHIFT (H d23_38) fun T4 X4 e4 => ?_
 refine g_ishr X4 hx (H d23_41) ?_
 refine g_i2b X4 hx (H d23_42) ?_
 obtain ⟨clq5, Arq5, caq5, saq5, naq5, haq5, gaq5⟩ := id V_a1
 have inq5 : ¬ (i0 < 0 ∨ clq5.slots.size ≤ (i0).toNatClampNeg) := inb_of saq5 ⟨by decide, by decide⟩
 refine g_stB X4 hx hZ e4 Arq5 inq5 (H d23_43) fun T6 h6 X6 e6 W6 => ?_
 have K6 : Keep h0 h6 [a1] := (Keep.refl h0 [a1]).wr W6 (Or.inl (List.mem_of_getElem? (i := 0) rfl))
 have V6 : Arv Z h6 a1 kb .byte i2 [(.int (nar .byte ((p2 >>> (i0 &&& 31)).toInt8.toInt32))), (.int y1)] (.int i0) := Arv.set Arq5 caq5 saq5 naq5 haq5 gaq5 (fits_nar_byte _) W6 0 rfl (Nat.le_of_ble_eq_true rfl)
 have N6 := Fr.snoc X6 N0 g_a1
 refine g_aloadN X6 hx (H d23_44) rfl rfl ?_
 refine g_iloadN X6 hx (H d23_45) rfl ?_
 refine g_iloadN X6 hx (H d23_46) rfl ?_
 have f_7 := (staKeepA S_LO_BYTE_SHIFT K6 (Arv.arn V_a1))
 refine g_getS X6 hx hZ hown (tw103 hw) e6 f_7 (H d23_47) fun T8 X8 e8 => ?_
 refine g_ishr X8 hx (H d23_50) ?_
 refine g_i2b X8 hx (H d23_51) ?_
 obtain ⟨clq9, Arq9, caq9, saq9, naq9, haq9, gaq9⟩ := id V6
 have inq9 : ¬ (i1 < 0 ∨ clq9.slots.size ≤ (i1).toNatClampNeg) := inb_of saq9 ⟨by decide, by decide⟩
 refine g_stB X8 hx hZ e8 Arq9 inq9 (H d23_52) fun T10 h10 X10 e10 W10 => ?_
 have K10 : Keep h0 h10 [a1] := K6.wr W10 (Or.inl (List.mem_of_getElem? (i := 0) rfl))
 have V10 : Arv Z h10 a1 kb .byte i2 [(.int (nar .byte ((p2 >>> (i0 &&& 31)).toInt8.toInt32))), (.int (nar .byte ((p2 >>> (i8 &&& 31)).toInt8.toInt32)))] (.int i0) := Arv.set Arq9 caq9 saq9 naq9 haq9 gaq9 (fits_nar_byte _) W10 1 rfl (Nat.le_of_ble_eq_true rfl)
 have N10 := Fr.snoc X10 N6 g_a1
 exact Go.ret (Q := Qm2310_o Z a1 p2 y0 y1 kb h0 n0) X10 (v := none) (fun _ => rfl) hlk (fun fs hr => X10.returnOut hx hret (H d23_53) hr) e10 ⟨rfl, N10, K10, V10⟩ (by decide) (by decide)
def Qm2410_o (Z : State) (a1 : Addr) (y0 : Int32) (y1 : Int32) (kb : ClassId) (h0 : Heap) (n0 : Nat) (v : Option Value) (h : Heap) (L : List Loc) : Prop := v = some (.int (nar .char ((((y0 &&& i255) <<< (i0 &&& 31)) ||| ((y1 &&& i255) <<< (i8 &&& 31))).toUInt32.toUInt16.toUInt32.toInt32))) ∧ Fr n0 L ∧ h = h0
theorem rm2410_o (l : Launch) (Z : State) (a0 : Array Value) (hw : Hw a0 Z) (a1 : Addr) (y0 : Int32) (y1 : Int32) (kb : ClassId) (h0 : Heap) (n0 : Nat) (Z0 : n0 ≤ h0.size) (V_a1 : Arv Z h0 a1 kb .byte i2 [(.int y0), (.int y1)] (.int i0)) (S__assertionsDisabled : Sta Z h0 s1_ s2_ "Z" (.int i1)) (S_HI_BYTE_SHIFT : Sta Z h0 s1_ s3_ "I" (.int i0)) (S_LO_BYTE_SHIFT : Sta Z h0 s1_ s4_ "I" (.int i8)) :
  Met l Z h0 yy10 jdk_52_method_5_code 2 (some .char) (rmk 0 0 0 0) #[(.ref a1), (.int i0)] (Qm2410_o Z a1 y0 y1 kb h0 n0) := by
 refine enter (plainFor_of_name pn_24) (fun m => ef_24 m a1 i0) fun p e s m below meth c s₁ hx hby hml hown hnm hZ X0 e0 hret hlk => ?_
 have N0 := Fr.nil n0; have H := @hb c _ hby
 refine g_getS X0 hx hZ hown (tw101 hw) e0 S__assertionsDisabled (H d24_0) fun T2 X2 e2 => ?_
 refine g_ifYes X2 hx 28 (H d24_3) (feq (by decide : ¬ (i1 = i0))).2 (by decide) (by decide) ?_
 refine g_iloadN X2 hx (H d24_28) rfl ?_
 refine g_iconst X2 hx i1 (H d24_29) rfl ?_
 refine g_ishl X2 hx (H d24_30) ?_
 rw [show (i0 <<< (i1 &&& 31)) = i0 from by decide]
 show Gs p e below _ T2 m 31 #[rv a1, iv i0] [(.int i0)]
 refine g_istoreN X2 hx (H d24_31) (l' := #[rv a1, iv i0]) rfl ?_
 refine g_aloadN X2 hx (H d24_32) rfl rfl ?_
 refine g_iloadN X2 hx (H d24_33) rfl ?_
 refine g_iinc X2 hx (H d24_34) rfl (l' := #[rv a1, iv i1]) rfl ?_
 obtain ⟨clq3, Arq3, caq3, saq3, naq3, haq3, gaq3⟩ := id V_a1
 have inq3 : ¬ (i0 < 0 ∨ clq3.slots.size ≤ (i0).toNatClampNeg) := inb_of saq3 ⟨by decide, by decide⟩
 have atq3 : clq3.slots[(i0).toNatClampNeg]? = some (.int y0) := haq3.at inq3 rfl
 refine g_baload X2 hx hZ e2 Arq3 inq3 atq3 (H d24_37) ?_
 refine g_sipush X2 hx i255 (H d24_38) rfl ?_
 refine g_iand X2 hx (H d24_41) ?_
 refine g_getS X2 hx hZ hown (tw102 hw) e2 S_HI_BYTE_SHIFT (H d24_42) fun T4 X4 e4 => ?_
 refine g_ishl X4 hx (H d24_45) ?_
 refine g_aloadN X4 hx (H d24_46) rfl rfl ?_
 refine g_iloadN X4 hx (H d24_47) rfl ?_
 obtain ⟨clq5, Arq5, caq5, saq5, naq5, haq5, gaq5⟩ := id V_a1
 have inq5 : ¬ (i1 < 0 ∨ clq5.slots.size ≤ (i1).toNatClampNeg) := inb_of saq5 ⟨by decide, by decide⟩
 have atq5 : clq5.slots[(i1).toNatClampNeg]? = some (.int y1) := haq5.at inq5 rfl
 refine g_baload X4 hx hZ e4 Arq5 inq5 atq5 (H d24_48) ?_
 refine g_sipush X4 hx i255 (H d24_49) rfl ?_
 refine g_iand X4 hx (H d24_52) ?_
 refine g_getS X4 hx hZ hown (tw103 hw) e4 S_LO_BYTE_SHIFT (H d24_53) fun T6 X6 e6 => ?_
 refine g_ishl X6 hx (H d24_56) ?_
 refine g_ior X6 hx (H d24_57) ?_
 refine g_i2c X6 hx (H d24_58) ?_
 exact Go.ret (Q := Qm2410_o Z a1 y0 y1 kb h0 n0) X6 (v := some (.int (nar .char ((((y0 &&& i255) <<< (i0 &&& 31)) ||| ((y1 &&& i255) <<< (i8 &&& 31))).toUInt32.toUInt16.toUInt32.toInt32)))) (fun h => by rw [hret] at h; cases h) hlk (fun fs hr => retN X6 hx (t := .char) hret (by simp) (H d24_59) hr) e6 ⟨rfl, N0, rfl⟩ (by decide) (by decide)
def Qm201_o (Z : State) (a1 : Addr) (v0 : Int32) (kc : ClassId) (h0 : Heap) (n0 : Nat) (v : Option Value) (h : Heap) (L : List Loc) : Prop := ∃ (b2_2 : Addr) (k2_2 : ClassId), v = some (.ref b2_2) ∧ Fr n0 L ∧ Keep h0 h [] ∧ n0 ≤ b2_2 ∧ h0.size ≤ b2_2 ∧ Arv Z h b2_2 k2_2 .byte i2 [(.int (nar .byte ((v0 >>> (i0 &&& 31)).toInt8.toInt32))), (.int (nar .byte ((v0 >>> (i8 &&& 31)).toInt8.toInt32)))] (.int i0)
theorem rm201_o (l : Launch) (Z : State) (a0 : Array Value) (hw : Hw a0 Z) (a1 : Addr) (v0 : Int32) (kc : ClassId) (h0 : Heap) (n0 : Nat) (Z0 : n0 ≤ h0.size) (V_a1 : Arv Z h0 a1 kc .char i1 [(.int v0)] (.int i0)) (hb0 : 0 ≤ v0.toInt ∧ v0.toInt ≤ 65535) (S__assertionsDisabled : Sta Z h0 s1_ s2_ "Z" (.int i1)) (S_HI_BYTE_SHIFT : Sta Z h0 s1_ s3_ "I" (.int i0)) (S_LO_BYTE_SHIFT : Sta Z h0 s1_ s4_ "I" (.int i8)) :
  Met l Z h0 yy11 jdk_52_method_14_code 5 (some (.array .byte)) (rmk 2 1 2 24) #[(.ref a1), (.int i0), (.int i1)] (Qm201_o Z a1 v0 kc h0 n0) := by
 refine enter (plainFor_of_name pn_20) (fun m => ef_20 m a1 i0 i1) fun p e s m below meth c s₁ hx hby hml hown hnm hZ X0 e0 hret hlk => ?_
 have N0 := Fr.nil n0; have H := @hb c _ hby
 refine g_iloadN X0 hx (H d20_0) rfl ?_
 refine g_static X0 hx hZ (rm211_o l Z a0 hw  h0 n0 Z0 ) hown (tw91 hw) (tw92 hw) (tw74 hw) (tw93 hw) (by decide) 0 (by decide) (by decide) (by rw [hml]; rfl) [(.int i1)] [] (lenOf pd_1 rfl) (Nat.le_of_eq rfl) e0 (by decide) (by decide) rfl rfl (H d20_1) fun v2 T2 Lc2 X2 hQ2 => ?_
 obtain ⟨b2_2, k2_2, rfl, N2q, Kc2, P2_0, P2_1, P2_2⟩ := hQ2
 have K2 : Keep h0 T2.heap [] := (Keep.refl h0 []).trans Kc2 all0
 have g_b2_2 := P2_0
 have sz_b2_2 : h0.size ≤ b2_2 := P2_1
 have N2 := Fr.app N0 N2q
 show Gs p e below _ T2 m 4 #[rv a1, iv i0, iv i1, .unset, .unset] [(.ref b2_2)]
 refine g_astoreN X2 hx (H d20_4) rfl (l' := #[rv a1, iv i0, iv i1, rv b2_2, .unset]) rfl ?_
 refine g_iconst X2 hx i0 (H d20_5) rfl ?_
 refine g_istore X2 hx (H d20_6) (l' := #[rv a1, iv i0, iv i1, rv b2_2, iv i0]) rfl ?_
 refine g_iload X2 hx (H d20_8) rfl ?_
 refine g_iloadN X2 hx (H d20_10) rfl ?_
 refine g_icmpNo X2 hx (H d20_11) (tlt (by decide : (i0 < i1))).2.1 ?_
 refine g_aloadN X2 hx (H d20_14) rfl rfl ?_
 refine g_iload X2 hx (H d20_15) rfl ?_
 refine g_aloadN X2 hx (H d20_17) rfl rfl ?_
 refine g_iloadN X2 hx (H d20_18) rfl ?_
 have f_3 := (V_a1.keep K2 nin0)
 obtain ⟨clq4, Arq4, caq4, saq4, naq4, haq4, gaq4⟩ := id f_3
 have inq4 : ¬ (i0 < 0 ∨ clq4.slots.size ≤ (i0).toNatClampNeg) := inb_of saq4 ⟨by decide, by decide⟩
 have atq4 : clq4.slots[(i0).toNatClampNeg]? = some (.int v0) := haq4.at inq4 rfl
 refine g_caload X2 hx hZ rfl Arq4 inq4 atq4 (H d20_19) ?_
 have f_5 := (staKeep0 S__assertionsDisabled K2)
 have f_6 := (staKeep0 S_HI_BYTE_SHIFT K2)
 have f_7 := (staKeep0 S_LO_BYTE_SHIFT K2)
 refine g_static X2 hx hZ (rm2310_o l Z a0 hw b2_2 v0 i0 i0 k2_2 T2.heap n0 (Nat.le_trans Z0 K2.1) P2_2 f_5 f_6 f_7 g_b2_2) hown (tw98 hw) (tw99 hw) (tw74 hw) (tw100 hw) (by decide) 0 (by decide) (by decide) (by rw [hml]; rfl) [(.ref b2_2), (.int i0), (.int v0)] [] (lenOf pd_2 rfl) (Nat.le_of_eq rfl) rfl (by decide) (by decide) rfl rfl (H d20_20) fun v8 T8 Lc8 X8 hQ8 => ?_
 obtain ⟨rfl, N8q, Kc8, P8_0⟩ := hQ8
 have K8 : Keep h0 T8.heap [] := K2.trans Kc8 (allS (Or.inr sz_b2_2) all0)
 have N8 := Fr.app N2 N8q
 show Gs p e below _ T8 m 23 #[rv a1, iv i0, iv i1, rv b2_2, iv i0] []
 refine g_iinc X8 hx (H d20_23) rfl (l' := #[rv a1, iv i1, iv i1, rv b2_2, iv i0]) rfl ?_
 refine g_iinc X8 hx (H d20_26) rfl (l' := #[rv a1, iv i1, iv i1, rv b2_2, iv i1]) rfl ?_
 refine g_goto X8 hx 8 (H d20_29) (by decide) (by decide) ?_
 refine g_iload X8 hx (H d20_8) rfl ?_
 refine g_iloadN X8 hx (H d20_10) rfl ?_
 refine g_icmpYes X8 hx 32 (H d20_11) (flt (by decide : ¬ (i1 < i1))).2.1 (by decide) (by decide) ?_
 refine g_aloadN X8 hx (H d20_32) rfl rfl ?_
 exact Go.ret (Q := Qm201_o Z a1 v0 kc h0 n0) X8 (v := some (.ref b2_2)) (fun h => by rw [hret] at h; cases h) hlk (fun fs hr => retOut X8 hx hret rfl (Or.inr (Or.inr (Or.inr (Or.inr ⟨rfl, rfl, rfl⟩)))) (H d20_33) hr) rfl ⟨b2_2, k2_2, rfl, N8, K8, g_b2_2, sz_b2_2, P8_0⟩ (by decide) (by decide)
def Qm161_t (Z : State) (a1 : Addr) (a2 : Addr) (v0 : Int32) (kc : ClassId) (kb : ClassId) (h0 : Heap) (n0 : Nat) (v : Option Value) (h : Heap) (L : List Loc) : Prop := v = some (.int i0) ∧ Fr n0 L ∧ h = h0
theorem rm161_t (l : Launch) (Z : State) (a0 : Array Value) (hw : Hw a0 Z) (a1 : Addr) (a2 : Addr) (v0 : Int32) (kc : ClassId) (kb : ClassId) (h0 : Heap) (n0 : Nat) (Z0 : n0 ≤ h0.size) (V_a1 : Arv Z h0 a1 kc .char i1 [(.int v0)] (.int i0)) (hb0 : 0 ≤ v0.toInt ∧ v0.toInt ≤ 65535) (V_a2 : Arv Z h0 a2 kb .byte i1 [(.int i0)] (.int i0)) (g_a2 : n0 ≤ a2) (hne_a1_a2 : ¬ (a1 = a2)) (hd1 : i255 < v0) :
  Met l Z h0 yy12 jdk_52_method_21_code 7 (some .int) (rmk 0 0 0 0) #[(.ref a1), (.int i0), (.ref a2), (.int i0), (.int i1)] (Qm161_t Z a1 a2 v0 kc kb h0 n0) := by
 refine enter (plainFor_of_name pn_16) (fun m => ef_16 m a1 i0 a2 i0 i1) fun p e s m below meth c s₁ hx hby hml hown hnm hZ X0 e0 hret hlk => ?_
 have N0 := Fr.nil n0; have H := @hb c _ hby
 refine g_iconst X0 hx i0 (H d16_0) rfl ?_
 refine g_istore X0 hx (H d16_1) (l' := #[rv a1, iv i0, rv a2, iv i0, iv i1, iv i0, .unset]) rfl ?_
 refine g_iload X0 hx (H d16_3) rfl ?_
 refine g_iload X0 hx (H d16_5) rfl ?_
 refine g_icmpNo X0 hx (H d16_7) (tlt (by decide : (i0 < i1))).2.1 ?_
 refine g_aloadN X0 hx (H d16_10) rfl rfl ?_
 refine g_iloadN X0 hx (H d16_11) rfl ?_
 obtain ⟨clq3, Arq3, caq3, saq3, naq3, haq3, gaq3⟩ := id V_a1
 have inq3 : ¬ (i0 < 0 ∨ clq3.slots.size ≤ (i0).toNatClampNeg) := inb_of saq3 ⟨by decide, by decide⟩
 have atq3 : clq3.slots[(i0).toNatClampNeg]? = some (.int v0) := haq3.at inq3 rfl
 refine g_caload X0 hx hZ e0 Arq3 inq3 atq3 (H d16_12) ?_
 refine g_istore X0 hx (H d16_13) (l' := #[rv a1, iv i0, rv a2, iv i0, iv i1, iv i0, iv v0]) rfl ?_
 refine g_iload X0 hx (H d16_15) rfl ?_
 refine g_sipush X0 hx i255 (H d16_17) rfl ?_
 refine g_icmpNo X0 hx (H d16_20) (tlt hd1).2.2.2 ?_
 refine g_iload X0 hx (H d16_23) rfl ?_
 exact Go.ret (Q := Qm161_t Z a1 a2 v0 kc kb h0 n0) X0 (v := some (.int i0)) (fun h => by rw [hret] at h; cases h) hlk (fun fs hr => retOut X0 hx hret rfl (Or.inl ⟨rfl, Or.inl rfl, _, rfl⟩) (H d16_25) hr) e0 ⟨rfl, N0, rfl⟩ (by decide) (by decide)
def Qm161_f (Z : State) (a1 : Addr) (a2 : Addr) (v0 : Int32) (kc : ClassId) (kb : ClassId) (h0 : Heap) (n0 : Nat) (v : Option Value) (h : Heap) (L : List Loc) : Prop := v = some (.int i1) ∧ Fr n0 L ∧ Keep h0 h [a2] ∧ Arv Z h a2 kb .byte i1 [(.int (nar .byte (v0.toInt8.toInt32)))] (.int i0)
theorem rm161_f (l : Launch) (Z : State) (a0 : Array Value) (hw : Hw a0 Z) (a1 : Addr) (a2 : Addr) (v0 : Int32) (kc : ClassId) (kb : ClassId) (h0 : Heap) (n0 : Nat) (Z0 : n0 ≤ h0.size) (V_a1 : Arv Z h0 a1 kc .char i1 [(.int v0)] (.int i0)) (hb0 : 0 ≤ v0.toInt ∧ v0.toInt ≤ 65535) (V_a2 : Arv Z h0 a2 kb .byte i1 [(.int i0)] (.int i0)) (g_a2 : n0 ≤ a2) (hne_a1_a2 : ¬ (a1 = a2)) (hd1 : ¬ (i255 < v0)) :
  Met l Z h0 yy12 jdk_52_method_21_code 7 (some .int) (rmk 0 0 0 0) #[(.ref a1), (.int i0), (.ref a2), (.int i0), (.int i1)] (Qm161_f Z a1 a2 v0 kc kb h0 n0) := by
 refine enter (plainFor_of_name pn_16) (fun m => ef_16 m a1 i0 a2 i0 i1) fun p e s m below meth c s₁ hx hby hml hown hnm hZ X0 e0 hret hlk => ?_
 have N0 := Fr.nil n0; have H := @hb c _ hby
 refine g_iconst X0 hx i0 (H d16_0) rfl ?_
 refine g_istore X0 hx (H d16_1) (l' := #[rv a1, iv i0, rv a2, iv i0, iv i1, iv i0, .unset]) rfl ?_
 refine g_iload X0 hx (H d16_3) rfl ?_
 refine g_iload X0 hx (H d16_5) rfl ?_
 refine g_icmpNo X0 hx (H d16_7) (tlt (by decide : (i0 < i1))).2.1 ?_
 refine g_aloadN X0 hx (H d16_10) rfl rfl ?_
 refine g_iloadN X0 hx (H d16_11) rfl ?_
 obtain ⟨clq3, Arq3, caq3, saq3, naq3, haq3, gaq3⟩ := id V_a1
 have inq3 : ¬ (i0 < 0 ∨ clq3.slots.size ≤ (i0).toNatClampNeg) := inb_of saq3 ⟨by decide, by decide⟩
 have atq3 : clq3.slots[(i0).toNatClampNeg]? = some (.int v0) := haq3.at inq3 rfl
 refine g_caload X0 hx hZ e0 Arq3 inq3 atq3 (H d16_12) ?_
 refine g_istore X0 hx (H d16_13) (l' := #[rv a1, iv i0, rv a2, iv i0, iv i1, iv i0, iv v0]) rfl ?_
 refine g_iload X0 hx (H d16_15) rfl ?_
 refine g_sipush X0 hx i255 (H d16_17) rfl ?_
 refine g_icmpYes X0 hx 26 (H d16_20) (flt hd1).2.2.2 (by decide) (by decide) ?_
 refine g_aloadN X0 hx (H d16_26) rfl rfl ?_
 refine g_iloadN X0 hx (H d16_27) rfl ?_
 refine g_iload X0 hx (H d16_28) rfl ?_
 refine g_i2b X0 hx (H d16_30) ?_
 obtain ⟨clq4, Arq4, caq4, saq4, naq4, haq4, gaq4⟩ := id V_a2
 have inq4 : ¬ (i0 < 0 ∨ clq4.slots.size ≤ (i0).toNatClampNeg) := inb_of saq4 ⟨by decide, by decide⟩
 refine g_stB X0 hx hZ e0 Arq4 inq4 (H d16_31) fun T5 h5 X5 e5 W5 => ?_
 have K5 : Keep h0 h5 [a2] := (Keep.refl h0 [a2]).wr W5 (Or.inl (List.mem_of_getElem? (i := 0) rfl))
 have V5 : Arv Z h5 a2 kb .byte i1 [(.int (nar .byte (v0.toInt8.toInt32)))] (.int i0) := Arv.set Arq4 caq4 saq4 naq4 haq4 gaq4 (fits_nar_byte _) W5 0 rfl (Nat.le_of_ble_eq_true rfl)
 have N5 := Fr.snoc X5 N0 g_a2
 refine g_iinc X5 hx (H d16_32) rfl (l' := #[rv a1, iv i1, rv a2, iv i0, iv i1, iv i0, iv v0]) rfl ?_
 refine g_iinc X5 hx (H d16_35) rfl (l' := #[rv a1, iv i1, rv a2, iv i1, iv i1, iv i0, iv v0]) rfl ?_
 refine g_iinc X5 hx (H d16_38) rfl (l' := #[rv a1, iv i1, rv a2, iv i1, iv i1, iv i1, iv v0]) rfl ?_
 refine g_goto X5 hx 3 (H d16_41) (by decide) (by decide) ?_
 refine g_iload X5 hx (H d16_3) rfl ?_
 refine g_iload X5 hx (H d16_5) rfl ?_
 refine g_icmpYes X5 hx 44 (H d16_7) (flt (by decide : ¬ (i1 < i1))).2.1 (by decide) (by decide) ?_
 refine g_iload X5 hx (H d16_44) rfl ?_
 exact Go.ret (Q := Qm161_f Z a1 a2 v0 kc kb h0 n0) X5 (v := some (.int i1)) (fun h => by rw [hret] at h; cases h) hlk (fun fs hr => retOut X5 hx hret rfl (Or.inl ⟨rfl, Or.inl rfl, _, rfl⟩) (H d16_46) hr) e5 ⟨rfl, N5, K5, V5⟩ (by decide) (by decide)
def Qm151_t (Z : State) (a1 : Addr) (v0 : Int32) (kc : ClassId) (h0 : Heap) (n0 : Nat) (v : Option Value) (h : Heap) (L : List Loc) : Prop := ∃ (b2_2_8 : Addr) (k2_2_8 : ClassId), v = some (.ref b2_2_8) ∧ Fr n0 L ∧ Keep h0 h [] ∧ n0 ≤ b2_2_8 ∧ h0.size ≤ b2_2_8 ∧ Arv Z h b2_2_8 k2_2_8 .byte i2 [(.int (nar .byte ((v0 >>> (i0 &&& 31)).toInt8.toInt32))), (.int (nar .byte ((v0 >>> (i8 &&& 31)).toInt8.toInt32)))] (.int i0)
theorem rm151_t (l : Launch) (Z : State) (a0 : Array Value) (hw : Hw a0 Z) (a1 : Addr) (v0 : Int32) (kc : ClassId) (h0 : Heap) (n0 : Nat) (Z0 : n0 ≤ h0.size) (V_a1 : Arv Z h0 a1 kc .char i1 [(.int v0)] (.int i0)) (hb0 : 0 ≤ v0.toInt ∧ v0.toInt ≤ 65535) (S__assertionsDisabled : Sta Z h0 s1_ s2_ "Z" (.int i1)) (S_HI_BYTE_SHIFT : Sta Z h0 s1_ s3_ "I" (.int i0)) (S_LO_BYTE_SHIFT : Sta Z h0 s1_ s4_ "I" (.int i8)) (hd0 : i255 < v0) :
  Met l Z h0 yy13 jdk_52_method_16_code 6 (some (.array .byte)) (rmk 3 2 3 40) #[(.ref a1), (.int i0), (.int i1)] (Qm151_t Z a1 v0 kc h0 n0) := by
 refine enter (plainFor_of_name pn_15) (fun m => ef_15 m a1 i0 i1) fun p e s m below meth c s₁ hx hby hml hown hnm hZ X0 e0 hret hlk => ?_
 have N0 := Fr.nil n0; have H := @hb c _ hby
 refine g_iloadN X0 hx (H d15_0) rfl ?_
 refine g_newP X0 hx hZ (H d15_1) (tw21 hw) e0 (by decide) 1 (by decide) (by decide) (by decide) (by decide) fun b2 T2 h2 k2 g2 X2 e2 E2 A2 => ?_
 have g_b2 : n0 ≤ b2 := Nat.le_trans Z0 (Nat.le_of_eq g2.symm)
 have sz_b2 : h0.size ≤ b2 := Nat.le_of_eq g2.symm
 have K2 : Keep h0 h2 [] := (Keep.refl h0 []).ext E2
 have V_b2 : Arv Z h2 b2 k2 .byte i1 [(.int i0)] (.int i0) := (Arv.new A2 (by decide)).pad (pad_rep [] (.int i0) 1)
 refine g_astoreN X2 hx (H d15_3) rfl (l' := #[rv a1, iv i0, iv i1, rv b2, .unset, .unset]) rfl ?_
 refine g_aloadN X2 hx (H d15_4) rfl rfl ?_
 refine g_iloadN X2 hx (H d15_5) rfl ?_
 refine g_aloadN X2 hx (H d15_6) rfl rfl ?_
 refine g_iconst X2 hx i0 (H d15_7) rfl ?_
 refine g_iloadN X2 hx (H d15_8) rfl ?_
 have f_3 := (V_a1.keep K2 nin0)
 refine g_static X2 hx hZ (rm161_t l Z a0 hw a1 b2 v0 kc k2 h2 n0 (Nat.le_trans Z0 K2.1) f_3 hb0 V_b2 g_b2 (Nat.ne_of_lt (Nat.lt_of_lt_of_le V_a1.lt sz_b2)) hd0) hown (tw76 hw) (tw77 hw) (tw74 hw) (tw78 hw) (by decide) 0 (by decide) (by decide) (by rw [hml]; rfl) [(.ref a1), (.int i0), (.ref b2), (.int i0), (.int i1)] [] (lenOf pd_3 rfl) (Nat.le_of_eq rfl) e2 (by decide) (by decide) rfl rfl (H d15_9) fun v4 T4 Lc4 X4 hQ4 => ?_
 obtain ⟨rfl, N4q, eq4⟩ := hQ4
 have N4 := Fr.app N0 N4q
 show Gs p e below _ T4 m 12 #[rv a1, iv i0, iv i1, rv b2, .unset, .unset] [(.int i0)]
 refine g_istore X4 hx (H d15_12) (l' := #[rv a1, iv i0, iv i1, rv b2, iv i0, .unset]) rfl ?_
 refine g_iload X4 hx (H d15_14) rfl ?_
 refine g_iloadN X4 hx (H d15_16) rfl ?_
 refine g_icmpNo X4 hx (H d15_17) (feq (by decide : ¬ (i0 = i1))).1 ?_
 refine g_aloadN X4 hx (H d15_20) rfl rfl ?_
 refine g_iloadN X4 hx (H d15_21) rfl ?_
 refine g_iloadN X4 hx (H d15_22) rfl ?_
 have f_5 := (staKeep0 S__assertionsDisabled K2)
 have f_6 := (staKeep0 S_HI_BYTE_SHIFT K2)
 have f_7 := (staKeep0 S_LO_BYTE_SHIFT K2)
 refine g_static X4 hx hZ (rm201_o l Z a0 hw a1 v0 kc h2 n0 (Nat.le_trans Z0 K2.1) f_3 hb0 f_5 f_6 f_7) hown (tw88 hw) (tw89 hw) (tw74 hw) (tw90 hw) (by decide) 0 (by decide) (by decide) (by rw [hml]; rfl) [(.ref a1), (.int i0), (.int i1)] [] (lenOf pd_4 rfl) (Nat.le_of_eq rfl) eq4 (by decide) (by decide) rfl rfl (H d15_23) fun v8 T8 Lc8 X8 hQ8 => ?_
 obtain ⟨b2_2_8, k2_2_8, rfl, N8q, Kc8, P8_0, P8_1, P8_2⟩ := hQ8
 have K8 : Keep h0 T8.heap [] := K2.trans Kc8 all0
 have g_b2_2_8 := P8_0
 have sz_b2_2_8 : h0.size ≤ b2_2_8 := Nat.le_trans K2.1 P8_1
 have lt_b2_b2_2_8 : b2 < b2_2_8 := Nat.lt_of_lt_of_le V_b2.lt P8_1
 have N8 := Fr.app N4 N8q
 show Gs p e below _ T8 m 26 #[rv a1, iv i0, iv i1, rv b2, iv i0, .unset] [(.ref b2_2_8)]
 refine g_astore X8 hx (H d15_26) rfl (l' := #[rv a1, iv i0, iv i1, rv b2, iv i0, rv b2_2_8]) rfl ?_
 refine g_aload X8 hx (H d15_28) rfl rfl ?_
 refine g_iload X8 hx (H d15_30) rfl ?_
 have f_9 := (staKeep0 f_5 Kc8)
 have f_10 := (staKeep0 f_6 Kc8)
 have f_11 := (staKeep0 f_7 Kc8)
 refine g_static X8 hx hZ (rm2410_o l Z a0 hw b2_2_8 (nar .byte ((v0 >>> (i0 &&& 31)).toInt8.toInt32)) (nar .byte ((v0 >>> (i8 &&& 31)).toInt8.toInt32)) k2_2_8 T8.heap n0 (Nat.le_trans Z0 K8.1) P8_2 f_9 f_10 f_11) hown (tw104 hw) (tw105 hw) (tw74 hw) (tw106 hw) (by decide) 0 (by decide) (by decide) (by rw [hml]; rfl) [(.ref b2_2_8), (.int i0)] [] (lenOf pd_5 rfl) (Nat.le_of_eq rfl) rfl (by decide) (by decide) rfl rfl (H d15_32) fun v12 T12 Lc12 X12 hQ12 => ?_
 obtain ⟨rfl, N12q, eq12⟩ := hQ12
 have N12 := Fr.app N8 N12q
 show Gs p e below _ T12 m 35 #[rv a1, iv i0, iv i1, rv b2, iv i0, rv b2_2_8] [(.int (nar .char (((((nar .byte ((v0 >>> (i0 &&& 31)).toInt8.toInt32)) &&& i255) <<< (i0 &&& 31)) ||| (((nar .byte ((v0 >>> (i8 &&& 31)).toInt8.toInt32)) &&& i255) <<< (i8 &&& 31))).toUInt32.toUInt16.toUInt32.toInt32)))]
 refine g_sipush X12 hx i255 (H d15_35) rfl ?_
 refine g_icmpYes X12 hx 54 (H d15_38) (tlt (own_gt hb0 hd0)).2.2.1 (by decide) (by decide) ?_
 refine g_aload X12 hx (H d15_54) rfl rfl ?_
 exact Go.ret (Q := Qm151_t Z a1 v0 kc h0 n0) X12 (v := some (.ref b2_2_8)) (fun h => by rw [hret] at h; cases h) hlk (fun fs hr => retOut X12 hx hret rfl (Or.inr (Or.inr (Or.inr (Or.inr ⟨rfl, rfl, rfl⟩)))) (H d15_56) hr) eq12 ⟨b2_2_8, k2_2_8, rfl, N12, K8, g_b2_2_8, sz_b2_2_8, P8_2⟩ (by decide) (by decide)
def Qm151_f (Z : State) (a1 : Addr) (v0 : Int32) (kc : ClassId) (h0 : Heap) (n0 : Nat) (v : Option Value) (h : Heap) (L : List Loc) : Prop := ∃ (b2 : Addr) (k2 : ClassId), v = some (.ref b2) ∧ Fr n0 L ∧ Keep h0 h [] ∧ n0 ≤ b2 ∧ h0.size ≤ b2 ∧ Arv Z h b2 k2 .byte i1 [(.int (nar .byte (v0.toInt8.toInt32)))] (.int i0)
theorem rm151_f (l : Launch) (Z : State) (a0 : Array Value) (hw : Hw a0 Z) (a1 : Addr) (v0 : Int32) (kc : ClassId) (h0 : Heap) (n0 : Nat) (Z0 : n0 ≤ h0.size) (V_a1 : Arv Z h0 a1 kc .char i1 [(.int v0)] (.int i0)) (hb0 : 0 ≤ v0.toInt ∧ v0.toInt ≤ 65535) (S__assertionsDisabled : Sta Z h0 s1_ s2_ "Z" (.int i1)) (S_HI_BYTE_SHIFT : Sta Z h0 s1_ s3_ "I" (.int i0)) (S_LO_BYTE_SHIFT : Sta Z h0 s1_ s4_ "I" (.int i8)) (hd0 : ¬ (i255 < v0)) :
  Met l Z h0 yy13 jdk_52_method_16_code 6 (some (.array .byte)) (rmk 1 1 1 18) #[(.ref a1), (.int i0), (.int i1)] (Qm151_f Z a1 v0 kc h0 n0) := by
 refine enter (plainFor_of_name pn_15) (fun m => ef_15 m a1 i0 i1) fun p e s m below meth c s₁ hx hby hml hown hnm hZ X0 e0 hret hlk => ?_
 have N0 := Fr.nil n0; have H := @hb c _ hby
 refine g_iloadN X0 hx (H d15_0) rfl ?_
 refine g_newP X0 hx hZ (H d15_1) (tw21 hw) e0 (by decide) 1 (by decide) (by decide) (by decide) (by decide) fun b2 T2 h2 k2 g2 X2 e2 E2 A2 => ?_
 have g_b2 : n0 ≤ b2 := Nat.le_trans Z0 (Nat.le_of_eq g2.symm)
 have sz_b2 : h0.size ≤ b2 := Nat.le_of_eq g2.symm
 have K2 : Keep h0 h2 [] := (Keep.refl h0 []).ext E2
 have V_b2 : Arv Z h2 b2 k2 .byte i1 [(.int i0)] (.int i0) := (Arv.new A2 (by decide)).pad (pad_rep [] (.int i0) 1)
 refine g_astoreN X2 hx (H d15_3) rfl (l' := #[rv a1, iv i0, iv i1, rv b2, .unset, .unset]) rfl ?_
 refine g_aloadN X2 hx (H d15_4) rfl rfl ?_
 refine g_iloadN X2 hx (H d15_5) rfl ?_
 refine g_aloadN X2 hx (H d15_6) rfl rfl ?_
 refine g_iconst X2 hx i0 (H d15_7) rfl ?_
 refine g_iloadN X2 hx (H d15_8) rfl ?_
 have f_3 := (V_a1.keep K2 nin0)
 refine g_static X2 hx hZ (rm161_f l Z a0 hw a1 b2 v0 kc k2 h2 n0 (Nat.le_trans Z0 K2.1) f_3 hb0 V_b2 g_b2 (Nat.ne_of_lt (Nat.lt_of_lt_of_le V_a1.lt sz_b2)) hd0) hown (tw76 hw) (tw77 hw) (tw74 hw) (tw78 hw) (by decide) 0 (by decide) (by decide) (by rw [hml]; rfl) [(.ref a1), (.int i0), (.ref b2), (.int i0), (.int i1)] [] (lenOf pd_3 rfl) (Nat.le_of_eq rfl) e2 (by decide) (by decide) rfl rfl (H d15_9) fun v4 T4 Lc4 X4 hQ4 => ?_
 obtain ⟨rfl, N4q, Kc4, P4_0⟩ := hQ4
 have K4 : Keep h0 T4.heap [] := K2.trans Kc4 (allS (Or.inr sz_b2) all0)
 have N4 := Fr.app N0 N4q
 show Gs p e below _ T4 m 12 #[rv a1, iv i0, iv i1, rv b2, .unset, .unset] [(.int i1)]
 refine g_istore X4 hx (H d15_12) (l' := #[rv a1, iv i0, iv i1, rv b2, iv i1, .unset]) rfl ?_
 refine g_iload X4 hx (H d15_14) rfl ?_
 refine g_iloadN X4 hx (H d15_16) rfl ?_
 refine g_icmpYes X4 hx 57 (H d15_17) (teq (by decide : (i1 = i1))).1 (by decide) (by decide) ?_
 refine g_aloadN X4 hx (H d15_57) rfl rfl ?_
 exact Go.ret (Q := Qm151_f Z a1 v0 kc h0 n0) X4 (v := some (.ref b2)) (fun h => by rw [hret] at h; cases h) hlk (fun fs hr => retOut X4 hx hret rfl (Or.inr (Or.inr (Or.inr (Or.inr ⟨rfl, rfl, rfl⟩)))) (H d15_58) hr) rfl ⟨b2, k2, rfl, N4, K4, g_b2, sz_b2, P4_0⟩ (by decide) (by decide)
theorem rm151U (l : Launch) (Z : State) (a0 : Array Value) (hw : Hw a0 Z) (a1 : Addr) (v0 : Int32) (kc : ClassId) (h0 : Heap) (n0 : Nat) (Z0 : n0 ≤ h0.size) (V_a1 : Arv Z h0 a1 kc .char i1 [(.int v0)] (.int i0)) (hb0 : 0 ≤ v0.toInt ∧ v0.toInt ≤ 65535) (S__assertionsDisabled : Sta Z h0 s1_ s2_ "Z" (.int i1)) (S_HI_BYTE_SHIFT : Sta Z h0 s1_ s3_ "I" (.int i0)) (S_LO_BYTE_SHIFT : Sta Z h0 s1_ s4_ "I" (.int i8)) (hU : i255 < v0) :
  Met l Z h0 yy13 jdk_52_method_16_code 6 (some (.array .byte)) (rmk 3 2 3 40) #[(.ref a1), (.int i0), (.int i1)] (Qm151_t Z a1 v0 kc h0 n0) := by
 by_cases hk0 : i255 < v0
 · exact rm151_t l Z a0 hw a1 v0 kc h0 n0 Z0 V_a1 hb0 S__assertionsDisabled S_HI_BYTE_SHIFT S_LO_BYTE_SHIFT hk0
 exact (fun q => absurd q hk0) hU
def Qm171_o (Z : State) (a1 : Addr) (h0 : Heap) (n0 : Nat) (v : Option Value) (h : Heap) (L : List Loc) : Prop := v = some (.int i0) ∧ Fr n0 L ∧ h = h0
theorem rm171_o (l : Launch) (Z : State) (a0 : Array Value) (hw : Hw a0 Z) (a1 : Addr) (h0 : Heap) (n0 : Nat) (Z0 : n0 ≤ h0.size) (V_a1 : Arn Z h0 a1 .byte i1) :
  Met l Z h0 yy14 jdk_52_method_15_code 2 (some .byte) (rmk 0 0 0 0) #[(.ref a1), (.int i1)] (Qm171_o Z a1 h0 n0) := by
 refine enter (plainFor_of_name pn_17) (fun m => ef_17 m a1 i1) fun p e s m below meth c s₁ hx hby hml hown hnm hZ X0 e0 hret hlk => ?_
 have N0 := Fr.nil n0; have H := @hb c _ hby
 refine g_iloadN X0 hx (H d17_0) rfl ?_
 refine g_aloadN X0 hx (H d17_1) rfl rfl ?_
 obtain ⟨clq2, Arq2, saq2, naq2⟩ := id V_a1
 refine g_len X0 hx hZ e0 Arq2 saq2 naq2 (H d17_2) ?_
 refine g_isub X0 hx (H d17_3) ?_
 rw [show (i1 - i1) = i0 from by decide]
 show Gs p e below _ s₁ m 4 #[rv a1, iv i1] [(.int i0)]
 refine g_bipush X0 hx i31 (H d17_4) rfl ?_
 refine g_iushr X0 hx (H d17_6) ?_
 rw [show ((i0.toUInt32 >>> (i31 &&& 31).toUInt32).toInt32) = i0 from by decide]
 show Gs p e below _ s₁ m 7 #[rv a1, iv i1] [(.int i0)]
 refine g_i2b X0 hx (H d17_7) ?_
 rw [show (i0.toInt8.toInt32) = i0 from by decide]
 show Gs p e below _ s₁ m 8 #[rv a1, iv i1] [(.int i0)]
 exact Go.ret (Q := Qm171_o Z a1 h0 n0) X0 (v := some (.int i0)) (fun h => by rw [hret] at h; cases h) hlk (fun fs hr => retN X0 hx (t := .byte) hret (by simp) (H d17_8) hr) e0 ⟨rfl, N0, rfl⟩ (by decide) (by decide)
def Qm171u_o (Z : State) (a1 : Addr) (h0 : Heap) (n0 : Nat) (v : Option Value) (h : Heap) (L : List Loc) : Prop := v = some (.int i1) ∧ Fr n0 L ∧ h = h0
theorem rm171u_o (l : Launch) (Z : State) (a0 : Array Value) (hw : Hw a0 Z) (a1 : Addr) (h0 : Heap) (n0 : Nat) (Z0 : n0 ≤ h0.size) (V_a1 : Arn Z h0 a1 .byte i2) :
  Met l Z h0 yy14 jdk_52_method_15_code 2 (some .byte) (rmk 0 0 0 0) #[(.ref a1), (.int i1)] (Qm171u_o Z a1 h0 n0) := by
 refine enter (plainFor_of_name pn_17) (fun m => ef_17 m a1 i1) fun p e s m below meth c s₁ hx hby hml hown hnm hZ X0 e0 hret hlk => ?_
 have N0 := Fr.nil n0; have H := @hb c _ hby
 refine g_iloadN X0 hx (H d17_0) rfl ?_
 refine g_aloadN X0 hx (H d17_1) rfl rfl ?_
 obtain ⟨clq2, Arq2, saq2, naq2⟩ := id V_a1
 refine g_len X0 hx hZ e0 Arq2 saq2 naq2 (H d17_2) ?_
 refine g_isub X0 hx (H d17_3) ?_
 rw [show (i1 - i2) = im1 from by decide]
 show Gs p e below _ s₁ m 4 #[rv a1, iv i1] [(.int im1)]
 refine g_bipush X0 hx i31 (H d17_4) rfl ?_
 refine g_iushr X0 hx (H d17_6) ?_
 rw [show ((im1.toUInt32 >>> (i31 &&& 31).toUInt32).toInt32) = i1 from by decide]
 show Gs p e below _ s₁ m 7 #[rv a1, iv i1] [(.int i1)]
 refine g_i2b X0 hx (H d17_7) ?_
 rw [show (i1.toInt8.toInt32) = i1 from by decide]
 show Gs p e below _ s₁ m 8 #[rv a1, iv i1] [(.int i1)]
 exact Go.ret (Q := Qm171u_o Z a1 h0 n0) X0 (v := some (.int i1)) (fun h => by rw [hret] at h; cases h) hlk (fun fs hr => retN X0 hx (t := .byte) hret (by simp) (H d17_8) hr) e0 ⟨rfl, N0, rfl⟩ (by decide) (by decide)
def Qm31U_f (Z : State) (a1 : Addr) (a2 : Addr) (v0 : Int32) (kc : ClassId) (u_coder_a1 : Value) (u_value_a1 : Value) (w4 : Int32) (h0 : Heap) (n0 : Nat) (v : Option Value) (h : Heap) (L : List Loc) : Prop := ∃ (b2_2_8_6 : Addr) (k2_2_8_6 : ClassId), v = none ∧ Fr n0 L ∧ Keep h0 h [a1] ∧ Exa Z h a1 s0_ ∧ Fld Z h a1 s0_ "coder" "B" (.int i1) ∧ Fld Z h a1 s0_ "value" "[B" (.ref b2_2_8_6) ∧ Arv Z h b2_2_8_6 k2_2_8_6 .byte i2 [(.int (nar .byte ((v0 >>> (i0 &&& 31)).toInt8.toInt32))), (.int (nar .byte ((v0 >>> (i8 &&& 31)).toInt8.toInt32)))] (.int i0)
theorem rm31U_f (l : Launch) (Z : State) (a0 : Array Value) (hw : Hw a0 Z) (a1 : Addr) (a2 : Addr) (v0 : Int32) (kc : ClassId) (u_coder_a1 : Value) (u_value_a1 : Value) (w4 : Int32) (h0 : Heap) (n0 : Nat) (Z0 : n0 ≤ h0.size) (E_a1 : Exa Z h0 a1 s0_) (V_a2 : Arv Z h0 a2 kc .char i1 [(.int v0)] (.int i0)) (hb0 : 0 ≤ v0.toInt ∧ v0.toInt ≤ 65535) (S__assertionsDisabled : Sta Z h0 s1_ s2_ "Z" (.int i1)) (S_HI_BYTE_SHIFT : Sta Z h0 s1_ s3_ "I" (.int i0)) (S_LO_BYTE_SHIFT : Sta Z h0 s1_ s4_ "I" (.int i8)) (F_coder_a1 : Fld Z h0 a1 s0_ "coder" "B" u_coder_a1) (F_value_a1 : Fld Z h0 a1 s0_ "value" "[B" u_value_a1) (g_a1 : n0 ≤ a1) (hne_a2_a1 : ¬ (a2 = a1)) (hU : i255 < v0) (S_COMPACT_STRINGS : Sta Z h0 s0_ s5_ "Z" (.int w4)) (hd1 : ¬ (w4 = i0)) :
  Met l Z h0 yy15 jdk_42_method_149_code 6 none (rmk 4 2 3 57) #[(.ref a1), (.ref a2), (.int i0), (.int i1), .null] (Qm31U_f Z a1 a2 v0 kc u_coder_a1 u_value_a1 w4 h0 n0) := by
 refine enter (plainFor_of_name pn_3) (fun m => ef_31U m a1 a2 i0 i1) fun p e s m below meth c s₁ hx hby hml hown hnm hZ X0 e0 hret hlk => ?_
 have N0 := Fr.nil n0; have H := @hb c _ hby
 refine g_aloadN X0 hx (H d3_0) rfl rfl ?_
 refine g_initO X0 hx hZ hown (tw17 hw) (tw18 hw) (tw19 hw) e0 (by rw [hml]; rfl) (H d3_1) (by decide) 0 (Nat.le_of_eq rfl) (by decide) fun T3 X3 e3 => ?_
 refine g_iloadN X3 hx (H d3_4) rfl ?_
 refine g_ifYes X3 hx 27 (H d3_5) (feq (by decide : ¬ (i1 = i0))).2 (by decide) (by decide) ?_
 refine g_getS X3 hx hZ hown (tw47 hw) e3 S_COMPACT_STRINGS (H d3_27) fun T5 X5 e5 => ?_
 refine g_ifNo X5 hx (H d3_30) (feq hd1).1 ?_
 refine g_aloadN X5 hx (H d3_33) rfl rfl ?_
 refine g_iloadN X5 hx (H d3_34) rfl ?_
 refine g_iloadN X5 hx (H d3_35) rfl ?_
 refine g_static X5 hx hZ (rm151U l Z a0 hw a2 v0 kc h0 n0 Z0 V_a2 hb0 S__assertionsDisabled S_HI_BYTE_SHIFT S_LO_BYTE_SHIFT hU) hown (tw72 hw) (tw73 hw) (tw74 hw) (tw75 hw) (by decide) 0 (by decide) (by decide) (by rw [hml]; rfl) [(.ref a2), (.int i0), (.int i1)] [] (lenOf pd_4 rfl) (Nat.le_of_eq rfl) e5 (by decide) (by decide) rfl rfl (H d3_36) fun v6 T6 Lc6 X6 hQ6 => ?_
 obtain ⟨b2_2_8_6, k2_2_8_6, rfl, N6q, Kc6, P6_0, P6_1, P6_2⟩ := hQ6
 have K6 : Keep h0 T6.heap [a1] := (Keep.refl h0 [a1]).trans Kc6 all0
 have g_b2_2_8_6 := P6_0
 have sz_b2_2_8_6 : h0.size ≤ b2_2_8_6 := P6_1
 have N6 := Fr.app N0 N6q
 show Gs p e below _ T6 m 39 #[rv a1, rv a2, iv i0, iv i1, .val .null, .unset] [(.ref b2_2_8_6)]
 refine g_astore X6 hx (H d3_39) rfl (l' := #[rv a1, rv a2, iv i0, iv i1, .val .null, rv b2_2_8_6]) rfl ?_
 refine g_aloadN X6 hx (H d3_41) rfl rfl ?_
 refine g_aload X6 hx (H d3_42) rfl rfl ?_
 refine g_iloadN X6 hx (H d3_44) rfl ?_
 refine g_static X6 hx hZ (rm171u_o l Z a0 hw b2_2_8_6 T6.heap n0 (Nat.le_trans Z0 K6.1) (Arv.arn P6_2)) hown (tw79 hw) (tw80 hw) (tw74 hw) (tw81 hw) (by decide) 1 (by decide) (by decide) (by rw [hml]; rfl) [(.ref b2_2_8_6), (.int i1)] [(.ref a1)] (lenOf pd_6 rfl) (Nat.le_of_eq rfl) rfl (by decide) (by decide) rfl rfl (H d3_45) fun v7 T7 Lc7 X7 hQ7 => ?_
 obtain ⟨rfl, N7q, eq7⟩ := hQ7
 have N7 := Fr.app N6 N7q
 show Gs p e below _ T7 m 48 #[rv a1, rv a2, iv i0, iv i1, .val .null, rv b2_2_8_6] [(.int i1), (.ref a1)]
 have f_8 := (E_a1.keep Kc6)
 have f_9 := (F_coder_a1.keep Kc6 nin0)
 refine g_putFN X7 hx hZ hown (tw27 hw) Via.refl eq7 f_9 f_8 (Or.inr ⟨(tw23 hw), rfl, hnm⟩) (tw7 hw) (ty := .byte) (v' := (.int i1)) (by decide) rfl (fits_nar_byte i1) (H d3_48) fun T10 h10 X10 e10 W10 => ?_
 have Fw10 : Fld Z h10 a1 s0_ "coder" "B" (.int i1) := Fld.same W10 f_9
 have K10 : Keep h0 h10 [a1] := K6.wr W10 (Or.inl (List.mem_of_getElem? (i := 0) rfl))
 have N10 := Fr.snoc X10 N7 g_a1
 refine g_aloadN X10 hx (H d3_51) rfl rfl ?_
 refine g_aload X10 hx (H d3_52) rfl rfl ?_
 have f_11 := (Exa.wr W10 f_8)
 have f_12 := (Fld.other W10 (F_value_a1.keep Kc6 nin0) (Or.inr (slot_ne (Or.inr (tw22 hw)) (Or.inr (tw23 hw)) (by decide) (t := (.array .byte)) (t' := .byte) (by decide) (by decide))))
 refine g_putF X10 hx hZ hown (tw26 hw) Via.refl e10 f_12 f_11 (Or.inr ⟨(tw22 hw), rfl, hnm⟩) (tw7 hw) (ty := (.array .byte)) (by decide) rfl rfl (H d3_54) fun T13 h13 X13 e13 W13 => ?_
 have Fw13 : Fld Z h13 a1 s0_ "value" "[B" (.ref b2_2_8_6) := Fld.same W13 f_12
 have K13 : Keep h0 h13 [a1] := K10.wr W13 (Or.inl (List.mem_of_getElem? (i := 0) rfl))
 have N13 := Fr.snoc X13 N10 g_a1
 have f_14 := (Exa.wr W13 f_11)
 have f_15 := (Fld.other W13 Fw10 (Or.inr (slot_ne (Or.inr (tw23 hw)) (Or.inr (tw22 hw)) (by decide) (t := .byte) (t' := (.array .byte)) (by decide) (by decide))))
 have f_16 := ((P6_2.other W10 (Ne.symm (Nat.ne_of_lt (Nat.lt_of_lt_of_le E_a1.lt sz_b2_2_8_6)))).other W13 (Ne.symm (Nat.ne_of_lt (Nat.lt_of_lt_of_le E_a1.lt sz_b2_2_8_6))))
 exact Go.ret (Q := Qm31U_f Z a1 a2 v0 kc u_coder_a1 u_value_a1 w4 h0 n0) X13 (v := none) (fun _ => rfl) hlk (fun fs hr => X13.returnOut hx hret (H d3_57) hr) e13 ⟨b2_2_8_6, k2_2_8_6, rfl, N13, K13, f_14, f_15, Fw13, f_16⟩ (by decide) (by decide)
def Qm31L_f (Z : State) (a1 : Addr) (a2 : Addr) (v0 : Int32) (kc : ClassId) (u_coder_a1 : Value) (u_value_a1 : Value) (w4 : Int32) (h0 : Heap) (n0 : Nat) (v : Option Value) (h : Heap) (L : List Loc) : Prop := ∃ (b2_6 : Addr) (k2_6 : ClassId), v = none ∧ Fr n0 L ∧ Keep h0 h [a1] ∧ Exa Z h a1 s0_ ∧ Fld Z h a1 s0_ "coder" "B" (.int i0) ∧ Fld Z h a1 s0_ "value" "[B" (.ref b2_6) ∧ Arv Z h b2_6 k2_6 .byte i1 [(.int (nar .byte (v0.toInt8.toInt32)))] (.int i0)
theorem rm31L_f (l : Launch) (Z : State) (a0 : Array Value) (hw : Hw a0 Z) (a1 : Addr) (a2 : Addr) (v0 : Int32) (kc : ClassId) (u_coder_a1 : Value) (u_value_a1 : Value) (w4 : Int32) (h0 : Heap) (n0 : Nat) (Z0 : n0 ≤ h0.size) (E_a1 : Exa Z h0 a1 s0_) (V_a2 : Arv Z h0 a2 kc .char i1 [(.int v0)] (.int i0)) (hb0 : 0 ≤ v0.toInt ∧ v0.toInt ≤ 65535) (S__assertionsDisabled : Sta Z h0 s1_ s2_ "Z" (.int i1)) (S_HI_BYTE_SHIFT : Sta Z h0 s1_ s3_ "I" (.int i0)) (S_LO_BYTE_SHIFT : Sta Z h0 s1_ s4_ "I" (.int i8)) (F_coder_a1 : Fld Z h0 a1 s0_ "coder" "B" u_coder_a1) (F_value_a1 : Fld Z h0 a1 s0_ "value" "[B" u_value_a1) (g_a1 : n0 ≤ a1) (hne_a2_a1 : ¬ (a2 = a1)) (hv0 : ¬ (i255 < v0)) (S_COMPACT_STRINGS : Sta Z h0 s0_ s5_ "Z" (.int w4)) (hd2 : ¬ (w4 = i0)) :
  Met l Z h0 yy15 jdk_42_method_149_code 6 none (rmk 2 1 1 35) #[(.ref a1), (.ref a2), (.int i0), (.int i1), .null] (Qm31L_f Z a1 a2 v0 kc u_coder_a1 u_value_a1 w4 h0 n0) := by
 refine enter (plainFor_of_name pn_3) (fun m => ef_31L m a1 a2 i0 i1) fun p e s m below meth c s₁ hx hby hml hown hnm hZ X0 e0 hret hlk => ?_
 have N0 := Fr.nil n0; have H := @hb c _ hby
 refine g_aloadN X0 hx (H d3_0) rfl rfl ?_
 refine g_initO X0 hx hZ hown (tw17 hw) (tw18 hw) (tw19 hw) e0 (by rw [hml]; rfl) (H d3_1) (by decide) 0 (Nat.le_of_eq rfl) (by decide) fun T3 X3 e3 => ?_
 refine g_iloadN X3 hx (H d3_4) rfl ?_
 refine g_ifYes X3 hx 27 (H d3_5) (feq (by decide : ¬ (i1 = i0))).2 (by decide) (by decide) ?_
 refine g_getS X3 hx hZ hown (tw47 hw) e3 S_COMPACT_STRINGS (H d3_27) fun T5 X5 e5 => ?_
 refine g_ifNo X5 hx (H d3_30) (feq hd2).1 ?_
 refine g_aloadN X5 hx (H d3_33) rfl rfl ?_
 refine g_iloadN X5 hx (H d3_34) rfl ?_
 refine g_iloadN X5 hx (H d3_35) rfl ?_
 refine g_static X5 hx hZ (rm151_f l Z a0 hw a2 v0 kc h0 n0 Z0 V_a2 hb0 S__assertionsDisabled S_HI_BYTE_SHIFT S_LO_BYTE_SHIFT hv0) hown (tw72 hw) (tw73 hw) (tw74 hw) (tw75 hw) (by decide) 0 (by decide) (by decide) (by rw [hml]; rfl) [(.ref a2), (.int i0), (.int i1)] [] (lenOf pd_4 rfl) (Nat.le_of_eq rfl) e5 (by decide) (by decide) rfl rfl (H d3_36) fun v6 T6 Lc6 X6 hQ6 => ?_
 obtain ⟨b2_6, k2_6, rfl, N6q, Kc6, P6_0, P6_1, P6_2⟩ := hQ6
 have K6 : Keep h0 T6.heap [a1] := (Keep.refl h0 [a1]).trans Kc6 all0
 have g_b2_6 := P6_0
 have sz_b2_6 : h0.size ≤ b2_6 := P6_1
 have N6 := Fr.app N0 N6q
 show Gs p e below _ T6 m 39 #[rv a1, rv a2, iv i0, iv i1, .val .null, .unset] [(.ref b2_6)]
 refine g_astore X6 hx (H d3_39) rfl (l' := #[rv a1, rv a2, iv i0, iv i1, .val .null, rv b2_6]) rfl ?_
 refine g_aloadN X6 hx (H d3_41) rfl rfl ?_
 refine g_aload X6 hx (H d3_42) rfl rfl ?_
 refine g_iloadN X6 hx (H d3_44) rfl ?_
 refine g_static X6 hx hZ (rm171_o l Z a0 hw b2_6 T6.heap n0 (Nat.le_trans Z0 K6.1) (Arv.arn P6_2)) hown (tw79 hw) (tw80 hw) (tw74 hw) (tw81 hw) (by decide) 1 (by decide) (by decide) (by rw [hml]; rfl) [(.ref b2_6), (.int i1)] [(.ref a1)] (lenOf pd_6 rfl) (Nat.le_of_eq rfl) rfl (by decide) (by decide) rfl rfl (H d3_45) fun v7 T7 Lc7 X7 hQ7 => ?_
 obtain ⟨rfl, N7q, eq7⟩ := hQ7
 have N7 := Fr.app N6 N7q
 show Gs p e below _ T7 m 48 #[rv a1, rv a2, iv i0, iv i1, .val .null, rv b2_6] [(.int i0), (.ref a1)]
 have f_8 := (E_a1.keep Kc6)
 have f_9 := (F_coder_a1.keep Kc6 nin0)
 refine g_putFN X7 hx hZ hown (tw27 hw) Via.refl eq7 f_9 f_8 (Or.inr ⟨(tw23 hw), rfl, hnm⟩) (tw7 hw) (ty := .byte) (v' := (.int i0)) (by decide) rfl (fits_nar_byte i0) (H d3_48) fun T10 h10 X10 e10 W10 => ?_
 have Fw10 : Fld Z h10 a1 s0_ "coder" "B" (.int i0) := Fld.same W10 f_9
 have K10 : Keep h0 h10 [a1] := K6.wr W10 (Or.inl (List.mem_of_getElem? (i := 0) rfl))
 have N10 := Fr.snoc X10 N7 g_a1
 refine g_aloadN X10 hx (H d3_51) rfl rfl ?_
 refine g_aload X10 hx (H d3_52) rfl rfl ?_
 have f_11 := (Exa.wr W10 f_8)
 have f_12 := (Fld.other W10 (F_value_a1.keep Kc6 nin0) (Or.inr (slot_ne (Or.inr (tw22 hw)) (Or.inr (tw23 hw)) (by decide) (t := (.array .byte)) (t' := .byte) (by decide) (by decide))))
 refine g_putF X10 hx hZ hown (tw26 hw) Via.refl e10 f_12 f_11 (Or.inr ⟨(tw22 hw), rfl, hnm⟩) (tw7 hw) (ty := (.array .byte)) (by decide) rfl rfl (H d3_54) fun T13 h13 X13 e13 W13 => ?_
 have Fw13 : Fld Z h13 a1 s0_ "value" "[B" (.ref b2_6) := Fld.same W13 f_12
 have K13 : Keep h0 h13 [a1] := K10.wr W13 (Or.inl (List.mem_of_getElem? (i := 0) rfl))
 have N13 := Fr.snoc X13 N10 g_a1
 have f_14 := (Exa.wr W13 f_11)
 have f_15 := (Fld.other W13 Fw10 (Or.inr (slot_ne (Or.inr (tw23 hw)) (Or.inr (tw22 hw)) (by decide) (t := .byte) (t' := (.array .byte)) (by decide) (by decide))))
 have f_16 := ((P6_2.other W10 (Ne.symm (Nat.ne_of_lt (Nat.lt_of_lt_of_le E_a1.lt sz_b2_6)))).other W13 (Ne.symm (Nat.ne_of_lt (Nat.lt_of_lt_of_le E_a1.lt sz_b2_6))))
 exact Go.ret (Q := Qm31L_f Z a1 a2 v0 kc u_coder_a1 u_value_a1 w4 h0 n0) X13 (v := none) (fun _ => rfl) hlk (fun fs hr => X13.returnOut hx hret (H d3_57) hr) e13 ⟨b2_6, k2_6, rfl, N13, K13, f_14, f_15, Fw13, f_16⟩ (by decide) (by decide)
def Qm21U_f (Z : State) (a1 : Addr) (a2 : Addr) (v0 : Int32) (kc : ClassId) (u_coder_a1 : Value) (u_value_a1 : Value) (w4 : Int32) (h0 : Heap) (n0 : Nat) (v : Option Value) (h : Heap) (L : List Loc) : Prop := ∃ (b2_2_8_6_5 : Addr) (k2_2_8_6_5 : ClassId), v = none ∧ Fr n0 L ∧ Keep h0 h [a1] ∧ Exa Z h a1 s0_ ∧ Fld Z h a1 s0_ "coder" "B" (.int i1) ∧ Fld Z h a1 s0_ "value" "[B" (.ref b2_2_8_6_5) ∧ Arv Z h b2_2_8_6_5 k2_2_8_6_5 .byte i2 [(.int (nar .byte ((v0 >>> (i0 &&& 31)).toInt8.toInt32))), (.int (nar .byte ((v0 >>> (i8 &&& 31)).toInt8.toInt32)))] (.int i0)
theorem rm21U_f (l : Launch) (Z : State) (a0 : Array Value) (hw : Hw a0 Z) (a1 : Addr) (a2 : Addr) (v0 : Int32) (kc : ClassId) (u_coder_a1 : Value) (u_value_a1 : Value) (w4 : Int32) (h0 : Heap) (n0 : Nat) (Z0 : n0 ≤ h0.size) (E_a1 : Exa Z h0 a1 s0_) (V_a2 : Arv Z h0 a2 kc .char i1 [(.int v0)] (.int i0)) (hb0 : 0 ≤ v0.toInt ∧ v0.toInt ≤ 65535) (S__assertionsDisabled : Sta Z h0 s1_ s2_ "Z" (.int i1)) (S_HI_BYTE_SHIFT : Sta Z h0 s1_ s3_ "I" (.int i0)) (S_LO_BYTE_SHIFT : Sta Z h0 s1_ s4_ "I" (.int i8)) (F_coder_a1 : Fld Z h0 a1 s0_ "coder" "B" u_coder_a1) (F_value_a1 : Fld Z h0 a1 s0_ "value" "[B" u_value_a1) (g_a1 : n0 ≤ a1) (hne_a2_a1 : ¬ (a2 = a1)) (hU : i255 < v0) (hd1 : ¬ (w4 = i0)) (S_COMPACT_STRINGS : Sta Z h0 s0_ s5_ "Z" (.int w4)) :
  Met l Z h0 yy16 jdk_42_method_3_code 2 none (rmk 5 2 3 74) #[(.ref a1), (.ref a2)] (Qm21U_f Z a1 a2 v0 kc u_coder_a1 u_value_a1 w4 h0 n0) := by
 refine enter (plainFor_of_name pn_2) (fun m => ef_2 m a1 a2) fun p e s m below meth c s₁ hx hby hml hown hnm hZ X0 e0 hret hlk => ?_
 have N0 := Fr.nil n0; have H := @hb c _ hby
 refine g_aloadN X0 hx (H d2_0) rfl rfl ?_
 refine g_aloadN X0 hx (H d2_1) rfl rfl ?_
 refine g_iconst X0 hx i0 (H d2_2) rfl ?_
 refine g_aloadN X0 hx (H d2_3) rfl rfl ?_
 obtain ⟨clq3, Arq3, caq3, saq3, naq3, haq3, gaq3⟩ := id V_a2
 refine g_len X0 hx hZ e0 Arq3 saq3 naq3 (H d2_4) ?_
 refine g_aconstNull X0 hx (H d2_5) ?_
 refine g_special X0 hx hZ (rm31U_f l Z a0 hw a1 a2 v0 kc u_coder_a1 u_value_a1 w4 h0 n0 Z0 E_a1 V_a2 hb0 S__assertionsDisabled S_HI_BYTE_SHIFT S_LO_BYTE_SHIFT F_coder_a1 F_value_a1 g_a1 hne_a2_a1 hU S_COMPACT_STRINGS hd1) rfl rfl hown (tw13 hw) (tw14 hw) (tw8 hw) (tw16 hw) (by decide) 0 (by decide) (by decide) (by rw [hml]; rfl) [(.ref a2), (.int i0), (.int i1), .null] [] (lenOf pd_7 rfl) (Nat.le_of_eq rfl) e0 (by decide) (by decide) rfl rfl (H d2_6) fun v5 T5 Lc5 X5 hQ5 => ?_
 obtain ⟨b2_2_8_6_5, k2_2_8_6_5, rfl, N5q, Kc5, P5_0, P5_1, P5_2, P5_3⟩ := hQ5
 have K5 : Keep h0 T5.heap [a1] := (Keep.refl h0 [a1]).trans Kc5 (allS (Or.inl (List.mem_of_getElem? (i := 0) rfl)) all0)
 have N5 := Fr.app N0 N5q
 show Gs p e below _ T5 m 9 #[rv a1, rv a2] []
 exact Go.ret (Q := Qm21U_f Z a1 a2 v0 kc u_coder_a1 u_value_a1 w4 h0 n0) X5 (v := none) (fun _ => rfl) hlk (fun fs hr => X5.returnOut hx hret (H d2_9) hr) rfl ⟨b2_2_8_6_5, k2_2_8_6_5, rfl, N5, K5, P5_0, P5_1, P5_2, P5_3⟩ (by decide) (by decide)
def Qm21L_f (Z : State) (a1 : Addr) (a2 : Addr) (v0 : Int32) (kc : ClassId) (u_coder_a1 : Value) (u_value_a1 : Value) (w4 : Int32) (h0 : Heap) (n0 : Nat) (v : Option Value) (h : Heap) (L : List Loc) : Prop := ∃ (b2_6_5 : Addr) (k2_6_5 : ClassId), v = none ∧ Fr n0 L ∧ Keep h0 h [a1] ∧ Exa Z h a1 s0_ ∧ Fld Z h a1 s0_ "coder" "B" (.int i0) ∧ Fld Z h a1 s0_ "value" "[B" (.ref b2_6_5) ∧ Arv Z h b2_6_5 k2_6_5 .byte i1 [(.int (nar .byte (v0.toInt8.toInt32)))] (.int i0)
theorem rm21L_f (l : Launch) (Z : State) (a0 : Array Value) (hw : Hw a0 Z) (a1 : Addr) (a2 : Addr) (v0 : Int32) (kc : ClassId) (u_coder_a1 : Value) (u_value_a1 : Value) (w4 : Int32) (h0 : Heap) (n0 : Nat) (Z0 : n0 ≤ h0.size) (E_a1 : Exa Z h0 a1 s0_) (V_a2 : Arv Z h0 a2 kc .char i1 [(.int v0)] (.int i0)) (hb0 : 0 ≤ v0.toInt ∧ v0.toInt ≤ 65535) (S__assertionsDisabled : Sta Z h0 s1_ s2_ "Z" (.int i1)) (S_HI_BYTE_SHIFT : Sta Z h0 s1_ s3_ "I" (.int i0)) (S_LO_BYTE_SHIFT : Sta Z h0 s1_ s4_ "I" (.int i8)) (F_coder_a1 : Fld Z h0 a1 s0_ "coder" "B" u_coder_a1) (F_value_a1 : Fld Z h0 a1 s0_ "value" "[B" u_value_a1) (g_a1 : n0 ≤ a1) (hne_a2_a1 : ¬ (a2 = a1)) (hv0 : ¬ (i255 < v0)) (hd2 : ¬ (w4 = i0)) (S_COMPACT_STRINGS : Sta Z h0 s0_ s5_ "Z" (.int w4)) :
  Met l Z h0 yy16 jdk_42_method_3_code 2 none (rmk 3 1 1 52) #[(.ref a1), (.ref a2)] (Qm21L_f Z a1 a2 v0 kc u_coder_a1 u_value_a1 w4 h0 n0) := by
 refine enter (plainFor_of_name pn_2) (fun m => ef_2 m a1 a2) fun p e s m below meth c s₁ hx hby hml hown hnm hZ X0 e0 hret hlk => ?_
 have N0 := Fr.nil n0; have H := @hb c _ hby
 refine g_aloadN X0 hx (H d2_0) rfl rfl ?_
 refine g_aloadN X0 hx (H d2_1) rfl rfl ?_
 refine g_iconst X0 hx i0 (H d2_2) rfl ?_
 refine g_aloadN X0 hx (H d2_3) rfl rfl ?_
 obtain ⟨clq3, Arq3, caq3, saq3, naq3, haq3, gaq3⟩ := id V_a2
 refine g_len X0 hx hZ e0 Arq3 saq3 naq3 (H d2_4) ?_
 refine g_aconstNull X0 hx (H d2_5) ?_
 refine g_special X0 hx hZ (rm31L_f l Z a0 hw a1 a2 v0 kc u_coder_a1 u_value_a1 w4 h0 n0 Z0 E_a1 V_a2 hb0 S__assertionsDisabled S_HI_BYTE_SHIFT S_LO_BYTE_SHIFT F_coder_a1 F_value_a1 g_a1 hne_a2_a1 hv0 S_COMPACT_STRINGS hd2) rfl rfl hown (tw13 hw) (tw14 hw) (tw8 hw) (tw16 hw) (by decide) 0 (by decide) (by decide) (by rw [hml]; rfl) [(.ref a2), (.int i0), (.int i1), .null] [] (lenOf pd_7 rfl) (Nat.le_of_eq rfl) e0 (by decide) (by decide) rfl rfl (H d2_6) fun v5 T5 Lc5 X5 hQ5 => ?_
 obtain ⟨b2_6_5, k2_6_5, rfl, N5q, Kc5, P5_0, P5_1, P5_2, P5_3⟩ := hQ5
 have K5 : Keep h0 T5.heap [a1] := (Keep.refl h0 [a1]).trans Kc5 (allS (Or.inl (List.mem_of_getElem? (i := 0) rfl)) all0)
 have N5 := Fr.app N0 N5q
 show Gs p e below _ T5 m 9 #[rv a1, rv a2] []
 exact Go.ret (Q := Qm21L_f Z a1 a2 v0 kc u_coder_a1 u_value_a1 w4 h0 n0) X5 (v := none) (fun _ => rfl) hlk (fun fs hr => X5.returnOut hx hret (H d2_9) hr) rfl ⟨b2_6_5, k2_6_5, rfl, N5, K5, P5_0, P5_1, P5_2, P5_3⟩ (by decide) (by decide)
def Qm222_o (Z : State)  (h0 : Heap) (n0 : Nat) (v : Option Value) (h : Heap) (L : List Loc) : Prop := v = some (.int i4) ∧ Fr n0 L ∧ h = h0
theorem rm222_o (l : Launch) (Z : State) (a0 : Array Value) (hw : Hw a0 Z)  (h0 : Heap) (n0 : Nat) (Z0 : n0 ≤ h0.size) :
  Met l Z h0 yy7 jdk_52_method_3_code 1 (some .int) (rmk 0 0 0 0) #[(.int i2)] (Qm222_o Z  h0 n0) := by
 refine enter (plainFor_of_name pn_22) (fun m => ef_22 m i2) fun p e s m below meth c s₁ hx hby hml hown hnm hZ X0 e0 hret hlk => ?_
 have N0 := Fr.nil n0; have H := @hb c _ hby
 refine g_iloadN X0 hx (H d22_0) rfl ?_
 refine g_ifYes X0 hx 12 (H d22_1) (flt (by decide : ¬ (i2 < i0))).2.1 (by decide) (by decide) ?_
 refine g_iloadN X0 hx (H d22_12) rfl ?_
 refine Go.st (fun _ kk => X0.ldcInt hx hown (mvT hZ (tw97 hw)) (g := (mkF m 13 #[iv i2] [(.int i2)])) rfl (H d22_13) _ kk) ?_
 show Gs p e below _ s₁ m 15 #[iv i2] [(.int i1073741823), (.int i2)]
 refine g_icmpYes X0 hx 55 (H d22_15) (tlt (by decide : (i2 < i1073741823))).1 (by decide) (by decide) ?_
 refine g_iloadN X0 hx (H d22_55) rfl ?_
 refine g_iconst X0 hx i1 (H d22_56) rfl ?_
 refine g_ishl X0 hx (H d22_57) ?_
 rw [show (i2 <<< (i1 &&& 31)) = i4 from by decide]
 show Gs p e below _ s₁ m 58 #[iv i2] [(.int i4)]
 exact Go.ret (Q := Qm222_o Z  h0 n0) X0 (v := some (.int i4)) (fun h => by rw [hret] at h; cases h) hlk (fun fs hr => retOut X0 hx hret rfl (Or.inl ⟨rfl, Or.inl rfl, _, rfl⟩) (H d22_58) hr) e0 ⟨rfl, N0, rfl⟩ (by decide) (by decide)
def Qm212_o (Z : State)  (h0 : Heap) (n0 : Nat) (v : Option Value) (h : Heap) (L : List Loc) : Prop := ∃ (b2 : Addr) (k2 : ClassId), v = some (.ref b2) ∧ Fr n0 L ∧ Keep h0 h [] ∧ n0 ≤ b2 ∧ h0.size ≤ b2 ∧ Arv Z h b2 k2 .byte i4 [(.int i0), (.int i0), (.int i0), (.int i0)] (.int i0)
theorem rm212_o (l : Launch) (Z : State) (a0 : Array Value) (hw : Hw a0 Z)  (h0 : Heap) (n0 : Nat) (Z0 : n0 ≤ h0.size) :
  Met l Z h0 yy8 jdk_52_method_2_code 1 (some (.array .byte)) (rmk 1 1 4 12) #[(.int i2)] (Qm212_o Z  h0 n0) := by
 refine enter (plainFor_of_name pn_21) (fun m => ef_21 m i2) fun p e s m below meth c s₁ hx hby hml hown hnm hZ X0 e0 hret hlk => ?_
 have N0 := Fr.nil n0; have H := @hb c _ hby
 refine g_iloadN X0 hx (H d21_0) rfl ?_
 refine g_static X0 hx hZ (rm222_o l Z a0 hw  h0 n0 Z0 ) hown (tw94 hw) (tw95 hw) (tw74 hw) (tw96 hw) (by decide) 0 (by decide) (by decide) (by rw [hml]; rfl) [(.int i2)] [] (lenOf pd_0 rfl) (Nat.le_of_eq rfl) e0 (by decide) (by decide) rfl rfl (H d21_1) fun v1 T1 Lc1 X1 hQ1 => ?_
 obtain ⟨rfl, N1q, eq1⟩ := hQ1
 have N1 := Fr.app N0 N1q
 show Gs p e below _ T1 m 4 #[iv i2] [(.int i4)]
 refine g_newP X1 hx hZ (H d21_4) (tw21 hw) eq1 (by decide) 4 (by decide) (by decide) (by decide) (by decide) fun b2 T2 h2 k2 g2 X2 e2 E2 A2 => ?_
 have g_b2 : n0 ≤ b2 := Nat.le_trans Z0 (Nat.le_of_eq g2.symm)
 have sz_b2 : h0.size ≤ b2 := Nat.le_of_eq g2.symm
 have K2 : Keep h0 h2 [] := (Keep.refl h0 []).ext E2
 have V_b2 : Arv Z h2 b2 k2 .byte i4 [(.int i0), (.int i0), (.int i0), (.int i0)] (.int i0) := (Arv.new A2 (by decide)).pad (pad_rep [] (.int i0) 4)
 exact Go.ret (Q := Qm212_o Z  h0 n0) X2 (v := some (.ref b2)) (fun h => by rw [hret] at h; cases h) hlk (fun fs hr => retOut X2 hx hret rfl (Or.inr (Or.inr (Or.inr (Or.inr ⟨rfl, rfl, rfl⟩)))) (H d21_6) hr) e2 ⟨b2, k2, rfl, N1, K2, g_b2, sz_b2, V_b2⟩ (by decide) (by decide)
def Qm2320_o (Z : State) (a1 : Addr) (p2 : Int32) (y0 : Int32) (y1 : Int32) (y2 : Int32) (y3 : Int32) (kb : ClassId) (h0 : Heap) (n0 : Nat) (v : Option Value) (h : Heap) (L : List Loc) : Prop := v = none ∧ Fr n0 L ∧ Keep h0 h [a1] ∧ Arv Z h a1 kb .byte i4 [(.int (nar .byte ((p2 >>> (i0 &&& 31)).toInt8.toInt32))), (.int (nar .byte ((p2 >>> (i8 &&& 31)).toInt8.toInt32))), (.int y2), (.int y3)] (.int i0)
theorem rm2320_o (l : Launch) (Z : State) (a0 : Array Value) (hw : Hw a0 Z) (a1 : Addr) (p2 : Int32) (y0 : Int32) (y1 : Int32) (y2 : Int32) (y3 : Int32) (kb : ClassId) (h0 : Heap) (n0 : Nat) (Z0 : n0 ≤ h0.size) (V_a1 : Arv Z h0 a1 kb .byte i4 [(.int y0), (.int y1), (.int y2), (.int y3)] (.int i0)) (S__assertionsDisabled : Sta Z h0 s1_ s2_ "Z" (.int i1)) (S_HI_BYTE_SHIFT : Sta Z h0 s1_ s3_ "I" (.int i0)) (S_LO_BYTE_SHIFT : Sta Z h0 s1_ s4_ "I" (.int i8)) (g_a1 : n0 ≤ a1) :
  Met l Z h0 yy9 jdk_52_method_4_code 3 none (rmk 0 0 0 0) #[(.ref a1), (.int i0), (.int p2)] (Qm2320_o Z a1 p2 y0 y1 y2 y3 kb h0 n0) := by
 refine enter (plainFor_of_name pn_23) (fun m => ef_23 m a1 i0 p2) fun p e s m below meth c s₁ hx hby hml hown hnm hZ X0 e0 hret hlk => ?_
 have N0 := Fr.nil n0; have H := @hb c _ hby
 refine g_getS X0 hx hZ hown (tw101 hw) e0 S__assertionsDisabled (H d23_0) fun T3 X3 e3 => ?_
 refine g_ifYes X3 hx 28 (H d23_3) (feq (by decide : ¬ (i1 = i0))).2 (by decide) (by decide) ?_
 refine g_iloadN X3 hx (H d23_28) rfl ?_
 refine g_iconst X3 hx i1 (H d23_29) rfl ?_
 refine g_ishl X3 hx (H d23_30) ?_
 rw [show (i0 <<< (i1 &&& 31)) = i0 from by decide]
 show Gs p e below _ T3 m 31 #[rv a1, iv i0, iv p2] [(.int i0)]
 refine g_istoreN X3 hx (H d23_31) (l' := #[rv a1, iv i0, iv p2]) rfl ?_
 refine g_aloadN X3 hx (H d23_32) rfl rfl ?_
 refine g_iloadN X3 hx (H d23_33) rfl ?_
 refine g_iinc X3 hx (H d23_34) rfl (l' := #[rv a1, iv i1, iv p2]) rfl ?_
 refine g_iloadN X3 hx (H d23_37) rfl ?_
 refine g_getS X3 hx hZ hown (tw102 hw) e3 S_HI_BYTE_SHIFT (H d23_38) fun T4 X4 e4 => ?_
 refine g_ishr X4 hx (H d23_41) ?_
 refine g_i2b X4 hx (H d23_42) ?_
 obtain ⟨clq5, Arq5, caq5, saq5, naq5, haq5, gaq5⟩ := id V_a1
 have inq5 : ¬ (i0 < 0 ∨ clq5.slots.size ≤ (i0).toNatClampNeg) := inb_of saq5 ⟨by decide, by decide⟩
 refine g_stB X4 hx hZ e4 Arq5 inq5 (H d23_43) fun T6 h6 X6 e6 W6 => ?_
 have K6 : Keep h0 h6 [a1] := (Keep.refl h0 [a1]).wr W6 (Or.inl (List.mem_of_getElem? (i := 0) rfl))
 have V6 : Arv Z h6 a1 kb .byte i4 [(.int (nar .byte ((p2 >>> (i0 &&& 31)).toInt8.toInt32))), (.int y1), (.int y2), (.int y3)] (.int i0) := Arv.set Arq5 caq5 saq5 naq5 haq5 gaq5 (fits_nar_byte _) W6 0 rfl (Nat.le_of_ble_eq_true rfl)
 have N6 := Fr.snoc X6 N0 g_a1
 refine g_aloadN X6 hx (H d23_44) rfl rfl ?_
 refine g_iloadN X6 hx (H d23_45) rfl ?_
 refine g_iloadN X6 hx (H d23_46) rfl ?_
 have f_7 := (staKeepA S_LO_BYTE_SHIFT K6 (Arv.arn V_a1))
 refine g_getS X6 hx hZ hown (tw103 hw) e6 f_7 (H d23_47) fun T8 X8 e8 => ?_
 refine g_ishr X8 hx (H d23_50) ?_
 refine g_i2b X8 hx (H d23_51) ?_
 obtain ⟨clq9, Arq9, caq9, saq9, naq9, haq9, gaq9⟩ := id V6
 have inq9 : ¬ (i1 < 0 ∨ clq9.slots.size ≤ (i1).toNatClampNeg) := inb_of saq9 ⟨by decide, by decide⟩
 refine g_stB X8 hx hZ e8 Arq9 inq9 (H d23_52) fun T10 h10 X10 e10 W10 => ?_
 have K10 : Keep h0 h10 [a1] := K6.wr W10 (Or.inl (List.mem_of_getElem? (i := 0) rfl))
 have V10 : Arv Z h10 a1 kb .byte i4 [(.int (nar .byte ((p2 >>> (i0 &&& 31)).toInt8.toInt32))), (.int (nar .byte ((p2 >>> (i8 &&& 31)).toInt8.toInt32))), (.int y2), (.int y3)] (.int i0) := Arv.set Arq9 caq9 saq9 naq9 haq9 gaq9 (fits_nar_byte _) W10 1 rfl (Nat.le_of_ble_eq_true rfl)
 have N10 := Fr.snoc X10 N6 g_a1
 exact Go.ret (Q := Qm2320_o Z a1 p2 y0 y1 y2 y3 kb h0 n0) X10 (v := none) (fun _ => rfl) hlk (fun fs hr => X10.returnOut hx hret (H d23_53) hr) e10 ⟨rfl, N10, K10, V10⟩ (by decide) (by decide)
def Qm2420_o (Z : State) (a1 : Addr) (y0 : Int32) (y1 : Int32) (y2 : Int32) (y3 : Int32) (kb : ClassId) (h0 : Heap) (n0 : Nat) (v : Option Value) (h : Heap) (L : List Loc) : Prop := v = some (.int (nar .char ((((y0 &&& i255) <<< (i0 &&& 31)) ||| ((y1 &&& i255) <<< (i8 &&& 31))).toUInt32.toUInt16.toUInt32.toInt32))) ∧ Fr n0 L ∧ h = h0
theorem rm2420_o (l : Launch) (Z : State) (a0 : Array Value) (hw : Hw a0 Z) (a1 : Addr) (y0 : Int32) (y1 : Int32) (y2 : Int32) (y3 : Int32) (kb : ClassId) (h0 : Heap) (n0 : Nat) (Z0 : n0 ≤ h0.size) (V_a1 : Arv Z h0 a1 kb .byte i4 [(.int y0), (.int y1), (.int y2), (.int y3)] (.int i0)) (S__assertionsDisabled : Sta Z h0 s1_ s2_ "Z" (.int i1)) (S_HI_BYTE_SHIFT : Sta Z h0 s1_ s3_ "I" (.int i0)) (S_LO_BYTE_SHIFT : Sta Z h0 s1_ s4_ "I" (.int i8)) :
  Met l Z h0 yy10 jdk_52_method_5_code 2 (some .char) (rmk 0 0 0 0) #[(.ref a1), (.int i0)] (Qm2420_o Z a1 y0 y1 y2 y3 kb h0 n0) := by
 refine enter (plainFor_of_name pn_24) (fun m => ef_24 m a1 i0) fun p e s m below meth c s₁ hx hby hml hown hnm hZ X0 e0 hret hlk => ?_
 have N0 := Fr.nil n0; have H := @hb c _ hby
 refine g_getS X0 hx hZ hown (tw101 hw) e0 S__assertionsDisabled (H d24_0) fun T2 X2 e2 => ?_
 refine g_ifYes X2 hx 28 (H d24_3) (feq (by decide : ¬ (i1 = i0))).2 (by decide) (by decide) ?_
 refine g_iloadN X2 hx (H d24_28) rfl ?_
 refine g_iconst X2 hx i1 (H d24_29) rfl ?_
 refine g_ishl X2 hx (H d24_30) ?_
 rw [show (i0 <<< (i1 &&& 31)) = i0 from by decide]
 show Gs p e below _ T2 m 31 #[rv a1, iv i0] [(.int i0)]
 refine g_istoreN X2 hx (H d24_31) (l' := #[rv a1, iv i0]) rfl ?_
 refine g_aloadN X2 hx (H d24_32) rfl rfl ?_
 refine g_iloadN X2 hx (H d24_33) rfl ?_
 refine g_iinc X2 hx (H d24_34) rfl (l' := #[rv a1, iv i1]) rfl ?_
 obtain ⟨clq3, Arq3, caq3, saq3, naq3, haq3, gaq3⟩ := id V_a1
 have inq3 : ¬ (i0 < 0 ∨ clq3.slots.size ≤ (i0).toNatClampNeg) := inb_of saq3 ⟨by decide, by decide⟩
 have atq3 : clq3.slots[(i0).toNatClampNeg]? = some (.int y0) := haq3.at inq3 rfl
 refine g_baload X2 hx hZ e2 Arq3 inq3 atq3 (H d24_37) ?_
 refine g_sipush X2 hx i255 (H d24_38) rfl ?_
 refine g_iand X2 hx (H d24_41) ?_
 refine g_getS X2 hx hZ hown (tw102 hw) e2 S_HI_BYTE_SHIFT (H d24_42) fun T4 X4 e4 => ?_
 refine g_ishl X4 hx (H d24_45) ?_
 refine g_aloadN X4 hx (H d24_46) rfl rfl ?_
 refine g_iloadN X4 hx (H d24_47) rfl ?_
 obtain ⟨clq5, Arq5, caq5, saq5, naq5, haq5, gaq5⟩ := id V_a1
 have inq5 : ¬ (i1 < 0 ∨ clq5.slots.size ≤ (i1).toNatClampNeg) := inb_of saq5 ⟨by decide, by decide⟩
 have atq5 : clq5.slots[(i1).toNatClampNeg]? = some (.int y1) := haq5.at inq5 rfl
 refine g_baload X4 hx hZ e4 Arq5 inq5 atq5 (H d24_48) ?_
 refine g_sipush X4 hx i255 (H d24_49) rfl ?_
 refine g_iand X4 hx (H d24_52) ?_
 refine g_getS X4 hx hZ hown (tw103 hw) e4 S_LO_BYTE_SHIFT (H d24_53) fun T6 X6 e6 => ?_
 refine g_ishl X6 hx (H d24_56) ?_
 refine g_ior X6 hx (H d24_57) ?_
 refine g_i2c X6 hx (H d24_58) ?_
 exact Go.ret (Q := Qm2420_o Z a1 y0 y1 y2 y3 kb h0 n0) X6 (v := some (.int (nar .char ((((y0 &&& i255) <<< (i0 &&& 31)) ||| ((y1 &&& i255) <<< (i8 &&& 31))).toUInt32.toUInt16.toUInt32.toInt32)))) (fun h => by rw [hret] at h; cases h) hlk (fun fs hr => retN X6 hx (t := .char) hret (by simp) (H d24_59) hr) e6 ⟨rfl, N0, rfl⟩ (by decide) (by decide)
def Qm2321_o (Z : State) (a1 : Addr) (p2 : Int32) (y0 : Int32) (y1 : Int32) (y2 : Int32) (y3 : Int32) (kb : ClassId) (h0 : Heap) (n0 : Nat) (v : Option Value) (h : Heap) (L : List Loc) : Prop := v = none ∧ Fr n0 L ∧ Keep h0 h [a1] ∧ Arv Z h a1 kb .byte i4 [(.int y0), (.int y1), (.int (nar .byte ((p2 >>> (i0 &&& 31)).toInt8.toInt32))), (.int (nar .byte ((p2 >>> (i8 &&& 31)).toInt8.toInt32)))] (.int i0)
theorem rm2321_o (l : Launch) (Z : State) (a0 : Array Value) (hw : Hw a0 Z) (a1 : Addr) (p2 : Int32) (y0 : Int32) (y1 : Int32) (y2 : Int32) (y3 : Int32) (kb : ClassId) (h0 : Heap) (n0 : Nat) (Z0 : n0 ≤ h0.size) (V_a1 : Arv Z h0 a1 kb .byte i4 [(.int y0), (.int y1), (.int y2), (.int y3)] (.int i0)) (S__assertionsDisabled : Sta Z h0 s1_ s2_ "Z" (.int i1)) (S_HI_BYTE_SHIFT : Sta Z h0 s1_ s3_ "I" (.int i0)) (S_LO_BYTE_SHIFT : Sta Z h0 s1_ s4_ "I" (.int i8)) (g_a1 : n0 ≤ a1) :
  Met l Z h0 yy9 jdk_52_method_4_code 3 none (rmk 0 0 0 0) #[(.ref a1), (.int i1), (.int p2)] (Qm2321_o Z a1 p2 y0 y1 y2 y3 kb h0 n0) := by
 refine enter (plainFor_of_name pn_23) (fun m => ef_23 m a1 i1 p2) fun p e s m below meth c s₁ hx hby hml hown hnm hZ X0 e0 hret hlk => ?_
 have N0 := Fr.nil n0; have H := @hb c _ hby
 refine g_getS X0 hx hZ hown (tw101 hw) e0 S__assertionsDisabled (H d23_0) fun T3 X3 e3 => ?_
 refine g_ifYes X3 hx 28 (H d23_3) (feq (by decide : ¬ (i1 = i0))).2 (by decide) (by decide) ?_
 refine g_iloadN X3 hx (H d23_28) rfl ?_
 refine g_iconst X3 hx i1 (H d23_29) rfl ?_
 refine g_ishl X3 hx (H d23_30) ?_
 rw [show (i1 <<< (i1 &&& 31)) = i2 from by decide]
 show Gs p e below _ T3 m 31 #[rv a1, iv i1, iv p2] [(.int i2)]
 refine g_istoreN X3 hx (H d23_31) (l' := #[rv a1, iv i2, iv p2]) rfl ?_
 refine g_aloadN X3 hx (H d23_32) rfl rfl ?_
 refine g_iloadN X3 hx (H d23_33) rfl ?_
 refine g_iinc X3 hx (H d23_34) rfl (l' := #[rv a1, iv i3, iv p2]) rfl ?_
 refine g_iloadN X3 hx (H d23_37) rfl ?_
 refine g_getS X3 hx hZ hown (tw102 hw) e3 S_HI_BYTE_SHIFT (H d23_38) fun T4 X4 e4 => ?_
 refine g_ishr X4 hx (H d23_41) ?_
 refine g_i2b X4 hx (H d23_42) ?_
 obtain ⟨clq5, Arq5, caq5, saq5, naq5, haq5, gaq5⟩ := id V_a1
 have inq5 : ¬ (i2 < 0 ∨ clq5.slots.size ≤ (i2).toNatClampNeg) := inb_of saq5 ⟨by decide, by decide⟩
 refine g_stB X4 hx hZ e4 Arq5 inq5 (H d23_43) fun T6 h6 X6 e6 W6 => ?_
 have K6 : Keep h0 h6 [a1] := (Keep.refl h0 [a1]).wr W6 (Or.inl (List.mem_of_getElem? (i := 0) rfl))
 have V6 : Arv Z h6 a1 kb .byte i4 [(.int y0), (.int y1), (.int (nar .byte ((p2 >>> (i0 &&& 31)).toInt8.toInt32))), (.int y3)] (.int i0) := Arv.set Arq5 caq5 saq5 naq5 haq5 gaq5 (fits_nar_byte _) W6 2 rfl (Nat.le_of_ble_eq_true rfl)
 have N6 := Fr.snoc X6 N0 g_a1
 refine g_aloadN X6 hx (H d23_44) rfl rfl ?_
 refine g_iloadN X6 hx (H d23_45) rfl ?_
 refine g_iloadN X6 hx (H d23_46) rfl ?_
 have f_7 := (staKeepA S_LO_BYTE_SHIFT K6 (Arv.arn V_a1))
 refine g_getS X6 hx hZ hown (tw103 hw) e6 f_7 (H d23_47) fun T8 X8 e8 => ?_
 refine g_ishr X8 hx (H d23_50) ?_
 refine g_i2b X8 hx (H d23_51) ?_
 obtain ⟨clq9, Arq9, caq9, saq9, naq9, haq9, gaq9⟩ := id V6
 have inq9 : ¬ (i3 < 0 ∨ clq9.slots.size ≤ (i3).toNatClampNeg) := inb_of saq9 ⟨by decide, by decide⟩
 refine g_stB X8 hx hZ e8 Arq9 inq9 (H d23_52) fun T10 h10 X10 e10 W10 => ?_
 have K10 : Keep h0 h10 [a1] := K6.wr W10 (Or.inl (List.mem_of_getElem? (i := 0) rfl))
 have V10 : Arv Z h10 a1 kb .byte i4 [(.int y0), (.int y1), (.int (nar .byte ((p2 >>> (i0 &&& 31)).toInt8.toInt32))), (.int (nar .byte ((p2 >>> (i8 &&& 31)).toInt8.toInt32)))] (.int i0) := Arv.set Arq9 caq9 saq9 naq9 haq9 gaq9 (fits_nar_byte _) W10 3 rfl (Nat.le_of_ble_eq_true rfl)
 have N10 := Fr.snoc X10 N6 g_a1
 exact Go.ret (Q := Qm2321_o Z a1 p2 y0 y1 y2 y3 kb h0 n0) X10 (v := none) (fun _ => rfl) hlk (fun fs hr => X10.returnOut hx hret (H d23_53) hr) e10 ⟨rfl, N10, K10, V10⟩ (by decide) (by decide)
def Qm2421_o (Z : State) (a1 : Addr) (y0 : Int32) (y1 : Int32) (y2 : Int32) (y3 : Int32) (kb : ClassId) (h0 : Heap) (n0 : Nat) (v : Option Value) (h : Heap) (L : List Loc) : Prop := v = some (.int (nar .char ((((y2 &&& i255) <<< (i0 &&& 31)) ||| ((y3 &&& i255) <<< (i8 &&& 31))).toUInt32.toUInt16.toUInt32.toInt32))) ∧ Fr n0 L ∧ h = h0
theorem rm2421_o (l : Launch) (Z : State) (a0 : Array Value) (hw : Hw a0 Z) (a1 : Addr) (y0 : Int32) (y1 : Int32) (y2 : Int32) (y3 : Int32) (kb : ClassId) (h0 : Heap) (n0 : Nat) (Z0 : n0 ≤ h0.size) (V_a1 : Arv Z h0 a1 kb .byte i4 [(.int y0), (.int y1), (.int y2), (.int y3)] (.int i0)) (S__assertionsDisabled : Sta Z h0 s1_ s2_ "Z" (.int i1)) (S_HI_BYTE_SHIFT : Sta Z h0 s1_ s3_ "I" (.int i0)) (S_LO_BYTE_SHIFT : Sta Z h0 s1_ s4_ "I" (.int i8)) :
  Met l Z h0 yy10 jdk_52_method_5_code 2 (some .char) (rmk 0 0 0 0) #[(.ref a1), (.int i1)] (Qm2421_o Z a1 y0 y1 y2 y3 kb h0 n0) := by
 refine enter (plainFor_of_name pn_24) (fun m => ef_24 m a1 i1) fun p e s m below meth c s₁ hx hby hml hown hnm hZ X0 e0 hret hlk => ?_
 have N0 := Fr.nil n0; have H := @hb c _ hby
 refine g_getS X0 hx hZ hown (tw101 hw) e0 S__assertionsDisabled (H d24_0) fun T2 X2 e2 => ?_
 refine g_ifYes X2 hx 28 (H d24_3) (feq (by decide : ¬ (i1 = i0))).2 (by decide) (by decide) ?_
 refine g_iloadN X2 hx (H d24_28) rfl ?_
 refine g_iconst X2 hx i1 (H d24_29) rfl ?_
 refine g_ishl X2 hx (H d24_30) ?_
 rw [show (i1 <<< (i1 &&& 31)) = i2 from by decide]
 show Gs p e below _ T2 m 31 #[rv a1, iv i1] [(.int i2)]
 refine g_istoreN X2 hx (H d24_31) (l' := #[rv a1, iv i2]) rfl ?_
 refine g_aloadN X2 hx (H d24_32) rfl rfl ?_
 refine g_iloadN X2 hx (H d24_33) rfl ?_
 refine g_iinc X2 hx (H d24_34) rfl (l' := #[rv a1, iv i3]) rfl ?_
 obtain ⟨clq3, Arq3, caq3, saq3, naq3, haq3, gaq3⟩ := id V_a1
 have inq3 : ¬ (i2 < 0 ∨ clq3.slots.size ≤ (i2).toNatClampNeg) := inb_of saq3 ⟨by decide, by decide⟩
 have atq3 : clq3.slots[(i2).toNatClampNeg]? = some (.int y2) := haq3.at inq3 rfl
 refine g_baload X2 hx hZ e2 Arq3 inq3 atq3 (H d24_37) ?_
 refine g_sipush X2 hx i255 (H d24_38) rfl ?_
 refine g_iand X2 hx (H d24_41) ?_
 refine g_getS X2 hx hZ hown (tw102 hw) e2 S_HI_BYTE_SHIFT (H d24_42) fun T4 X4 e4 => ?_
 refine g_ishl X4 hx (H d24_45) ?_
 refine g_aloadN X4 hx (H d24_46) rfl rfl ?_
 refine g_iloadN X4 hx (H d24_47) rfl ?_
 obtain ⟨clq5, Arq5, caq5, saq5, naq5, haq5, gaq5⟩ := id V_a1
 have inq5 : ¬ (i3 < 0 ∨ clq5.slots.size ≤ (i3).toNatClampNeg) := inb_of saq5 ⟨by decide, by decide⟩
 have atq5 : clq5.slots[(i3).toNatClampNeg]? = some (.int y3) := haq5.at inq5 rfl
 refine g_baload X4 hx hZ e4 Arq5 inq5 atq5 (H d24_48) ?_
 refine g_sipush X4 hx i255 (H d24_49) rfl ?_
 refine g_iand X4 hx (H d24_52) ?_
 refine g_getS X4 hx hZ hown (tw103 hw) e4 S_LO_BYTE_SHIFT (H d24_53) fun T6 X6 e6 => ?_
 refine g_ishl X6 hx (H d24_56) ?_
 refine g_ior X6 hx (H d24_57) ?_
 refine g_i2c X6 hx (H d24_58) ?_
 exact Go.ret (Q := Qm2421_o Z a1 y0 y1 y2 y3 kb h0 n0) X6 (v := some (.int (nar .char ((((y2 &&& i255) <<< (i0 &&& 31)) ||| ((y3 &&& i255) <<< (i8 &&& 31))).toUInt32.toUInt16.toUInt32.toInt32)))) (fun h => by rw [hret] at h; cases h) hlk (fun fs hr => retN X6 hx (t := .char) hret (by simp) (H d24_59) hr) e6 ⟨rfl, N0, rfl⟩ (by decide) (by decide)
def Qm202_o (Z : State) (a1 : Addr) (v0 : Int32) (v1 : Int32) (kc : ClassId) (h0 : Heap) (n0 : Nat) (v : Option Value) (h : Heap) (L : List Loc) : Prop := ∃ (b2_2 : Addr) (k2_2 : ClassId), v = some (.ref b2_2) ∧ Fr n0 L ∧ Keep h0 h [] ∧ n0 ≤ b2_2 ∧ h0.size ≤ b2_2 ∧ Arv Z h b2_2 k2_2 .byte i4 [(.int (nar .byte ((v0 >>> (i0 &&& 31)).toInt8.toInt32))), (.int (nar .byte ((v0 >>> (i8 &&& 31)).toInt8.toInt32))), (.int (nar .byte ((v1 >>> (i0 &&& 31)).toInt8.toInt32))), (.int (nar .byte ((v1 >>> (i8 &&& 31)).toInt8.toInt32)))] (.int i0)
theorem rm202_o (l : Launch) (Z : State) (a0 : Array Value) (hw : Hw a0 Z) (a1 : Addr) (v0 : Int32) (v1 : Int32) (kc : ClassId) (h0 : Heap) (n0 : Nat) (Z0 : n0 ≤ h0.size) (V_a1 : Arv Z h0 a1 kc .char i2 [(.int v0), (.int v1)] (.int i0)) (hb0 : 0 ≤ v0.toInt ∧ v0.toInt ≤ 65535) (hb1 : 0 ≤ v1.toInt ∧ v1.toInt ≤ 65535) (S__assertionsDisabled : Sta Z h0 s1_ s2_ "Z" (.int i1)) (S_HI_BYTE_SHIFT : Sta Z h0 s1_ s3_ "I" (.int i0)) (S_LO_BYTE_SHIFT : Sta Z h0 s1_ s4_ "I" (.int i8)) :
  Met l Z h0 yy11 jdk_52_method_14_code 5 (some (.array .byte)) (rmk 2 1 4 24) #[(.ref a1), (.int i0), (.int i2)] (Qm202_o Z a1 v0 v1 kc h0 n0) := by
 refine enter (plainFor_of_name pn_20) (fun m => ef_20 m a1 i0 i2) fun p e s m below meth c s₁ hx hby hml hown hnm hZ X0 e0 hret hlk => ?_
 have N0 := Fr.nil n0; have H := @hb c _ hby
 refine g_iloadN X0 hx (H d20_0) rfl ?_
 refine g_static X0 hx hZ (rm212_o l Z a0 hw  h0 n0 Z0 ) hown (tw91 hw) (tw92 hw) (tw74 hw) (tw93 hw) (by decide) 0 (by decide) (by decide) (by rw [hml]; rfl) [(.int i2)] [] (lenOf pd_1 rfl) (Nat.le_of_eq rfl) e0 (by decide) (by decide) rfl rfl (H d20_1) fun v2 T2 Lc2 X2 hQ2 => ?_
 obtain ⟨b2_2, k2_2, rfl, N2q, Kc2, P2_0, P2_1, P2_2⟩ := hQ2
 have K2 : Keep h0 T2.heap [] := (Keep.refl h0 []).trans Kc2 all0
 have g_b2_2 := P2_0
 have sz_b2_2 : h0.size ≤ b2_2 := P2_1
 have N2 := Fr.app N0 N2q
 show Gs p e below _ T2 m 4 #[rv a1, iv i0, iv i2, .unset, .unset] [(.ref b2_2)]
 refine g_astoreN X2 hx (H d20_4) rfl (l' := #[rv a1, iv i0, iv i2, rv b2_2, .unset]) rfl ?_
 refine g_iconst X2 hx i0 (H d20_5) rfl ?_
 refine g_istore X2 hx (H d20_6) (l' := #[rv a1, iv i0, iv i2, rv b2_2, iv i0]) rfl ?_
 refine g_iload X2 hx (H d20_8) rfl ?_
 refine g_iloadN X2 hx (H d20_10) rfl ?_
 refine g_icmpNo X2 hx (H d20_11) (tlt (by decide : (i0 < i2))).2.1 ?_
 refine g_aloadN X2 hx (H d20_14) rfl rfl ?_
 refine g_iload X2 hx (H d20_15) rfl ?_
 refine g_aloadN X2 hx (H d20_17) rfl rfl ?_
 refine g_iloadN X2 hx (H d20_18) rfl ?_
 have f_3 := (V_a1.keep K2 nin0)
 obtain ⟨clq4, Arq4, caq4, saq4, naq4, haq4, gaq4⟩ := id f_3
 have inq4 : ¬ (i0 < 0 ∨ clq4.slots.size ≤ (i0).toNatClampNeg) := inb_of saq4 ⟨by decide, by decide⟩
 have atq4 : clq4.slots[(i0).toNatClampNeg]? = some (.int v0) := haq4.at inq4 rfl
 refine g_caload X2 hx hZ rfl Arq4 inq4 atq4 (H d20_19) ?_
 have f_5 := (staKeep0 S__assertionsDisabled K2)
 have f_6 := (staKeep0 S_HI_BYTE_SHIFT K2)
 have f_7 := (staKeep0 S_LO_BYTE_SHIFT K2)
 refine g_static X2 hx hZ (rm2320_o l Z a0 hw b2_2 v0 i0 i0 i0 i0 k2_2 T2.heap n0 (Nat.le_trans Z0 K2.1) P2_2 f_5 f_6 f_7 g_b2_2) hown (tw98 hw) (tw99 hw) (tw74 hw) (tw100 hw) (by decide) 0 (by decide) (by decide) (by rw [hml]; rfl) [(.ref b2_2), (.int i0), (.int v0)] [] (lenOf pd_2 rfl) (Nat.le_of_eq rfl) rfl (by decide) (by decide) rfl rfl (H d20_20) fun v8 T8 Lc8 X8 hQ8 => ?_
 obtain ⟨rfl, N8q, Kc8, P8_0⟩ := hQ8
 have K8 : Keep h0 T8.heap [] := K2.trans Kc8 (allS (Or.inr sz_b2_2) all0)
 have N8 := Fr.app N2 N8q
 show Gs p e below _ T8 m 23 #[rv a1, iv i0, iv i2, rv b2_2, iv i0] []
 refine g_iinc X8 hx (H d20_23) rfl (l' := #[rv a1, iv i1, iv i2, rv b2_2, iv i0]) rfl ?_
 refine g_iinc X8 hx (H d20_26) rfl (l' := #[rv a1, iv i1, iv i2, rv b2_2, iv i1]) rfl ?_
 refine g_goto X8 hx 8 (H d20_29) (by decide) (by decide) ?_
 refine g_iload X8 hx (H d20_8) rfl ?_
 refine g_iloadN X8 hx (H d20_10) rfl ?_
 refine g_icmpNo X8 hx (H d20_11) (tlt (by decide : (i1 < i2))).2.1 ?_
 refine g_aloadN X8 hx (H d20_14) rfl rfl ?_
 refine g_iload X8 hx (H d20_15) rfl ?_
 refine g_aloadN X8 hx (H d20_17) rfl rfl ?_
 refine g_iloadN X8 hx (H d20_18) rfl ?_
 have f_9 := (f_3.keep Kc8 (ninS (Nat.ne_of_lt (Nat.lt_of_lt_of_le V_a1.lt sz_b2_2)) nin0))
 obtain ⟨clq10, Arq10, caq10, saq10, naq10, haq10, gaq10⟩ := id f_9
 have inq10 : ¬ (i1 < 0 ∨ clq10.slots.size ≤ (i1).toNatClampNeg) := inb_of saq10 ⟨by decide, by decide⟩
 have atq10 : clq10.slots[(i1).toNatClampNeg]? = some (.int v1) := haq10.at inq10 rfl
 refine g_caload X8 hx hZ rfl Arq10 inq10 atq10 (H d20_19) ?_
 have f_11 := (staKeepA f_5 Kc8 (Arv.arn P2_2))
 have f_12 := (staKeepA f_6 Kc8 (Arv.arn P2_2))
 have f_13 := (staKeepA f_7 Kc8 (Arv.arn P2_2))
 refine g_static X8 hx hZ (rm2321_o l Z a0 hw b2_2 v1 (nar .byte ((v0 >>> (i0 &&& 31)).toInt8.toInt32)) (nar .byte ((v0 >>> (i8 &&& 31)).toInt8.toInt32)) i0 i0 k2_2 T8.heap n0 (Nat.le_trans Z0 K8.1) P8_0 f_11 f_12 f_13 g_b2_2) hown (tw98 hw) (tw99 hw) (tw74 hw) (tw100 hw) (by decide) 0 (by decide) (by decide) (by rw [hml]; rfl) [(.ref b2_2), (.int i1), (.int v1)] [] (lenOf pd_2 rfl) (Nat.le_of_eq rfl) rfl (by decide) (by decide) rfl rfl (H d20_20) fun v14 T14 Lc14 X14 hQ14 => ?_
 obtain ⟨rfl, N14q, Kc14, P14_0⟩ := hQ14
 have K14 : Keep h0 T14.heap [] := K8.trans Kc14 (allS (Or.inr sz_b2_2) all0)
 have N14 := Fr.app N8 N14q
 show Gs p e below _ T14 m 23 #[rv a1, iv i1, iv i2, rv b2_2, iv i1] []
 refine g_iinc X14 hx (H d20_23) rfl (l' := #[rv a1, iv i2, iv i2, rv b2_2, iv i1]) rfl ?_
 refine g_iinc X14 hx (H d20_26) rfl (l' := #[rv a1, iv i2, iv i2, rv b2_2, iv i2]) rfl ?_
 refine g_goto X14 hx 8 (H d20_29) (by decide) (by decide) ?_
 refine g_iload X14 hx (H d20_8) rfl ?_
 refine g_iloadN X14 hx (H d20_10) rfl ?_
 refine g_icmpYes X14 hx 32 (H d20_11) (flt (by decide : ¬ (i2 < i2))).2.1 (by decide) (by decide) ?_
 refine g_aloadN X14 hx (H d20_32) rfl rfl ?_
 exact Go.ret (Q := Qm202_o Z a1 v0 v1 kc h0 n0) X14 (v := some (.ref b2_2)) (fun h => by rw [hret] at h; cases h) hlk (fun fs hr => retOut X14 hx hret rfl (Or.inr (Or.inr (Or.inr (Or.inr ⟨rfl, rfl, rfl⟩)))) (H d20_33) hr) rfl ⟨b2_2, k2_2, rfl, N14, K14, g_b2_2, sz_b2_2, P14_0⟩ (by decide) (by decide)
def Qm162_t (Z : State) (a1 : Addr) (a2 : Addr) (v0 : Int32) (v1 : Int32) (kc : ClassId) (kb : ClassId) (h0 : Heap) (n0 : Nat) (v : Option Value) (h : Heap) (L : List Loc) : Prop := v = some (.int i0) ∧ Fr n0 L ∧ h = h0
theorem rm162_t (l : Launch) (Z : State) (a0 : Array Value) (hw : Hw a0 Z) (a1 : Addr) (a2 : Addr) (v0 : Int32) (v1 : Int32) (kc : ClassId) (kb : ClassId) (h0 : Heap) (n0 : Nat) (Z0 : n0 ≤ h0.size) (V_a1 : Arv Z h0 a1 kc .char i2 [(.int v0), (.int v1)] (.int i0)) (hb0 : 0 ≤ v0.toInt ∧ v0.toInt ≤ 65535) (hb1 : 0 ≤ v1.toInt ∧ v1.toInt ≤ 65535) (V_a2 : Arv Z h0 a2 kb .byte i2 [(.int i0), (.int i0)] (.int i0)) (g_a2 : n0 ≤ a2) (hne_a1_a2 : ¬ (a1 = a2)) (hd1 : i255 < v0) :
  Met l Z h0 yy12 jdk_52_method_21_code 7 (some .int) (rmk 0 0 0 0) #[(.ref a1), (.int i0), (.ref a2), (.int i0), (.int i2)] (Qm162_t Z a1 a2 v0 v1 kc kb h0 n0) := by
 refine enter (plainFor_of_name pn_16) (fun m => ef_16 m a1 i0 a2 i0 i2) fun p e s m below meth c s₁ hx hby hml hown hnm hZ X0 e0 hret hlk => ?_
 have N0 := Fr.nil n0; have H := @hb c _ hby
 refine g_iconst X0 hx i0 (H d16_0) rfl ?_
 refine g_istore X0 hx (H d16_1) (l' := #[rv a1, iv i0, rv a2, iv i0, iv i2, iv i0, .unset]) rfl ?_
 refine g_iload X0 hx (H d16_3) rfl ?_
 refine g_iload X0 hx (H d16_5) rfl ?_
 refine g_icmpNo X0 hx (H d16_7) (tlt (by decide : (i0 < i2))).2.1 ?_
 refine g_aloadN X0 hx (H d16_10) rfl rfl ?_
 refine g_iloadN X0 hx (H d16_11) rfl ?_
 obtain ⟨clq3, Arq3, caq3, saq3, naq3, haq3, gaq3⟩ := id V_a1
 have inq3 : ¬ (i0 < 0 ∨ clq3.slots.size ≤ (i0).toNatClampNeg) := inb_of saq3 ⟨by decide, by decide⟩
 have atq3 : clq3.slots[(i0).toNatClampNeg]? = some (.int v0) := haq3.at inq3 rfl
 refine g_caload X0 hx hZ e0 Arq3 inq3 atq3 (H d16_12) ?_
 refine g_istore X0 hx (H d16_13) (l' := #[rv a1, iv i0, rv a2, iv i0, iv i2, iv i0, iv v0]) rfl ?_
 refine g_iload X0 hx (H d16_15) rfl ?_
 refine g_sipush X0 hx i255 (H d16_17) rfl ?_
 refine g_icmpNo X0 hx (H d16_20) (tlt hd1).2.2.2 ?_
 refine g_iload X0 hx (H d16_23) rfl ?_
 exact Go.ret (Q := Qm162_t Z a1 a2 v0 v1 kc kb h0 n0) X0 (v := some (.int i0)) (fun h => by rw [hret] at h; cases h) hlk (fun fs hr => retOut X0 hx hret rfl (Or.inl ⟨rfl, Or.inl rfl, _, rfl⟩) (H d16_25) hr) e0 ⟨rfl, N0, rfl⟩ (by decide) (by decide)
def Qm162_ft (Z : State) (a1 : Addr) (a2 : Addr) (v0 : Int32) (v1 : Int32) (kc : ClassId) (kb : ClassId) (h0 : Heap) (n0 : Nat) (v : Option Value) (h : Heap) (L : List Loc) : Prop := v = some (.int i1) ∧ Fr n0 L ∧ Keep h0 h [a2] ∧ Arn Z h a2 .byte i2
theorem rm162_ft (l : Launch) (Z : State) (a0 : Array Value) (hw : Hw a0 Z) (a1 : Addr) (a2 : Addr) (v0 : Int32) (v1 : Int32) (kc : ClassId) (kb : ClassId) (h0 : Heap) (n0 : Nat) (Z0 : n0 ≤ h0.size) (V_a1 : Arv Z h0 a1 kc .char i2 [(.int v0), (.int v1)] (.int i0)) (hb0 : 0 ≤ v0.toInt ∧ v0.toInt ≤ 65535) (hb1 : 0 ≤ v1.toInt ∧ v1.toInt ≤ 65535) (V_a2 : Arv Z h0 a2 kb .byte i2 [(.int i0), (.int i0)] (.int i0)) (g_a2 : n0 ≤ a2) (hne_a1_a2 : ¬ (a1 = a2)) (hd1 : ¬ (i255 < v0)) (hd2 : i255 < v1) :
  Met l Z h0 yy12 jdk_52_method_21_code 7 (some .int) (rmk 0 0 0 0) #[(.ref a1), (.int i0), (.ref a2), (.int i0), (.int i2)] (Qm162_ft Z a1 a2 v0 v1 kc kb h0 n0) := by
 refine enter (plainFor_of_name pn_16) (fun m => ef_16 m a1 i0 a2 i0 i2) fun p e s m below meth c s₁ hx hby hml hown hnm hZ X0 e0 hret hlk => ?_
 have N0 := Fr.nil n0; have H := @hb c _ hby
 refine g_iconst X0 hx i0 (H d16_0) rfl ?_
 refine g_istore X0 hx (H d16_1) (l' := #[rv a1, iv i0, rv a2, iv i0, iv i2, iv i0, .unset]) rfl ?_
 refine g_iload X0 hx (H d16_3) rfl ?_
 refine g_iload X0 hx (H d16_5) rfl ?_
 refine g_icmpNo X0 hx (H d16_7) (tlt (by decide : (i0 < i2))).2.1 ?_
 refine g_aloadN X0 hx (H d16_10) rfl rfl ?_
 refine g_iloadN X0 hx (H d16_11) rfl ?_
 obtain ⟨clq3, Arq3, caq3, saq3, naq3, haq3, gaq3⟩ := id V_a1
 have inq3 : ¬ (i0 < 0 ∨ clq3.slots.size ≤ (i0).toNatClampNeg) := inb_of saq3 ⟨by decide, by decide⟩
 have atq3 : clq3.slots[(i0).toNatClampNeg]? = some (.int v0) := haq3.at inq3 rfl
 refine g_caload X0 hx hZ e0 Arq3 inq3 atq3 (H d16_12) ?_
 refine g_istore X0 hx (H d16_13) (l' := #[rv a1, iv i0, rv a2, iv i0, iv i2, iv i0, iv v0]) rfl ?_
 refine g_iload X0 hx (H d16_15) rfl ?_
 refine g_sipush X0 hx i255 (H d16_17) rfl ?_
 refine g_icmpYes X0 hx 26 (H d16_20) (flt hd1).2.2.2 (by decide) (by decide) ?_
 refine g_aloadN X0 hx (H d16_26) rfl rfl ?_
 refine g_iloadN X0 hx (H d16_27) rfl ?_
 refine g_iload X0 hx (H d16_28) rfl ?_
 refine g_i2b X0 hx (H d16_30) ?_
 obtain ⟨clq4, Arq4, caq4, saq4, naq4, haq4, gaq4⟩ := id V_a2
 have inq4 : ¬ (i0 < 0 ∨ clq4.slots.size ≤ (i0).toNatClampNeg) := inb_of saq4 ⟨by decide, by decide⟩
 refine g_stB X0 hx hZ e0 Arq4 inq4 (H d16_31) fun T5 h5 X5 e5 W5 => ?_
 have K5 : Keep h0 h5 [a2] := (Keep.refl h0 [a2]).wr W5 (Or.inl (List.mem_of_getElem? (i := 0) rfl))
 have V5 : Arv Z h5 a2 kb .byte i2 [(.int (nar .byte (v0.toInt8.toInt32))), (.int i0)] (.int i0) := Arv.set Arq4 caq4 saq4 naq4 haq4 gaq4 (fits_nar_byte _) W5 0 rfl (Nat.le_of_ble_eq_true rfl)
 have N5 := Fr.snoc X5 N0 g_a2
 refine g_iinc X5 hx (H d16_32) rfl (l' := #[rv a1, iv i1, rv a2, iv i0, iv i2, iv i0, iv v0]) rfl ?_
 refine g_iinc X5 hx (H d16_35) rfl (l' := #[rv a1, iv i1, rv a2, iv i1, iv i2, iv i0, iv v0]) rfl ?_
 refine g_iinc X5 hx (H d16_38) rfl (l' := #[rv a1, iv i1, rv a2, iv i1, iv i2, iv i1, iv v0]) rfl ?_
 refine g_goto X5 hx 3 (H d16_41) (by decide) (by decide) ?_
 refine g_iload X5 hx (H d16_3) rfl ?_
 refine g_iload X5 hx (H d16_5) rfl ?_
 refine g_icmpNo X5 hx (H d16_7) (tlt (by decide : (i1 < i2))).2.1 ?_
 refine g_aloadN X5 hx (H d16_10) rfl rfl ?_
 refine g_iloadN X5 hx (H d16_11) rfl ?_
 have f_6 := (V_a1.keep K5 (ninS hne_a1_a2 nin0))
 obtain ⟨clq7, Arq7, caq7, saq7, naq7, haq7, gaq7⟩ := id f_6
 have inq7 : ¬ (i1 < 0 ∨ clq7.slots.size ≤ (i1).toNatClampNeg) := inb_of saq7 ⟨by decide, by decide⟩
 have atq7 : clq7.slots[(i1).toNatClampNeg]? = some (.int v1) := haq7.at inq7 rfl
 refine g_caload X5 hx hZ e5 Arq7 inq7 atq7 (H d16_12) ?_
 refine g_istore X5 hx (H d16_13) (l' := #[rv a1, iv i1, rv a2, iv i1, iv i2, iv i1, iv v1]) rfl ?_
 refine g_iload X5 hx (H d16_15) rfl ?_
 refine g_sipush X5 hx i255 (H d16_17) rfl ?_
 refine g_icmpNo X5 hx (H d16_20) (tlt hd2).2.2.2 ?_
 refine g_iload X5 hx (H d16_23) rfl ?_
 exact Go.ret (Q := Qm162_ft Z a1 a2 v0 v1 kc kb h0 n0) X5 (v := some (.int i1)) (fun h => by rw [hret] at h; cases h) hlk (fun fs hr => retOut X5 hx hret rfl (Or.inl ⟨rfl, Or.inl rfl, _, rfl⟩) (H d16_25) hr) e5 ⟨rfl, N5, K5, (Arv.arn V5)⟩ (by decide) (by decide)
def Qm162_ff (Z : State) (a1 : Addr) (a2 : Addr) (v0 : Int32) (v1 : Int32) (kc : ClassId) (kb : ClassId) (h0 : Heap) (n0 : Nat) (v : Option Value) (h : Heap) (L : List Loc) : Prop := v = some (.int i2) ∧ Fr n0 L ∧ Keep h0 h [a2] ∧ Arv Z h a2 kb .byte i2 [(.int (nar .byte (v0.toInt8.toInt32))), (.int (nar .byte (v1.toInt8.toInt32)))] (.int i0)
theorem rm162_ff (l : Launch) (Z : State) (a0 : Array Value) (hw : Hw a0 Z) (a1 : Addr) (a2 : Addr) (v0 : Int32) (v1 : Int32) (kc : ClassId) (kb : ClassId) (h0 : Heap) (n0 : Nat) (Z0 : n0 ≤ h0.size) (V_a1 : Arv Z h0 a1 kc .char i2 [(.int v0), (.int v1)] (.int i0)) (hb0 : 0 ≤ v0.toInt ∧ v0.toInt ≤ 65535) (hb1 : 0 ≤ v1.toInt ∧ v1.toInt ≤ 65535) (V_a2 : Arv Z h0 a2 kb .byte i2 [(.int i0), (.int i0)] (.int i0)) (g_a2 : n0 ≤ a2) (hne_a1_a2 : ¬ (a1 = a2)) (hd1 : ¬ (i255 < v0)) (hd2 : ¬ (i255 < v1)) :
  Met l Z h0 yy12 jdk_52_method_21_code 7 (some .int) (rmk 0 0 0 0) #[(.ref a1), (.int i0), (.ref a2), (.int i0), (.int i2)] (Qm162_ff Z a1 a2 v0 v1 kc kb h0 n0) := by
 refine enter (plainFor_of_name pn_16) (fun m => ef_16 m a1 i0 a2 i0 i2) fun p e s m below meth c s₁ hx hby hml hown hnm hZ X0 e0 hret hlk => ?_
 have N0 := Fr.nil n0; have H := @hb c _ hby
 refine g_iconst X0 hx i0 (H d16_0) rfl ?_
 refine g_istore X0 hx (H d16_1) (l' := #[rv a1, iv i0, rv a2, iv i0, iv i2, iv i0, .unset]) rfl ?_
 refine g_iload X0 hx (H d16_3) rfl ?_
 refine g_iload X0 hx (H d16_5) rfl ?_
 refine g_icmpNo X0 hx (H d16_7) (tlt (by decide : (i0 < i2))).2.1 ?_
 refine g_aloadN X0 hx (H d16_10) rfl rfl ?_
 refine g_iloadN X0 hx (H d16_11) rfl ?_
 obtain ⟨clq3, Arq3, caq3, saq3, naq3, haq3, gaq3⟩ := id V_a1
 have inq3 : ¬ (i0 < 0 ∨ clq3.slots.size ≤ (i0).toNatClampNeg) := inb_of saq3 ⟨by decide, by decide⟩
 have atq3 : clq3.slots[(i0).toNatClampNeg]? = some (.int v0) := haq3.at inq3 rfl
 refine g_caload X0 hx hZ e0 Arq3 inq3 atq3 (H d16_12) ?_
 refine g_istore X0 hx (H d16_13) (l' := #[rv a1, iv i0, rv a2, iv i0, iv i2, iv i0, iv v0]) rfl ?_
 refine g_iload X0 hx (H d16_15) rfl ?_
 refine g_sipush X0 hx i255 (H d16_17) rfl ?_
 refine g_icmpYes X0 hx 26 (H d16_20) (flt hd1).2.2.2 (by decide) (by decide) ?_
 refine g_aloadN X0 hx (H d16_26) rfl rfl ?_
 refine g_iloadN X0 hx (H d16_27) rfl ?_
 refine g_iload X0 hx (H d16_28) rfl ?_
 refine g_i2b X0 hx (H d16_30) ?_
 obtain ⟨clq4, Arq4, caq4, saq4, naq4, haq4, gaq4⟩ := id V_a2
 have inq4 : ¬ (i0 < 0 ∨ clq4.slots.size ≤ (i0).toNatClampNeg) := inb_of saq4 ⟨by decide, by decide⟩
 refine g_stB X0 hx hZ e0 Arq4 inq4 (H d16_31) fun T5 h5 X5 e5 W5 => ?_
 have K5 : Keep h0 h5 [a2] := (Keep.refl h0 [a2]).wr W5 (Or.inl (List.mem_of_getElem? (i := 0) rfl))
 have V5 : Arv Z h5 a2 kb .byte i2 [(.int (nar .byte (v0.toInt8.toInt32))), (.int i0)] (.int i0) := Arv.set Arq4 caq4 saq4 naq4 haq4 gaq4 (fits_nar_byte _) W5 0 rfl (Nat.le_of_ble_eq_true rfl)
 have N5 := Fr.snoc X5 N0 g_a2
 refine g_iinc X5 hx (H d16_32) rfl (l' := #[rv a1, iv i1, rv a2, iv i0, iv i2, iv i0, iv v0]) rfl ?_
 refine g_iinc X5 hx (H d16_35) rfl (l' := #[rv a1, iv i1, rv a2, iv i1, iv i2, iv i0, iv v0]) rfl ?_
 refine g_iinc X5 hx (H d16_38) rfl (l' := #[rv a1, iv i1, rv a2, iv i1, iv i2, iv i1, iv v0]) rfl ?_
 refine g_goto X5 hx 3 (H d16_41) (by decide) (by decide) ?_
 refine g_iload X5 hx (H d16_3) rfl ?_
 refine g_iload X5 hx (H d16_5) rfl ?_
 refine g_icmpNo X5 hx (H d16_7) (tlt (by decide : (i1 < i2))).2.1 ?_
 refine g_aloadN X5 hx (H d16_10) rfl rfl ?_
 refine g_iloadN X5 hx (H d16_11) rfl ?_
 have f_6 := (V_a1.keep K5 (ninS hne_a1_a2 nin0))
 obtain ⟨clq7, Arq7, caq7, saq7, naq7, haq7, gaq7⟩ := id f_6
 have inq7 : ¬ (i1 < 0 ∨ clq7.slots.size ≤ (i1).toNatClampNeg) := inb_of saq7 ⟨by decide, by decide⟩
 have atq7 : clq7.slots[(i1).toNatClampNeg]? = some (.int v1) := haq7.at inq7 rfl
 refine g_caload X5 hx hZ e5 Arq7 inq7 atq7 (H d16_12) ?_
 refine g_istore X5 hx (H d16_13) (l' := #[rv a1, iv i1, rv a2, iv i1, iv i2, iv i1, iv v1]) rfl ?_
 refine g_iload X5 hx (H d16_15) rfl ?_
 refine g_sipush X5 hx i255 (H d16_17) rfl ?_
 refine g_icmpYes X5 hx 26 (H d16_20) (flt hd2).2.2.2 (by decide) (by decide) ?_
 refine g_aloadN X5 hx (H d16_26) rfl rfl ?_
 refine g_iloadN X5 hx (H d16_27) rfl ?_
 refine g_iload X5 hx (H d16_28) rfl ?_
 refine g_i2b X5 hx (H d16_30) ?_
 obtain ⟨clq8, Arq8, caq8, saq8, naq8, haq8, gaq8⟩ := id V5
 have inq8 : ¬ (i1 < 0 ∨ clq8.slots.size ≤ (i1).toNatClampNeg) := inb_of saq8 ⟨by decide, by decide⟩
 refine g_stB X5 hx hZ e5 Arq8 inq8 (H d16_31) fun T9 h9 X9 e9 W9 => ?_
 have K9 : Keep h0 h9 [a2] := K5.wr W9 (Or.inl (List.mem_of_getElem? (i := 0) rfl))
 have V9 : Arv Z h9 a2 kb .byte i2 [(.int (nar .byte (v0.toInt8.toInt32))), (.int (nar .byte (v1.toInt8.toInt32)))] (.int i0) := Arv.set Arq8 caq8 saq8 naq8 haq8 gaq8 (fits_nar_byte _) W9 1 rfl (Nat.le_of_ble_eq_true rfl)
 have N9 := Fr.snoc X9 N5 g_a2
 refine g_iinc X9 hx (H d16_32) rfl (l' := #[rv a1, iv i2, rv a2, iv i1, iv i2, iv i1, iv v1]) rfl ?_
 refine g_iinc X9 hx (H d16_35) rfl (l' := #[rv a1, iv i2, rv a2, iv i2, iv i2, iv i1, iv v1]) rfl ?_
 refine g_iinc X9 hx (H d16_38) rfl (l' := #[rv a1, iv i2, rv a2, iv i2, iv i2, iv i2, iv v1]) rfl ?_
 refine g_goto X9 hx 3 (H d16_41) (by decide) (by decide) ?_
 refine g_iload X9 hx (H d16_3) rfl ?_
 refine g_iload X9 hx (H d16_5) rfl ?_
 refine g_icmpYes X9 hx 44 (H d16_7) (flt (by decide : ¬ (i2 < i2))).2.1 (by decide) (by decide) ?_
 refine g_iload X9 hx (H d16_44) rfl ?_
 exact Go.ret (Q := Qm162_ff Z a1 a2 v0 v1 kc kb h0 n0) X9 (v := some (.int i2)) (fun h => by rw [hret] at h; cases h) hlk (fun fs hr => retOut X9 hx hret rfl (Or.inl ⟨rfl, Or.inl rfl, _, rfl⟩) (H d16_46) hr) e9 ⟨rfl, N9, K9, V9⟩ (by decide) (by decide)
def Qm152_t (Z : State) (a1 : Addr) (v0 : Int32) (v1 : Int32) (kc : ClassId) (h0 : Heap) (n0 : Nat) (v : Option Value) (h : Heap) (L : List Loc) : Prop := ∃ (b2_2_8 : Addr) (k2_2_8 : ClassId), v = some (.ref b2_2_8) ∧ Fr n0 L ∧ Keep h0 h [] ∧ n0 ≤ b2_2_8 ∧ h0.size ≤ b2_2_8 ∧ Arv Z h b2_2_8 k2_2_8 .byte i4 [(.int (nar .byte ((v0 >>> (i0 &&& 31)).toInt8.toInt32))), (.int (nar .byte ((v0 >>> (i8 &&& 31)).toInt8.toInt32))), (.int (nar .byte ((v1 >>> (i0 &&& 31)).toInt8.toInt32))), (.int (nar .byte ((v1 >>> (i8 &&& 31)).toInt8.toInt32)))] (.int i0)
theorem rm152_t (l : Launch) (Z : State) (a0 : Array Value) (hw : Hw a0 Z) (a1 : Addr) (v0 : Int32) (v1 : Int32) (kc : ClassId) (h0 : Heap) (n0 : Nat) (Z0 : n0 ≤ h0.size) (V_a1 : Arv Z h0 a1 kc .char i2 [(.int v0), (.int v1)] (.int i0)) (hb0 : 0 ≤ v0.toInt ∧ v0.toInt ≤ 65535) (hb1 : 0 ≤ v1.toInt ∧ v1.toInt ≤ 65535) (S__assertionsDisabled : Sta Z h0 s1_ s2_ "Z" (.int i1)) (S_HI_BYTE_SHIFT : Sta Z h0 s1_ s3_ "I" (.int i0)) (S_LO_BYTE_SHIFT : Sta Z h0 s1_ s4_ "I" (.int i8)) (hd0 : i255 < v0) :
  Met l Z h0 yy13 jdk_52_method_16_code 6 (some (.array .byte)) (rmk 3 2 6 40) #[(.ref a1), (.int i0), (.int i2)] (Qm152_t Z a1 v0 v1 kc h0 n0) := by
 refine enter (plainFor_of_name pn_15) (fun m => ef_15 m a1 i0 i2) fun p e s m below meth c s₁ hx hby hml hown hnm hZ X0 e0 hret hlk => ?_
 have N0 := Fr.nil n0; have H := @hb c _ hby
 refine g_iloadN X0 hx (H d15_0) rfl ?_
 refine g_newP X0 hx hZ (H d15_1) (tw21 hw) e0 (by decide) 2 (by decide) (by decide) (by decide) (by decide) fun b2 T2 h2 k2 g2 X2 e2 E2 A2 => ?_
 have g_b2 : n0 ≤ b2 := Nat.le_trans Z0 (Nat.le_of_eq g2.symm)
 have sz_b2 : h0.size ≤ b2 := Nat.le_of_eq g2.symm
 have K2 : Keep h0 h2 [] := (Keep.refl h0 []).ext E2
 have V_b2 : Arv Z h2 b2 k2 .byte i2 [(.int i0), (.int i0)] (.int i0) := (Arv.new A2 (by decide)).pad (pad_rep [] (.int i0) 2)
 refine g_astoreN X2 hx (H d15_3) rfl (l' := #[rv a1, iv i0, iv i2, rv b2, .unset, .unset]) rfl ?_
 refine g_aloadN X2 hx (H d15_4) rfl rfl ?_
 refine g_iloadN X2 hx (H d15_5) rfl ?_
 refine g_aloadN X2 hx (H d15_6) rfl rfl ?_
 refine g_iconst X2 hx i0 (H d15_7) rfl ?_
 refine g_iloadN X2 hx (H d15_8) rfl ?_
 have f_3 := (V_a1.keep K2 nin0)
 refine g_static X2 hx hZ (rm162_t l Z a0 hw a1 b2 v0 v1 kc k2 h2 n0 (Nat.le_trans Z0 K2.1) f_3 hb0 hb1 V_b2 g_b2 (Nat.ne_of_lt (Nat.lt_of_lt_of_le V_a1.lt sz_b2)) hd0) hown (tw76 hw) (tw77 hw) (tw74 hw) (tw78 hw) (by decide) 0 (by decide) (by decide) (by rw [hml]; rfl) [(.ref a1), (.int i0), (.ref b2), (.int i0), (.int i2)] [] (lenOf pd_3 rfl) (Nat.le_of_eq rfl) e2 (by decide) (by decide) rfl rfl (H d15_9) fun v4 T4 Lc4 X4 hQ4 => ?_
 obtain ⟨rfl, N4q, eq4⟩ := hQ4
 have N4 := Fr.app N0 N4q
 show Gs p e below _ T4 m 12 #[rv a1, iv i0, iv i2, rv b2, .unset, .unset] [(.int i0)]
 refine g_istore X4 hx (H d15_12) (l' := #[rv a1, iv i0, iv i2, rv b2, iv i0, .unset]) rfl ?_
 refine g_iload X4 hx (H d15_14) rfl ?_
 refine g_iloadN X4 hx (H d15_16) rfl ?_
 refine g_icmpNo X4 hx (H d15_17) (feq (by decide : ¬ (i0 = i2))).1 ?_
 refine g_aloadN X4 hx (H d15_20) rfl rfl ?_
 refine g_iloadN X4 hx (H d15_21) rfl ?_
 refine g_iloadN X4 hx (H d15_22) rfl ?_
 have f_5 := (staKeep0 S__assertionsDisabled K2)
 have f_6 := (staKeep0 S_HI_BYTE_SHIFT K2)
 have f_7 := (staKeep0 S_LO_BYTE_SHIFT K2)
 refine g_static X4 hx hZ (rm202_o l Z a0 hw a1 v0 v1 kc h2 n0 (Nat.le_trans Z0 K2.1) f_3 hb0 hb1 f_5 f_6 f_7) hown (tw88 hw) (tw89 hw) (tw74 hw) (tw90 hw) (by decide) 0 (by decide) (by decide) (by rw [hml]; rfl) [(.ref a1), (.int i0), (.int i2)] [] (lenOf pd_4 rfl) (Nat.le_of_eq rfl) eq4 (by decide) (by decide) rfl rfl (H d15_23) fun v8 T8 Lc8 X8 hQ8 => ?_
 obtain ⟨b2_2_8, k2_2_8, rfl, N8q, Kc8, P8_0, P8_1, P8_2⟩ := hQ8
 have K8 : Keep h0 T8.heap [] := K2.trans Kc8 all0
 have g_b2_2_8 := P8_0
 have sz_b2_2_8 : h0.size ≤ b2_2_8 := Nat.le_trans K2.1 P8_1
 have lt_b2_b2_2_8 : b2 < b2_2_8 := Nat.lt_of_lt_of_le V_b2.lt P8_1
 have N8 := Fr.app N4 N8q
 show Gs p e below _ T8 m 26 #[rv a1, iv i0, iv i2, rv b2, iv i0, .unset] [(.ref b2_2_8)]
 refine g_astore X8 hx (H d15_26) rfl (l' := #[rv a1, iv i0, iv i2, rv b2, iv i0, rv b2_2_8]) rfl ?_
 refine g_aload X8 hx (H d15_28) rfl rfl ?_
 refine g_iload X8 hx (H d15_30) rfl ?_
 have f_9 := (staKeep0 f_5 Kc8)
 have f_10 := (staKeep0 f_6 Kc8)
 have f_11 := (staKeep0 f_7 Kc8)
 refine g_static X8 hx hZ (rm2420_o l Z a0 hw b2_2_8 (nar .byte ((v0 >>> (i0 &&& 31)).toInt8.toInt32)) (nar .byte ((v0 >>> (i8 &&& 31)).toInt8.toInt32)) (nar .byte ((v1 >>> (i0 &&& 31)).toInt8.toInt32)) (nar .byte ((v1 >>> (i8 &&& 31)).toInt8.toInt32)) k2_2_8 T8.heap n0 (Nat.le_trans Z0 K8.1) P8_2 f_9 f_10 f_11) hown (tw104 hw) (tw105 hw) (tw74 hw) (tw106 hw) (by decide) 0 (by decide) (by decide) (by rw [hml]; rfl) [(.ref b2_2_8), (.int i0)] [] (lenOf pd_5 rfl) (Nat.le_of_eq rfl) rfl (by decide) (by decide) rfl rfl (H d15_32) fun v12 T12 Lc12 X12 hQ12 => ?_
 obtain ⟨rfl, N12q, eq12⟩ := hQ12
 have N12 := Fr.app N8 N12q
 show Gs p e below _ T12 m 35 #[rv a1, iv i0, iv i2, rv b2, iv i0, rv b2_2_8] [(.int (nar .char (((((nar .byte ((v0 >>> (i0 &&& 31)).toInt8.toInt32)) &&& i255) <<< (i0 &&& 31)) ||| (((nar .byte ((v0 >>> (i8 &&& 31)).toInt8.toInt32)) &&& i255) <<< (i8 &&& 31))).toUInt32.toUInt16.toUInt32.toInt32)))]
 refine g_sipush X12 hx i255 (H d15_35) rfl ?_
 refine g_icmpYes X12 hx 54 (H d15_38) (tlt (own_gt hb0 hd0)).2.2.1 (by decide) (by decide) ?_
 refine g_aload X12 hx (H d15_54) rfl rfl ?_
 exact Go.ret (Q := Qm152_t Z a1 v0 v1 kc h0 n0) X12 (v := some (.ref b2_2_8)) (fun h => by rw [hret] at h; cases h) hlk (fun fs hr => retOut X12 hx hret rfl (Or.inr (Or.inr (Or.inr (Or.inr ⟨rfl, rfl, rfl⟩)))) (H d15_56) hr) eq12 ⟨b2_2_8, k2_2_8, rfl, N12, K8, g_b2_2_8, sz_b2_2_8, P8_2⟩ (by decide) (by decide)
def Qm152_ft (Z : State) (a1 : Addr) (v0 : Int32) (v1 : Int32) (kc : ClassId) (h0 : Heap) (n0 : Nat) (v : Option Value) (h : Heap) (L : List Loc) : Prop := ∃ (b2_2_9 : Addr) (k2_2_9 : ClassId), v = some (.ref b2_2_9) ∧ Fr n0 L ∧ Keep h0 h [] ∧ n0 ≤ b2_2_9 ∧ h0.size ≤ b2_2_9 ∧ Arv Z h b2_2_9 k2_2_9 .byte i4 [(.int (nar .byte ((v0 >>> (i0 &&& 31)).toInt8.toInt32))), (.int (nar .byte ((v0 >>> (i8 &&& 31)).toInt8.toInt32))), (.int (nar .byte ((v1 >>> (i0 &&& 31)).toInt8.toInt32))), (.int (nar .byte ((v1 >>> (i8 &&& 31)).toInt8.toInt32)))] (.int i0)
theorem rm152_ft (l : Launch) (Z : State) (a0 : Array Value) (hw : Hw a0 Z) (a1 : Addr) (v0 : Int32) (v1 : Int32) (kc : ClassId) (h0 : Heap) (n0 : Nat) (Z0 : n0 ≤ h0.size) (V_a1 : Arv Z h0 a1 kc .char i2 [(.int v0), (.int v1)] (.int i0)) (hb0 : 0 ≤ v0.toInt ∧ v0.toInt ≤ 65535) (hb1 : 0 ≤ v1.toInt ∧ v1.toInt ≤ 65535) (S__assertionsDisabled : Sta Z h0 s1_ s2_ "Z" (.int i1)) (S_HI_BYTE_SHIFT : Sta Z h0 s1_ s3_ "I" (.int i0)) (S_LO_BYTE_SHIFT : Sta Z h0 s1_ s4_ "I" (.int i8)) (hd0 : ¬ (i255 < v0)) (hd1 : i255 < v1) :
  Met l Z h0 yy13 jdk_52_method_16_code 6 (some (.array .byte)) (rmk 3 2 6 40) #[(.ref a1), (.int i0), (.int i2)] (Qm152_ft Z a1 v0 v1 kc h0 n0) := by
 refine enter (plainFor_of_name pn_15) (fun m => ef_15 m a1 i0 i2) fun p e s m below meth c s₁ hx hby hml hown hnm hZ X0 e0 hret hlk => ?_
 have N0 := Fr.nil n0; have H := @hb c _ hby
 refine g_iloadN X0 hx (H d15_0) rfl ?_
 refine g_newP X0 hx hZ (H d15_1) (tw21 hw) e0 (by decide) 2 (by decide) (by decide) (by decide) (by decide) fun b2 T2 h2 k2 g2 X2 e2 E2 A2 => ?_
 have g_b2 : n0 ≤ b2 := Nat.le_trans Z0 (Nat.le_of_eq g2.symm)
 have sz_b2 : h0.size ≤ b2 := Nat.le_of_eq g2.symm
 have K2 : Keep h0 h2 [] := (Keep.refl h0 []).ext E2
 have V_b2 : Arv Z h2 b2 k2 .byte i2 [(.int i0), (.int i0)] (.int i0) := (Arv.new A2 (by decide)).pad (pad_rep [] (.int i0) 2)
 refine g_astoreN X2 hx (H d15_3) rfl (l' := #[rv a1, iv i0, iv i2, rv b2, .unset, .unset]) rfl ?_
 refine g_aloadN X2 hx (H d15_4) rfl rfl ?_
 refine g_iloadN X2 hx (H d15_5) rfl ?_
 refine g_aloadN X2 hx (H d15_6) rfl rfl ?_
 refine g_iconst X2 hx i0 (H d15_7) rfl ?_
 refine g_iloadN X2 hx (H d15_8) rfl ?_
 have f_3 := (V_a1.keep K2 nin0)
 refine g_static X2 hx hZ (rm162_ft l Z a0 hw a1 b2 v0 v1 kc k2 h2 n0 (Nat.le_trans Z0 K2.1) f_3 hb0 hb1 V_b2 g_b2 (Nat.ne_of_lt (Nat.lt_of_lt_of_le V_a1.lt sz_b2)) hd0 hd1) hown (tw76 hw) (tw77 hw) (tw74 hw) (tw78 hw) (by decide) 0 (by decide) (by decide) (by rw [hml]; rfl) [(.ref a1), (.int i0), (.ref b2), (.int i0), (.int i2)] [] (lenOf pd_3 rfl) (Nat.le_of_eq rfl) e2 (by decide) (by decide) rfl rfl (H d15_9) fun v4 T4 Lc4 X4 hQ4 => ?_
 obtain ⟨rfl, N4q, Kc4, P4_0⟩ := hQ4
 have K4 : Keep h0 T4.heap [] := K2.trans Kc4 (allS (Or.inr sz_b2) all0)
 have N4 := Fr.app N0 N4q
 show Gs p e below _ T4 m 12 #[rv a1, iv i0, iv i2, rv b2, .unset, .unset] [(.int i1)]
 refine g_istore X4 hx (H d15_12) (l' := #[rv a1, iv i0, iv i2, rv b2, iv i1, .unset]) rfl ?_
 refine g_iload X4 hx (H d15_14) rfl ?_
 refine g_iloadN X4 hx (H d15_16) rfl ?_
 refine g_icmpNo X4 hx (H d15_17) (feq (by decide : ¬ (i1 = i2))).1 ?_
 refine g_aloadN X4 hx (H d15_20) rfl rfl ?_
 refine g_iloadN X4 hx (H d15_21) rfl ?_
 refine g_iloadN X4 hx (H d15_22) rfl ?_
 have f_5 := (f_3.keep Kc4 (ninS (Nat.ne_of_lt (Nat.lt_of_lt_of_le V_a1.lt sz_b2)) nin0))
 have f_6 := (staKeep0 S__assertionsDisabled K4)
 have f_7 := (staKeep0 S_HI_BYTE_SHIFT K4)
 have f_8 := (staKeep0 S_LO_BYTE_SHIFT K4)
 refine g_static X4 hx hZ (rm202_o l Z a0 hw a1 v0 v1 kc T4.heap n0 (Nat.le_trans Z0 K4.1) f_5 hb0 hb1 f_6 f_7 f_8) hown (tw88 hw) (tw89 hw) (tw74 hw) (tw90 hw) (by decide) 0 (by decide) (by decide) (by rw [hml]; rfl) [(.ref a1), (.int i0), (.int i2)] [] (lenOf pd_4 rfl) (Nat.le_of_eq rfl) rfl (by decide) (by decide) rfl rfl (H d15_23) fun v9 T9 Lc9 X9 hQ9 => ?_
 obtain ⟨b2_2_9, k2_2_9, rfl, N9q, Kc9, P9_0, P9_1, P9_2⟩ := hQ9
 have K9 : Keep h0 T9.heap [] := K4.trans Kc9 all0
 have g_b2_2_9 := P9_0
 have sz_b2_2_9 : h0.size ≤ b2_2_9 := Nat.le_trans K4.1 P9_1
 have lt_b2_b2_2_9 : b2 < b2_2_9 := Nat.lt_of_lt_of_le P4_0.lt P9_1
 have N9 := Fr.app N4 N9q
 show Gs p e below _ T9 m 26 #[rv a1, iv i0, iv i2, rv b2, iv i1, .unset] [(.ref b2_2_9)]
 refine g_astore X9 hx (H d15_26) rfl (l' := #[rv a1, iv i0, iv i2, rv b2, iv i1, rv b2_2_9]) rfl ?_
 refine g_aload X9 hx (H d15_28) rfl rfl ?_
 refine g_iload X9 hx (H d15_30) rfl ?_
 have f_10 := (staKeep0 f_6 Kc9)
 have f_11 := (staKeep0 f_7 Kc9)
 have f_12 := (staKeep0 f_8 Kc9)
 refine g_static X9 hx hZ (rm2421_o l Z a0 hw b2_2_9 (nar .byte ((v0 >>> (i0 &&& 31)).toInt8.toInt32)) (nar .byte ((v0 >>> (i8 &&& 31)).toInt8.toInt32)) (nar .byte ((v1 >>> (i0 &&& 31)).toInt8.toInt32)) (nar .byte ((v1 >>> (i8 &&& 31)).toInt8.toInt32)) k2_2_9 T9.heap n0 (Nat.le_trans Z0 K9.1) P9_2 f_10 f_11 f_12) hown (tw104 hw) (tw105 hw) (tw74 hw) (tw106 hw) (by decide) 0 (by decide) (by decide) (by rw [hml]; rfl) [(.ref b2_2_9), (.int i1)] [] (lenOf pd_5 rfl) (Nat.le_of_eq rfl) rfl (by decide) (by decide) rfl rfl (H d15_32) fun v13 T13 Lc13 X13 hQ13 => ?_
 obtain ⟨rfl, N13q, eq13⟩ := hQ13
 have N13 := Fr.app N9 N13q
 show Gs p e below _ T13 m 35 #[rv a1, iv i0, iv i2, rv b2, iv i1, rv b2_2_9] [(.int (nar .char (((((nar .byte ((v1 >>> (i0 &&& 31)).toInt8.toInt32)) &&& i255) <<< (i0 &&& 31)) ||| (((nar .byte ((v1 >>> (i8 &&& 31)).toInt8.toInt32)) &&& i255) <<< (i8 &&& 31))).toUInt32.toUInt16.toUInt32.toInt32)))]
 refine g_sipush X13 hx i255 (H d15_35) rfl ?_
 refine g_icmpYes X13 hx 54 (H d15_38) (tlt (own_gt hb1 hd1)).2.2.1 (by decide) (by decide) ?_
 refine g_aload X13 hx (H d15_54) rfl rfl ?_
 exact Go.ret (Q := Qm152_ft Z a1 v0 v1 kc h0 n0) X13 (v := some (.ref b2_2_9)) (fun h => by rw [hret] at h; cases h) hlk (fun fs hr => retOut X13 hx hret rfl (Or.inr (Or.inr (Or.inr (Or.inr ⟨rfl, rfl, rfl⟩)))) (H d15_56) hr) eq13 ⟨b2_2_9, k2_2_9, rfl, N13, K9, g_b2_2_9, sz_b2_2_9, P9_2⟩ (by decide) (by decide)
def Qm152_ff (Z : State) (a1 : Addr) (v0 : Int32) (v1 : Int32) (kc : ClassId) (h0 : Heap) (n0 : Nat) (v : Option Value) (h : Heap) (L : List Loc) : Prop := ∃ (b2 : Addr) (k2 : ClassId), v = some (.ref b2) ∧ Fr n0 L ∧ Keep h0 h [] ∧ n0 ≤ b2 ∧ h0.size ≤ b2 ∧ Arv Z h b2 k2 .byte i2 [(.int (nar .byte (v0.toInt8.toInt32))), (.int (nar .byte (v1.toInt8.toInt32)))] (.int i0)
theorem rm152_ff (l : Launch) (Z : State) (a0 : Array Value) (hw : Hw a0 Z) (a1 : Addr) (v0 : Int32) (v1 : Int32) (kc : ClassId) (h0 : Heap) (n0 : Nat) (Z0 : n0 ≤ h0.size) (V_a1 : Arv Z h0 a1 kc .char i2 [(.int v0), (.int v1)] (.int i0)) (hb0 : 0 ≤ v0.toInt ∧ v0.toInt ≤ 65535) (hb1 : 0 ≤ v1.toInt ∧ v1.toInt ≤ 65535) (S__assertionsDisabled : Sta Z h0 s1_ s2_ "Z" (.int i1)) (S_HI_BYTE_SHIFT : Sta Z h0 s1_ s3_ "I" (.int i0)) (S_LO_BYTE_SHIFT : Sta Z h0 s1_ s4_ "I" (.int i8)) (hd0 : ¬ (i255 < v0)) (hd1 : ¬ (i255 < v1)) :
  Met l Z h0 yy13 jdk_52_method_16_code 6 (some (.array .byte)) (rmk 1 1 2 18) #[(.ref a1), (.int i0), (.int i2)] (Qm152_ff Z a1 v0 v1 kc h0 n0) := by
 refine enter (plainFor_of_name pn_15) (fun m => ef_15 m a1 i0 i2) fun p e s m below meth c s₁ hx hby hml hown hnm hZ X0 e0 hret hlk => ?_
 have N0 := Fr.nil n0; have H := @hb c _ hby
 refine g_iloadN X0 hx (H d15_0) rfl ?_
 refine g_newP X0 hx hZ (H d15_1) (tw21 hw) e0 (by decide) 2 (by decide) (by decide) (by decide) (by decide) fun b2 T2 h2 k2 g2 X2 e2 E2 A2 => ?_
 have g_b2 : n0 ≤ b2 := Nat.le_trans Z0 (Nat.le_of_eq g2.symm)
 have sz_b2 : h0.size ≤ b2 := Nat.le_of_eq g2.symm
 have K2 : Keep h0 h2 [] := (Keep.refl h0 []).ext E2
 have V_b2 : Arv Z h2 b2 k2 .byte i2 [(.int i0), (.int i0)] (.int i0) := (Arv.new A2 (by decide)).pad (pad_rep [] (.int i0) 2)
 refine g_astoreN X2 hx (H d15_3) rfl (l' := #[rv a1, iv i0, iv i2, rv b2, .unset, .unset]) rfl ?_
 refine g_aloadN X2 hx (H d15_4) rfl rfl ?_
 refine g_iloadN X2 hx (H d15_5) rfl ?_
 refine g_aloadN X2 hx (H d15_6) rfl rfl ?_
 refine g_iconst X2 hx i0 (H d15_7) rfl ?_
 refine g_iloadN X2 hx (H d15_8) rfl ?_
 have f_3 := (V_a1.keep K2 nin0)
 refine g_static X2 hx hZ (rm162_ff l Z a0 hw a1 b2 v0 v1 kc k2 h2 n0 (Nat.le_trans Z0 K2.1) f_3 hb0 hb1 V_b2 g_b2 (Nat.ne_of_lt (Nat.lt_of_lt_of_le V_a1.lt sz_b2)) hd0 hd1) hown (tw76 hw) (tw77 hw) (tw74 hw) (tw78 hw) (by decide) 0 (by decide) (by decide) (by rw [hml]; rfl) [(.ref a1), (.int i0), (.ref b2), (.int i0), (.int i2)] [] (lenOf pd_3 rfl) (Nat.le_of_eq rfl) e2 (by decide) (by decide) rfl rfl (H d15_9) fun v4 T4 Lc4 X4 hQ4 => ?_
 obtain ⟨rfl, N4q, Kc4, P4_0⟩ := hQ4
 have K4 : Keep h0 T4.heap [] := K2.trans Kc4 (allS (Or.inr sz_b2) all0)
 have N4 := Fr.app N0 N4q
 show Gs p e below _ T4 m 12 #[rv a1, iv i0, iv i2, rv b2, .unset, .unset] [(.int i2)]
 refine g_istore X4 hx (H d15_12) (l' := #[rv a1, iv i0, iv i2, rv b2, iv i2, .unset]) rfl ?_
 refine g_iload X4 hx (H d15_14) rfl ?_
 refine g_iloadN X4 hx (H d15_16) rfl ?_
 refine g_icmpYes X4 hx 57 (H d15_17) (teq (by decide : (i2 = i2))).1 (by decide) (by decide) ?_
 refine g_aloadN X4 hx (H d15_57) rfl rfl ?_
 exact Go.ret (Q := Qm152_ff Z a1 v0 v1 kc h0 n0) X4 (v := some (.ref b2)) (fun h => by rw [hret] at h; cases h) hlk (fun fs hr => retOut X4 hx hret rfl (Or.inr (Or.inr (Or.inr (Or.inr ⟨rfl, rfl, rfl⟩)))) (H d15_58) hr) rfl ⟨b2, k2, rfl, N4, K4, g_b2, sz_b2, P4_0⟩ (by decide) (by decide)
theorem rm152U (l : Launch) (Z : State) (a0 : Array Value) (hw : Hw a0 Z) (a1 : Addr) (v0 : Int32) (v1 : Int32) (kc : ClassId) (h0 : Heap) (n0 : Nat) (Z0 : n0 ≤ h0.size) (V_a1 : Arv Z h0 a1 kc .char i2 [(.int v0), (.int v1)] (.int i0)) (hb0 : 0 ≤ v0.toInt ∧ v0.toInt ≤ 65535) (hb1 : 0 ≤ v1.toInt ∧ v1.toInt ≤ 65535) (S__assertionsDisabled : Sta Z h0 s1_ s2_ "Z" (.int i1)) (S_HI_BYTE_SHIFT : Sta Z h0 s1_ s3_ "I" (.int i0)) (S_LO_BYTE_SHIFT : Sta Z h0 s1_ s4_ "I" (.int i8)) (hU : i255 < v0 ∨ i255 < v1) :
  Met l Z h0 yy13 jdk_52_method_16_code 6 (some (.array .byte)) (rmk 3 2 6 40) #[(.ref a1), (.int i0), (.int i2)] (Qm152_t Z a1 v0 v1 kc h0 n0) := by
 by_cases hk0 : i255 < v0
 · exact rm152_t l Z a0 hw a1 v0 v1 kc h0 n0 Z0 V_a1 hb0 hb1 S__assertionsDisabled S_HI_BYTE_SHIFT S_LO_BYTE_SHIFT hk0
 by_cases hk1 : i255 < v1
 · exact rm152_ft l Z a0 hw a1 v0 v1 kc h0 n0 Z0 V_a1 hb0 hb1 S__assertionsDisabled S_HI_BYTE_SHIFT S_LO_BYTE_SHIFT hk0 hk1
 exact (fun q => q.elim (fun q => absurd q hk0) (fun q => absurd q hk1)) hU
def Qm172_o (Z : State) (a1 : Addr) (h0 : Heap) (n0 : Nat) (v : Option Value) (h : Heap) (L : List Loc) : Prop := v = some (.int i0) ∧ Fr n0 L ∧ h = h0
theorem rm172_o (l : Launch) (Z : State) (a0 : Array Value) (hw : Hw a0 Z) (a1 : Addr) (h0 : Heap) (n0 : Nat) (Z0 : n0 ≤ h0.size) (V_a1 : Arn Z h0 a1 .byte i2) :
  Met l Z h0 yy14 jdk_52_method_15_code 2 (some .byte) (rmk 0 0 0 0) #[(.ref a1), (.int i2)] (Qm172_o Z a1 h0 n0) := by
 refine enter (plainFor_of_name pn_17) (fun m => ef_17 m a1 i2) fun p e s m below meth c s₁ hx hby hml hown hnm hZ X0 e0 hret hlk => ?_
 have N0 := Fr.nil n0; have H := @hb c _ hby
 refine g_iloadN X0 hx (H d17_0) rfl ?_
 refine g_aloadN X0 hx (H d17_1) rfl rfl ?_
 obtain ⟨clq2, Arq2, saq2, naq2⟩ := id V_a1
 refine g_len X0 hx hZ e0 Arq2 saq2 naq2 (H d17_2) ?_
 refine g_isub X0 hx (H d17_3) ?_
 rw [show (i2 - i2) = i0 from by decide]
 show Gs p e below _ s₁ m 4 #[rv a1, iv i2] [(.int i0)]
 refine g_bipush X0 hx i31 (H d17_4) rfl ?_
 refine g_iushr X0 hx (H d17_6) ?_
 rw [show ((i0.toUInt32 >>> (i31 &&& 31).toUInt32).toInt32) = i0 from by decide]
 show Gs p e below _ s₁ m 7 #[rv a1, iv i2] [(.int i0)]
 refine g_i2b X0 hx (H d17_7) ?_
 rw [show (i0.toInt8.toInt32) = i0 from by decide]
 show Gs p e below _ s₁ m 8 #[rv a1, iv i2] [(.int i0)]
 exact Go.ret (Q := Qm172_o Z a1 h0 n0) X0 (v := some (.int i0)) (fun h => by rw [hret] at h; cases h) hlk (fun fs hr => retN X0 hx (t := .byte) hret (by simp) (H d17_8) hr) e0 ⟨rfl, N0, rfl⟩ (by decide) (by decide)
def Qm172u_o (Z : State) (a1 : Addr) (h0 : Heap) (n0 : Nat) (v : Option Value) (h : Heap) (L : List Loc) : Prop := v = some (.int i1) ∧ Fr n0 L ∧ h = h0
theorem rm172u_o (l : Launch) (Z : State) (a0 : Array Value) (hw : Hw a0 Z) (a1 : Addr) (h0 : Heap) (n0 : Nat) (Z0 : n0 ≤ h0.size) (V_a1 : Arn Z h0 a1 .byte i4) :
  Met l Z h0 yy14 jdk_52_method_15_code 2 (some .byte) (rmk 0 0 0 0) #[(.ref a1), (.int i2)] (Qm172u_o Z a1 h0 n0) := by
 refine enter (plainFor_of_name pn_17) (fun m => ef_17 m a1 i2) fun p e s m below meth c s₁ hx hby hml hown hnm hZ X0 e0 hret hlk => ?_
 have N0 := Fr.nil n0; have H := @hb c _ hby
 refine g_iloadN X0 hx (H d17_0) rfl ?_
 refine g_aloadN X0 hx (H d17_1) rfl rfl ?_
 obtain ⟨clq2, Arq2, saq2, naq2⟩ := id V_a1
 refine g_len X0 hx hZ e0 Arq2 saq2 naq2 (H d17_2) ?_
 refine g_isub X0 hx (H d17_3) ?_
 rw [show (i2 - i4) = im2 from by decide]
 show Gs p e below _ s₁ m 4 #[rv a1, iv i2] [(.int im2)]
 refine g_bipush X0 hx i31 (H d17_4) rfl ?_
 refine g_iushr X0 hx (H d17_6) ?_
 rw [show ((im2.toUInt32 >>> (i31 &&& 31).toUInt32).toInt32) = i1 from by decide]
 show Gs p e below _ s₁ m 7 #[rv a1, iv i2] [(.int i1)]
 refine g_i2b X0 hx (H d17_7) ?_
 rw [show (i1.toInt8.toInt32) = i1 from by decide]
 show Gs p e below _ s₁ m 8 #[rv a1, iv i2] [(.int i1)]
 exact Go.ret (Q := Qm172u_o Z a1 h0 n0) X0 (v := some (.int i1)) (fun h => by rw [hret] at h; cases h) hlk (fun fs hr => retN X0 hx (t := .byte) hret (by simp) (H d17_8) hr) e0 ⟨rfl, N0, rfl⟩ (by decide) (by decide)
def Qm32U_f (Z : State) (a1 : Addr) (a2 : Addr) (v0 : Int32) (v1 : Int32) (kc : ClassId) (u_coder_a1 : Value) (u_value_a1 : Value) (w4 : Int32) (h0 : Heap) (n0 : Nat) (v : Option Value) (h : Heap) (L : List Loc) : Prop := ∃ (b2_2_8_6 : Addr) (k2_2_8_6 : ClassId), v = none ∧ Fr n0 L ∧ Keep h0 h [a1] ∧ Exa Z h a1 s0_ ∧ Fld Z h a1 s0_ "coder" "B" (.int i1) ∧ Fld Z h a1 s0_ "value" "[B" (.ref b2_2_8_6) ∧ Arv Z h b2_2_8_6 k2_2_8_6 .byte i4 [(.int (nar .byte ((v0 >>> (i0 &&& 31)).toInt8.toInt32))), (.int (nar .byte ((v0 >>> (i8 &&& 31)).toInt8.toInt32))), (.int (nar .byte ((v1 >>> (i0 &&& 31)).toInt8.toInt32))), (.int (nar .byte ((v1 >>> (i8 &&& 31)).toInt8.toInt32)))] (.int i0)
theorem rm32U_f (l : Launch) (Z : State) (a0 : Array Value) (hw : Hw a0 Z) (a1 : Addr) (a2 : Addr) (v0 : Int32) (v1 : Int32) (kc : ClassId) (u_coder_a1 : Value) (u_value_a1 : Value) (w4 : Int32) (h0 : Heap) (n0 : Nat) (Z0 : n0 ≤ h0.size) (E_a1 : Exa Z h0 a1 s0_) (V_a2 : Arv Z h0 a2 kc .char i2 [(.int v0), (.int v1)] (.int i0)) (hb0 : 0 ≤ v0.toInt ∧ v0.toInt ≤ 65535) (hb1 : 0 ≤ v1.toInt ∧ v1.toInt ≤ 65535) (S__assertionsDisabled : Sta Z h0 s1_ s2_ "Z" (.int i1)) (S_HI_BYTE_SHIFT : Sta Z h0 s1_ s3_ "I" (.int i0)) (S_LO_BYTE_SHIFT : Sta Z h0 s1_ s4_ "I" (.int i8)) (F_coder_a1 : Fld Z h0 a1 s0_ "coder" "B" u_coder_a1) (F_value_a1 : Fld Z h0 a1 s0_ "value" "[B" u_value_a1) (g_a1 : n0 ≤ a1) (hne_a2_a1 : ¬ (a2 = a1)) (hU : i255 < v0 ∨ i255 < v1) (S_COMPACT_STRINGS : Sta Z h0 s0_ s5_ "Z" (.int w4)) (hd1 : ¬ (w4 = i0)) :
  Met l Z h0 yy15 jdk_42_method_149_code 6 none (rmk 4 2 6 57) #[(.ref a1), (.ref a2), (.int i0), (.int i2), .null] (Qm32U_f Z a1 a2 v0 v1 kc u_coder_a1 u_value_a1 w4 h0 n0) := by
 refine enter (plainFor_of_name pn_3) (fun m => ef_32U m a1 a2 i0 i2) fun p e s m below meth c s₁ hx hby hml hown hnm hZ X0 e0 hret hlk => ?_
 have N0 := Fr.nil n0; have H := @hb c _ hby
 refine g_aloadN X0 hx (H d3_0) rfl rfl ?_
 refine g_initO X0 hx hZ hown (tw17 hw) (tw18 hw) (tw19 hw) e0 (by rw [hml]; rfl) (H d3_1) (by decide) 0 (Nat.le_of_eq rfl) (by decide) fun T3 X3 e3 => ?_
 refine g_iloadN X3 hx (H d3_4) rfl ?_
 refine g_ifYes X3 hx 27 (H d3_5) (feq (by decide : ¬ (i2 = i0))).2 (by decide) (by decide) ?_
 refine g_getS X3 hx hZ hown (tw47 hw) e3 S_COMPACT_STRINGS (H d3_27) fun T5 X5 e5 => ?_
 refine g_ifNo X5 hx (H d3_30) (feq hd1).1 ?_
 refine g_aloadN X5 hx (H d3_33) rfl rfl ?_
 refine g_iloadN X5 hx (H d3_34) rfl ?_
 refine g_iloadN X5 hx (H d3_35) rfl ?_
 refine g_static X5 hx hZ (rm152U l Z a0 hw a2 v0 v1 kc h0 n0 Z0 V_a2 hb0 hb1 S__assertionsDisabled S_HI_BYTE_SHIFT S_LO_BYTE_SHIFT hU) hown (tw72 hw) (tw73 hw) (tw74 hw) (tw75 hw) (by decide) 0 (by decide) (by decide) (by rw [hml]; rfl) [(.ref a2), (.int i0), (.int i2)] [] (lenOf pd_4 rfl) (Nat.le_of_eq rfl) e5 (by decide) (by decide) rfl rfl (H d3_36) fun v6 T6 Lc6 X6 hQ6 => ?_
 obtain ⟨b2_2_8_6, k2_2_8_6, rfl, N6q, Kc6, P6_0, P6_1, P6_2⟩ := hQ6
 have K6 : Keep h0 T6.heap [a1] := (Keep.refl h0 [a1]).trans Kc6 all0
 have g_b2_2_8_6 := P6_0
 have sz_b2_2_8_6 : h0.size ≤ b2_2_8_6 := P6_1
 have N6 := Fr.app N0 N6q
 show Gs p e below _ T6 m 39 #[rv a1, rv a2, iv i0, iv i2, .val .null, .unset] [(.ref b2_2_8_6)]
 refine g_astore X6 hx (H d3_39) rfl (l' := #[rv a1, rv a2, iv i0, iv i2, .val .null, rv b2_2_8_6]) rfl ?_
 refine g_aloadN X6 hx (H d3_41) rfl rfl ?_
 refine g_aload X6 hx (H d3_42) rfl rfl ?_
 refine g_iloadN X6 hx (H d3_44) rfl ?_
 refine g_static X6 hx hZ (rm172u_o l Z a0 hw b2_2_8_6 T6.heap n0 (Nat.le_trans Z0 K6.1) (Arv.arn P6_2)) hown (tw79 hw) (tw80 hw) (tw74 hw) (tw81 hw) (by decide) 1 (by decide) (by decide) (by rw [hml]; rfl) [(.ref b2_2_8_6), (.int i2)] [(.ref a1)] (lenOf pd_6 rfl) (Nat.le_of_eq rfl) rfl (by decide) (by decide) rfl rfl (H d3_45) fun v7 T7 Lc7 X7 hQ7 => ?_
 obtain ⟨rfl, N7q, eq7⟩ := hQ7
 have N7 := Fr.app N6 N7q
 show Gs p e below _ T7 m 48 #[rv a1, rv a2, iv i0, iv i2, .val .null, rv b2_2_8_6] [(.int i1), (.ref a1)]
 have f_8 := (E_a1.keep Kc6)
 have f_9 := (F_coder_a1.keep Kc6 nin0)
 refine g_putFN X7 hx hZ hown (tw27 hw) Via.refl eq7 f_9 f_8 (Or.inr ⟨(tw23 hw), rfl, hnm⟩) (tw7 hw) (ty := .byte) (v' := (.int i1)) (by decide) rfl (fits_nar_byte i1) (H d3_48) fun T10 h10 X10 e10 W10 => ?_
 have Fw10 : Fld Z h10 a1 s0_ "coder" "B" (.int i1) := Fld.same W10 f_9
 have K10 : Keep h0 h10 [a1] := K6.wr W10 (Or.inl (List.mem_of_getElem? (i := 0) rfl))
 have N10 := Fr.snoc X10 N7 g_a1
 refine g_aloadN X10 hx (H d3_51) rfl rfl ?_
 refine g_aload X10 hx (H d3_52) rfl rfl ?_
 have f_11 := (Exa.wr W10 f_8)
 have f_12 := (Fld.other W10 (F_value_a1.keep Kc6 nin0) (Or.inr (slot_ne (Or.inr (tw22 hw)) (Or.inr (tw23 hw)) (by decide) (t := (.array .byte)) (t' := .byte) (by decide) (by decide))))
 refine g_putF X10 hx hZ hown (tw26 hw) Via.refl e10 f_12 f_11 (Or.inr ⟨(tw22 hw), rfl, hnm⟩) (tw7 hw) (ty := (.array .byte)) (by decide) rfl rfl (H d3_54) fun T13 h13 X13 e13 W13 => ?_
 have Fw13 : Fld Z h13 a1 s0_ "value" "[B" (.ref b2_2_8_6) := Fld.same W13 f_12
 have K13 : Keep h0 h13 [a1] := K10.wr W13 (Or.inl (List.mem_of_getElem? (i := 0) rfl))
 have N13 := Fr.snoc X13 N10 g_a1
 have f_14 := (Exa.wr W13 f_11)
 have f_15 := (Fld.other W13 Fw10 (Or.inr (slot_ne (Or.inr (tw23 hw)) (Or.inr (tw22 hw)) (by decide) (t := .byte) (t' := (.array .byte)) (by decide) (by decide))))
 have f_16 := ((P6_2.other W10 (Ne.symm (Nat.ne_of_lt (Nat.lt_of_lt_of_le E_a1.lt sz_b2_2_8_6)))).other W13 (Ne.symm (Nat.ne_of_lt (Nat.lt_of_lt_of_le E_a1.lt sz_b2_2_8_6))))
 exact Go.ret (Q := Qm32U_f Z a1 a2 v0 v1 kc u_coder_a1 u_value_a1 w4 h0 n0) X13 (v := none) (fun _ => rfl) hlk (fun fs hr => X13.returnOut hx hret (H d3_57) hr) e13 ⟨b2_2_8_6, k2_2_8_6, rfl, N13, K13, f_14, f_15, Fw13, f_16⟩ (by decide) (by decide)
def Qm32L_f (Z : State) (a1 : Addr) (a2 : Addr) (v0 : Int32) (v1 : Int32) (kc : ClassId) (u_coder_a1 : Value) (u_value_a1 : Value) (w4 : Int32) (h0 : Heap) (n0 : Nat) (v : Option Value) (h : Heap) (L : List Loc) : Prop := ∃ (b2_6 : Addr) (k2_6 : ClassId), v = none ∧ Fr n0 L ∧ Keep h0 h [a1] ∧ Exa Z h a1 s0_ ∧ Fld Z h a1 s0_ "coder" "B" (.int i0) ∧ Fld Z h a1 s0_ "value" "[B" (.ref b2_6) ∧ Arv Z h b2_6 k2_6 .byte i2 [(.int (nar .byte (v0.toInt8.toInt32))), (.int (nar .byte (v1.toInt8.toInt32)))] (.int i0)
theorem rm32L_f (l : Launch) (Z : State) (a0 : Array Value) (hw : Hw a0 Z) (a1 : Addr) (a2 : Addr) (v0 : Int32) (v1 : Int32) (kc : ClassId) (u_coder_a1 : Value) (u_value_a1 : Value) (w4 : Int32) (h0 : Heap) (n0 : Nat) (Z0 : n0 ≤ h0.size) (E_a1 : Exa Z h0 a1 s0_) (V_a2 : Arv Z h0 a2 kc .char i2 [(.int v0), (.int v1)] (.int i0)) (hb0 : 0 ≤ v0.toInt ∧ v0.toInt ≤ 65535) (hb1 : 0 ≤ v1.toInt ∧ v1.toInt ≤ 65535) (S__assertionsDisabled : Sta Z h0 s1_ s2_ "Z" (.int i1)) (S_HI_BYTE_SHIFT : Sta Z h0 s1_ s3_ "I" (.int i0)) (S_LO_BYTE_SHIFT : Sta Z h0 s1_ s4_ "I" (.int i8)) (F_coder_a1 : Fld Z h0 a1 s0_ "coder" "B" u_coder_a1) (F_value_a1 : Fld Z h0 a1 s0_ "value" "[B" u_value_a1) (g_a1 : n0 ≤ a1) (hne_a2_a1 : ¬ (a2 = a1)) (hv0 : ¬ (i255 < v0)) (hv1 : ¬ (i255 < v1)) (S_COMPACT_STRINGS : Sta Z h0 s0_ s5_ "Z" (.int w4)) (hd3 : ¬ (w4 = i0)) :
  Met l Z h0 yy15 jdk_42_method_149_code 6 none (rmk 2 1 2 35) #[(.ref a1), (.ref a2), (.int i0), (.int i2), .null] (Qm32L_f Z a1 a2 v0 v1 kc u_coder_a1 u_value_a1 w4 h0 n0) := by
 refine enter (plainFor_of_name pn_3) (fun m => ef_32L m a1 a2 i0 i2) fun p e s m below meth c s₁ hx hby hml hown hnm hZ X0 e0 hret hlk => ?_
 have N0 := Fr.nil n0; have H := @hb c _ hby
 refine g_aloadN X0 hx (H d3_0) rfl rfl ?_
 refine g_initO X0 hx hZ hown (tw17 hw) (tw18 hw) (tw19 hw) e0 (by rw [hml]; rfl) (H d3_1) (by decide) 0 (Nat.le_of_eq rfl) (by decide) fun T3 X3 e3 => ?_
 refine g_iloadN X3 hx (H d3_4) rfl ?_
 refine g_ifYes X3 hx 27 (H d3_5) (feq (by decide : ¬ (i2 = i0))).2 (by decide) (by decide) ?_
 refine g_getS X3 hx hZ hown (tw47 hw) e3 S_COMPACT_STRINGS (H d3_27) fun T5 X5 e5 => ?_
 refine g_ifNo X5 hx (H d3_30) (feq hd3).1 ?_
 refine g_aloadN X5 hx (H d3_33) rfl rfl ?_
 refine g_iloadN X5 hx (H d3_34) rfl ?_
 refine g_iloadN X5 hx (H d3_35) rfl ?_
 refine g_static X5 hx hZ (rm152_ff l Z a0 hw a2 v0 v1 kc h0 n0 Z0 V_a2 hb0 hb1 S__assertionsDisabled S_HI_BYTE_SHIFT S_LO_BYTE_SHIFT hv0 hv1) hown (tw72 hw) (tw73 hw) (tw74 hw) (tw75 hw) (by decide) 0 (by decide) (by decide) (by rw [hml]; rfl) [(.ref a2), (.int i0), (.int i2)] [] (lenOf pd_4 rfl) (Nat.le_of_eq rfl) e5 (by decide) (by decide) rfl rfl (H d3_36) fun v6 T6 Lc6 X6 hQ6 => ?_
 obtain ⟨b2_6, k2_6, rfl, N6q, Kc6, P6_0, P6_1, P6_2⟩ := hQ6
 have K6 : Keep h0 T6.heap [a1] := (Keep.refl h0 [a1]).trans Kc6 all0
 have g_b2_6 := P6_0
 have sz_b2_6 : h0.size ≤ b2_6 := P6_1
 have N6 := Fr.app N0 N6q
 show Gs p e below _ T6 m 39 #[rv a1, rv a2, iv i0, iv i2, .val .null, .unset] [(.ref b2_6)]
 refine g_astore X6 hx (H d3_39) rfl (l' := #[rv a1, rv a2, iv i0, iv i2, .val .null, rv b2_6]) rfl ?_
 refine g_aloadN X6 hx (H d3_41) rfl rfl ?_
 refine g_aload X6 hx (H d3_42) rfl rfl ?_
 refine g_iloadN X6 hx (H d3_44) rfl ?_
 refine g_static X6 hx hZ (rm172_o l Z a0 hw b2_6 T6.heap n0 (Nat.le_trans Z0 K6.1) (Arv.arn P6_2)) hown (tw79 hw) (tw80 hw) (tw74 hw) (tw81 hw) (by decide) 1 (by decide) (by decide) (by rw [hml]; rfl) [(.ref b2_6), (.int i2)] [(.ref a1)] (lenOf pd_6 rfl) (Nat.le_of_eq rfl) rfl (by decide) (by decide) rfl rfl (H d3_45) fun v7 T7 Lc7 X7 hQ7 => ?_
 obtain ⟨rfl, N7q, eq7⟩ := hQ7
 have N7 := Fr.app N6 N7q
 show Gs p e below _ T7 m 48 #[rv a1, rv a2, iv i0, iv i2, .val .null, rv b2_6] [(.int i0), (.ref a1)]
 have f_8 := (E_a1.keep Kc6)
 have f_9 := (F_coder_a1.keep Kc6 nin0)
 refine g_putFN X7 hx hZ hown (tw27 hw) Via.refl eq7 f_9 f_8 (Or.inr ⟨(tw23 hw), rfl, hnm⟩) (tw7 hw) (ty := .byte) (v' := (.int i0)) (by decide) rfl (fits_nar_byte i0) (H d3_48) fun T10 h10 X10 e10 W10 => ?_
 have Fw10 : Fld Z h10 a1 s0_ "coder" "B" (.int i0) := Fld.same W10 f_9
 have K10 : Keep h0 h10 [a1] := K6.wr W10 (Or.inl (List.mem_of_getElem? (i := 0) rfl))
 have N10 := Fr.snoc X10 N7 g_a1
 refine g_aloadN X10 hx (H d3_51) rfl rfl ?_
 refine g_aload X10 hx (H d3_52) rfl rfl ?_
 have f_11 := (Exa.wr W10 f_8)
 have f_12 := (Fld.other W10 (F_value_a1.keep Kc6 nin0) (Or.inr (slot_ne (Or.inr (tw22 hw)) (Or.inr (tw23 hw)) (by decide) (t := (.array .byte)) (t' := .byte) (by decide) (by decide))))
 refine g_putF X10 hx hZ hown (tw26 hw) Via.refl e10 f_12 f_11 (Or.inr ⟨(tw22 hw), rfl, hnm⟩) (tw7 hw) (ty := (.array .byte)) (by decide) rfl rfl (H d3_54) fun T13 h13 X13 e13 W13 => ?_
 have Fw13 : Fld Z h13 a1 s0_ "value" "[B" (.ref b2_6) := Fld.same W13 f_12
 have K13 : Keep h0 h13 [a1] := K10.wr W13 (Or.inl (List.mem_of_getElem? (i := 0) rfl))
 have N13 := Fr.snoc X13 N10 g_a1
 have f_14 := (Exa.wr W13 f_11)
 have f_15 := (Fld.other W13 Fw10 (Or.inr (slot_ne (Or.inr (tw23 hw)) (Or.inr (tw22 hw)) (by decide) (t := .byte) (t' := (.array .byte)) (by decide) (by decide))))
 have f_16 := ((P6_2.other W10 (Ne.symm (Nat.ne_of_lt (Nat.lt_of_lt_of_le E_a1.lt sz_b2_6)))).other W13 (Ne.symm (Nat.ne_of_lt (Nat.lt_of_lt_of_le E_a1.lt sz_b2_6))))
 exact Go.ret (Q := Qm32L_f Z a1 a2 v0 v1 kc u_coder_a1 u_value_a1 w4 h0 n0) X13 (v := none) (fun _ => rfl) hlk (fun fs hr => X13.returnOut hx hret (H d3_57) hr) e13 ⟨b2_6, k2_6, rfl, N13, K13, f_14, f_15, Fw13, f_16⟩ (by decide) (by decide)
def Qm22U_f (Z : State) (a1 : Addr) (a2 : Addr) (v0 : Int32) (v1 : Int32) (kc : ClassId) (u_coder_a1 : Value) (u_value_a1 : Value) (w4 : Int32) (h0 : Heap) (n0 : Nat) (v : Option Value) (h : Heap) (L : List Loc) : Prop := ∃ (b2_2_8_6_5 : Addr) (k2_2_8_6_5 : ClassId), v = none ∧ Fr n0 L ∧ Keep h0 h [a1] ∧ Exa Z h a1 s0_ ∧ Fld Z h a1 s0_ "coder" "B" (.int i1) ∧ Fld Z h a1 s0_ "value" "[B" (.ref b2_2_8_6_5) ∧ Arv Z h b2_2_8_6_5 k2_2_8_6_5 .byte i4 [(.int (nar .byte ((v0 >>> (i0 &&& 31)).toInt8.toInt32))), (.int (nar .byte ((v0 >>> (i8 &&& 31)).toInt8.toInt32))), (.int (nar .byte ((v1 >>> (i0 &&& 31)).toInt8.toInt32))), (.int (nar .byte ((v1 >>> (i8 &&& 31)).toInt8.toInt32)))] (.int i0)
theorem rm22U_f (l : Launch) (Z : State) (a0 : Array Value) (hw : Hw a0 Z) (a1 : Addr) (a2 : Addr) (v0 : Int32) (v1 : Int32) (kc : ClassId) (u_coder_a1 : Value) (u_value_a1 : Value) (w4 : Int32) (h0 : Heap) (n0 : Nat) (Z0 : n0 ≤ h0.size) (E_a1 : Exa Z h0 a1 s0_) (V_a2 : Arv Z h0 a2 kc .char i2 [(.int v0), (.int v1)] (.int i0)) (hb0 : 0 ≤ v0.toInt ∧ v0.toInt ≤ 65535) (hb1 : 0 ≤ v1.toInt ∧ v1.toInt ≤ 65535) (S__assertionsDisabled : Sta Z h0 s1_ s2_ "Z" (.int i1)) (S_HI_BYTE_SHIFT : Sta Z h0 s1_ s3_ "I" (.int i0)) (S_LO_BYTE_SHIFT : Sta Z h0 s1_ s4_ "I" (.int i8)) (F_coder_a1 : Fld Z h0 a1 s0_ "coder" "B" u_coder_a1) (F_value_a1 : Fld Z h0 a1 s0_ "value" "[B" u_value_a1) (g_a1 : n0 ≤ a1) (hne_a2_a1 : ¬ (a2 = a1)) (hU : i255 < v0 ∨ i255 < v1) (hd1 : ¬ (w4 = i0)) (S_COMPACT_STRINGS : Sta Z h0 s0_ s5_ "Z" (.int w4)) :
  Met l Z h0 yy16 jdk_42_method_3_code 2 none (rmk 5 2 6 74) #[(.ref a1), (.ref a2)] (Qm22U_f Z a1 a2 v0 v1 kc u_coder_a1 u_value_a1 w4 h0 n0) := by
 refine enter (plainFor_of_name pn_2) (fun m => ef_2 m a1 a2) fun p e s m below meth c s₁ hx hby hml hown hnm hZ X0 e0 hret hlk => ?_
 have N0 := Fr.nil n0; have H := @hb c _ hby
 refine g_aloadN X0 hx (H d2_0) rfl rfl ?_
 refine g_aloadN X0 hx (H d2_1) rfl rfl ?_
 refine g_iconst X0 hx i0 (H d2_2) rfl ?_
 refine g_aloadN X0 hx (H d2_3) rfl rfl ?_
 obtain ⟨clq3, Arq3, caq3, saq3, naq3, haq3, gaq3⟩ := id V_a2
 refine g_len X0 hx hZ e0 Arq3 saq3 naq3 (H d2_4) ?_
 refine g_aconstNull X0 hx (H d2_5) ?_
 refine g_special X0 hx hZ (rm32U_f l Z a0 hw a1 a2 v0 v1 kc u_coder_a1 u_value_a1 w4 h0 n0 Z0 E_a1 V_a2 hb0 hb1 S__assertionsDisabled S_HI_BYTE_SHIFT S_LO_BYTE_SHIFT F_coder_a1 F_value_a1 g_a1 hne_a2_a1 hU S_COMPACT_STRINGS hd1) rfl rfl hown (tw13 hw) (tw14 hw) (tw8 hw) (tw16 hw) (by decide) 0 (by decide) (by decide) (by rw [hml]; rfl) [(.ref a2), (.int i0), (.int i2), .null] [] (lenOf pd_7 rfl) (Nat.le_of_eq rfl) e0 (by decide) (by decide) rfl rfl (H d2_6) fun v5 T5 Lc5 X5 hQ5 => ?_
 obtain ⟨b2_2_8_6_5, k2_2_8_6_5, rfl, N5q, Kc5, P5_0, P5_1, P5_2, P5_3⟩ := hQ5
 have K5 : Keep h0 T5.heap [a1] := (Keep.refl h0 [a1]).trans Kc5 (allS (Or.inl (List.mem_of_getElem? (i := 0) rfl)) all0)
 have N5 := Fr.app N0 N5q
 show Gs p e below _ T5 m 9 #[rv a1, rv a2] []
 exact Go.ret (Q := Qm22U_f Z a1 a2 v0 v1 kc u_coder_a1 u_value_a1 w4 h0 n0) X5 (v := none) (fun _ => rfl) hlk (fun fs hr => X5.returnOut hx hret (H d2_9) hr) rfl ⟨b2_2_8_6_5, k2_2_8_6_5, rfl, N5, K5, P5_0, P5_1, P5_2, P5_3⟩ (by decide) (by decide)
def Qm22L_f (Z : State) (a1 : Addr) (a2 : Addr) (v0 : Int32) (v1 : Int32) (kc : ClassId) (u_coder_a1 : Value) (u_value_a1 : Value) (w4 : Int32) (h0 : Heap) (n0 : Nat) (v : Option Value) (h : Heap) (L : List Loc) : Prop := ∃ (b2_6_5 : Addr) (k2_6_5 : ClassId), v = none ∧ Fr n0 L ∧ Keep h0 h [a1] ∧ Exa Z h a1 s0_ ∧ Fld Z h a1 s0_ "coder" "B" (.int i0) ∧ Fld Z h a1 s0_ "value" "[B" (.ref b2_6_5) ∧ Arv Z h b2_6_5 k2_6_5 .byte i2 [(.int (nar .byte (v0.toInt8.toInt32))), (.int (nar .byte (v1.toInt8.toInt32)))] (.int i0)
theorem rm22L_f (l : Launch) (Z : State) (a0 : Array Value) (hw : Hw a0 Z) (a1 : Addr) (a2 : Addr) (v0 : Int32) (v1 : Int32) (kc : ClassId) (u_coder_a1 : Value) (u_value_a1 : Value) (w4 : Int32) (h0 : Heap) (n0 : Nat) (Z0 : n0 ≤ h0.size) (E_a1 : Exa Z h0 a1 s0_) (V_a2 : Arv Z h0 a2 kc .char i2 [(.int v0), (.int v1)] (.int i0)) (hb0 : 0 ≤ v0.toInt ∧ v0.toInt ≤ 65535) (hb1 : 0 ≤ v1.toInt ∧ v1.toInt ≤ 65535) (S__assertionsDisabled : Sta Z h0 s1_ s2_ "Z" (.int i1)) (S_HI_BYTE_SHIFT : Sta Z h0 s1_ s3_ "I" (.int i0)) (S_LO_BYTE_SHIFT : Sta Z h0 s1_ s4_ "I" (.int i8)) (F_coder_a1 : Fld Z h0 a1 s0_ "coder" "B" u_coder_a1) (F_value_a1 : Fld Z h0 a1 s0_ "value" "[B" u_value_a1) (g_a1 : n0 ≤ a1) (hne_a2_a1 : ¬ (a2 = a1)) (hv0 : ¬ (i255 < v0)) (hv1 : ¬ (i255 < v1)) (hd3 : ¬ (w4 = i0)) (S_COMPACT_STRINGS : Sta Z h0 s0_ s5_ "Z" (.int w4)) :
  Met l Z h0 yy16 jdk_42_method_3_code 2 none (rmk 3 1 2 52) #[(.ref a1), (.ref a2)] (Qm22L_f Z a1 a2 v0 v1 kc u_coder_a1 u_value_a1 w4 h0 n0) := by
 refine enter (plainFor_of_name pn_2) (fun m => ef_2 m a1 a2) fun p e s m below meth c s₁ hx hby hml hown hnm hZ X0 e0 hret hlk => ?_
 have N0 := Fr.nil n0; have H := @hb c _ hby
 refine g_aloadN X0 hx (H d2_0) rfl rfl ?_
 refine g_aloadN X0 hx (H d2_1) rfl rfl ?_
 refine g_iconst X0 hx i0 (H d2_2) rfl ?_
 refine g_aloadN X0 hx (H d2_3) rfl rfl ?_
 obtain ⟨clq3, Arq3, caq3, saq3, naq3, haq3, gaq3⟩ := id V_a2
 refine g_len X0 hx hZ e0 Arq3 saq3 naq3 (H d2_4) ?_
 refine g_aconstNull X0 hx (H d2_5) ?_
 refine g_special X0 hx hZ (rm32L_f l Z a0 hw a1 a2 v0 v1 kc u_coder_a1 u_value_a1 w4 h0 n0 Z0 E_a1 V_a2 hb0 hb1 S__assertionsDisabled S_HI_BYTE_SHIFT S_LO_BYTE_SHIFT F_coder_a1 F_value_a1 g_a1 hne_a2_a1 hv0 hv1 S_COMPACT_STRINGS hd3) rfl rfl hown (tw13 hw) (tw14 hw) (tw8 hw) (tw16 hw) (by decide) 0 (by decide) (by decide) (by rw [hml]; rfl) [(.ref a2), (.int i0), (.int i2), .null] [] (lenOf pd_7 rfl) (Nat.le_of_eq rfl) e0 (by decide) (by decide) rfl rfl (H d2_6) fun v5 T5 Lc5 X5 hQ5 => ?_
 obtain ⟨b2_6_5, k2_6_5, rfl, N5q, Kc5, P5_0, P5_1, P5_2, P5_3⟩ := hQ5
 have K5 : Keep h0 T5.heap [a1] := (Keep.refl h0 [a1]).trans Kc5 (allS (Or.inl (List.mem_of_getElem? (i := 0) rfl)) all0)
 have N5 := Fr.app N0 N5q
 show Gs p e below _ T5 m 9 #[rv a1, rv a2] []
 exact Go.ret (Q := Qm22L_f Z a1 a2 v0 v1 kc u_coder_a1 u_value_a1 w4 h0 n0) X5 (v := none) (fun _ => rfl) hlk (fun fs hr => X5.returnOut hx hret (H d2_9) hr) rfl ⟨b2_6_5, k2_6_5, rfl, N5, K5, P5_0, P5_1, P5_2, P5_3⟩ (by decide) (by decide)
def Qm223_o (Z : State)  (h0 : Heap) (n0 : Nat) (v : Option Value) (h : Heap) (L : List Loc) : Prop := v = some (.int i6) ∧ Fr n0 L ∧ h = h0
theorem rm223_o (l : Launch) (Z : State) (a0 : Array Value) (hw : Hw a0 Z)  (h0 : Heap) (n0 : Nat) (Z0 : n0 ≤ h0.size) :
  Met l Z h0 yy7 jdk_52_method_3_code 1 (some .int) (rmk 0 0 0 0) #[(.int i3)] (Qm223_o Z  h0 n0) := by
 refine enter (plainFor_of_name pn_22) (fun m => ef_22 m i3) fun p e s m below meth c s₁ hx hby hml hown hnm hZ X0 e0 hret hlk => ?_
 have N0 := Fr.nil n0; have H := @hb c _ hby
 refine g_iloadN X0 hx (H d22_0) rfl ?_
 refine g_ifYes X0 hx 12 (H d22_1) (flt (by decide : ¬ (i3 < i0))).2.1 (by decide) (by decide) ?_
 refine g_iloadN X0 hx (H d22_12) rfl ?_
 refine Go.st (fun _ kk => X0.ldcInt hx hown (mvT hZ (tw97 hw)) (g := (mkF m 13 #[iv i3] [(.int i3)])) rfl (H d22_13) _ kk) ?_
 show Gs p e below _ s₁ m 15 #[iv i3] [(.int i1073741823), (.int i3)]
 refine g_icmpYes X0 hx 55 (H d22_15) (tlt (by decide : (i3 < i1073741823))).1 (by decide) (by decide) ?_
 refine g_iloadN X0 hx (H d22_55) rfl ?_
 refine g_iconst X0 hx i1 (H d22_56) rfl ?_
 refine g_ishl X0 hx (H d22_57) ?_
 rw [show (i3 <<< (i1 &&& 31)) = i6 from by decide]
 show Gs p e below _ s₁ m 58 #[iv i3] [(.int i6)]
 exact Go.ret (Q := Qm223_o Z  h0 n0) X0 (v := some (.int i6)) (fun h => by rw [hret] at h; cases h) hlk (fun fs hr => retOut X0 hx hret rfl (Or.inl ⟨rfl, Or.inl rfl, _, rfl⟩) (H d22_58) hr) e0 ⟨rfl, N0, rfl⟩ (by decide) (by decide)
def Qm213_o (Z : State)  (h0 : Heap) (n0 : Nat) (v : Option Value) (h : Heap) (L : List Loc) : Prop := ∃ (b2 : Addr) (k2 : ClassId), v = some (.ref b2) ∧ Fr n0 L ∧ Keep h0 h [] ∧ n0 ≤ b2 ∧ h0.size ≤ b2 ∧ Arv Z h b2 k2 .byte i6 [(.int i0), (.int i0), (.int i0), (.int i0), (.int i0), (.int i0)] (.int i0)
theorem rm213_o (l : Launch) (Z : State) (a0 : Array Value) (hw : Hw a0 Z)  (h0 : Heap) (n0 : Nat) (Z0 : n0 ≤ h0.size) :
  Met l Z h0 yy8 jdk_52_method_2_code 1 (some (.array .byte)) (rmk 1 1 6 12) #[(.int i3)] (Qm213_o Z  h0 n0) := by
 refine enter (plainFor_of_name pn_21) (fun m => ef_21 m i3) fun p e s m below meth c s₁ hx hby hml hown hnm hZ X0 e0 hret hlk => ?_
 have N0 := Fr.nil n0; have H := @hb c _ hby
 refine g_iloadN X0 hx (H d21_0) rfl ?_
 refine g_static X0 hx hZ (rm223_o l Z a0 hw  h0 n0 Z0 ) hown (tw94 hw) (tw95 hw) (tw74 hw) (tw96 hw) (by decide) 0 (by decide) (by decide) (by rw [hml]; rfl) [(.int i3)] [] (lenOf pd_0 rfl) (Nat.le_of_eq rfl) e0 (by decide) (by decide) rfl rfl (H d21_1) fun v1 T1 Lc1 X1 hQ1 => ?_
 obtain ⟨rfl, N1q, eq1⟩ := hQ1
 have N1 := Fr.app N0 N1q
 show Gs p e below _ T1 m 4 #[iv i3] [(.int i6)]
 refine g_newP X1 hx hZ (H d21_4) (tw21 hw) eq1 (by decide) 6 (by decide) (by decide) (by decide) (by decide) fun b2 T2 h2 k2 g2 X2 e2 E2 A2 => ?_
 have g_b2 : n0 ≤ b2 := Nat.le_trans Z0 (Nat.le_of_eq g2.symm)
 have sz_b2 : h0.size ≤ b2 := Nat.le_of_eq g2.symm
 have K2 : Keep h0 h2 [] := (Keep.refl h0 []).ext E2
 have V_b2 : Arv Z h2 b2 k2 .byte i6 [(.int i0), (.int i0), (.int i0), (.int i0), (.int i0), (.int i0)] (.int i0) := (Arv.new A2 (by decide)).pad (pad_rep [] (.int i0) 6)
 exact Go.ret (Q := Qm213_o Z  h0 n0) X2 (v := some (.ref b2)) (fun h => by rw [hret] at h; cases h) hlk (fun fs hr => retOut X2 hx hret rfl (Or.inr (Or.inr (Or.inr (Or.inr ⟨rfl, rfl, rfl⟩)))) (H d21_6) hr) e2 ⟨b2, k2, rfl, N1, K2, g_b2, sz_b2, V_b2⟩ (by decide) (by decide)
def Qm2330_o (Z : State) (a1 : Addr) (p2 : Int32) (y0 : Int32) (y1 : Int32) (y2 : Int32) (y3 : Int32) (y4 : Int32) (y5 : Int32) (kb : ClassId) (h0 : Heap) (n0 : Nat) (v : Option Value) (h : Heap) (L : List Loc) : Prop := v = none ∧ Fr n0 L ∧ Keep h0 h [a1] ∧ Arv Z h a1 kb .byte i6 [(.int (nar .byte ((p2 >>> (i0 &&& 31)).toInt8.toInt32))), (.int (nar .byte ((p2 >>> (i8 &&& 31)).toInt8.toInt32))), (.int y2), (.int y3), (.int y4), (.int y5)] (.int i0)
theorem rm2330_o (l : Launch) (Z : State) (a0 : Array Value) (hw : Hw a0 Z) (a1 : Addr) (p2 : Int32) (y0 : Int32) (y1 : Int32) (y2 : Int32) (y3 : Int32) (y4 : Int32) (y5 : Int32) (kb : ClassId) (h0 : Heap) (n0 : Nat) (Z0 : n0 ≤ h0.size) (V_a1 : Arv Z h0 a1 kb .byte i6 [(.int y0), (.int y1), (.int y2), (.int y3), (.int y4), (.int y5)] (.int i0)) (S__assertionsDisabled : Sta Z h0 s1_ s2_ "Z" (.int i1)) (S_HI_BYTE_SHIFT : Sta Z h0 s1_ s3_ "I" (.int i0)) (S_LO_BYTE_SHIFT : Sta Z h0 s1_ s4_ "I" (.int i8)) (g_a1 : n0 ≤ a1) :
  Met l Z h0 yy9 jdk_52_method_4_code 3 none (rmk 0 0 0 0) #[(.ref a1), (.int i0), (.int p2)] (Qm2330_o Z a1 p2 y0 y1 y2 y3 y4 y5 kb h0 n0) := by
 refine enter (plainFor_of_name pn_23) (fun m => ef_23 m a1 i0 p2) fun p e s m below meth c s₁ hx hby hml hown hnm hZ X0 e0 hret hlk => ?_
 have N0 := Fr.nil n0; have H := @hb c _ hby
 refine g_getS X0 hx hZ hown (tw101 hw) e0 S__assertionsDisabled (H d23_0) fun T3 X3 e3 => ?_
 refine g_ifYes X3 hx 28 (H d23_3) (feq (by decide : ¬ (i1 = i0))).2 (by decide) (by decide) ?_
 refine g_iloadN X3 hx (H d23_28) rfl ?_
 refine g_iconst X3 hx i1 (H d23_29) rfl ?_
 refine g_ishl X3 hx (H d23_30) ?_
 rw [show (i0 <<< (i1 &&& 31)) = i0 from by decide]
 show Gs p e below _ T3 m 31 #[rv a1, iv i0, iv p2] [(.int i0)]
 refine g_istoreN X3 hx (H d23_31) (l' := #[rv a1, iv i0, iv p2]) rfl ?_
 refine g_aloadN X3 hx (H d23_32) rfl rfl ?_
 refine g_iloadN X3 hx (H d23_33) rfl ?_
 refine g_iinc X3 hx (H d23_34) rfl (l' := #[rv a1, iv i1, iv p2]) rfl ?_
 refine g_iloadN X3 hx (H d23_37) rfl ?_
 refine g_getS X3 hx hZ hown (tw102 hw) e3 S_HI_BYTE_SHIFT (H d23_38) fun T4 X4 e4 => ?_
 refine g_ishr X4 hx (H d23_41) ?_
 refine g_i2b X4 hx (H d23_42) ?_
 obtain ⟨clq5, Arq5, caq5, saq5, naq5, haq5, gaq5⟩ := id V_a1
 have inq5 : ¬ (i0 < 0 ∨ clq5.slots.size ≤ (i0).toNatClampNeg) := inb_of saq5 ⟨by decide, by decide⟩
 refine g_stB X4 hx hZ e4 Arq5 inq5 (H d23_43) fun T6 h6 X6 e6 W6 => ?_
 have K6 : Keep h0 h6 [a1] := (Keep.refl h0 [a1]).wr W6 (Or.inl (List.mem_of_getElem? (i := 0) rfl))
 have V6 : Arv Z h6 a1 kb .byte i6 [(.int (nar .byte ((p2 >>> (i0 &&& 31)).toInt8.toInt32))), (.int y1), (.int y2), (.int y3), (.int y4), (.int y5)] (.int i0) := Arv.set Arq5 caq5 saq5 naq5 haq5 gaq5 (fits_nar_byte _) W6 0 rfl (Nat.le_of_ble_eq_true rfl)
 have N6 := Fr.snoc X6 N0 g_a1
 refine g_aloadN X6 hx (H d23_44) rfl rfl ?_
 refine g_iloadN X6 hx (H d23_45) rfl ?_
 refine g_iloadN X6 hx (H d23_46) rfl ?_
 have f_7 := (staKeepA S_LO_BYTE_SHIFT K6 (Arv.arn V_a1))
 refine g_getS X6 hx hZ hown (tw103 hw) e6 f_7 (H d23_47) fun T8 X8 e8 => ?_
 refine g_ishr X8 hx (H d23_50) ?_
 refine g_i2b X8 hx (H d23_51) ?_
 obtain ⟨clq9, Arq9, caq9, saq9, naq9, haq9, gaq9⟩ := id V6
 have inq9 : ¬ (i1 < 0 ∨ clq9.slots.size ≤ (i1).toNatClampNeg) := inb_of saq9 ⟨by decide, by decide⟩
 refine g_stB X8 hx hZ e8 Arq9 inq9 (H d23_52) fun T10 h10 X10 e10 W10 => ?_
 have K10 : Keep h0 h10 [a1] := K6.wr W10 (Or.inl (List.mem_of_getElem? (i := 0) rfl))
 have V10 : Arv Z h10 a1 kb .byte i6 [(.int (nar .byte ((p2 >>> (i0 &&& 31)).toInt8.toInt32))), (.int (nar .byte ((p2 >>> (i8 &&& 31)).toInt8.toInt32))), (.int y2), (.int y3), (.int y4), (.int y5)] (.int i0) := Arv.set Arq9 caq9 saq9 naq9 haq9 gaq9 (fits_nar_byte _) W10 1 rfl (Nat.le_of_ble_eq_true rfl)
 have N10 := Fr.snoc X10 N6 g_a1
 exact Go.ret (Q := Qm2330_o Z a1 p2 y0 y1 y2 y3 y4 y5 kb h0 n0) X10 (v := none) (fun _ => rfl) hlk (fun fs hr => X10.returnOut hx hret (H d23_53) hr) e10 ⟨rfl, N10, K10, V10⟩ (by decide) (by decide)
def Qm2430_o (Z : State) (a1 : Addr) (y0 : Int32) (y1 : Int32) (y2 : Int32) (y3 : Int32) (y4 : Int32) (y5 : Int32) (kb : ClassId) (h0 : Heap) (n0 : Nat) (v : Option Value) (h : Heap) (L : List Loc) : Prop := v = some (.int (nar .char ((((y0 &&& i255) <<< (i0 &&& 31)) ||| ((y1 &&& i255) <<< (i8 &&& 31))).toUInt32.toUInt16.toUInt32.toInt32))) ∧ Fr n0 L ∧ h = h0
theorem rm2430_o (l : Launch) (Z : State) (a0 : Array Value) (hw : Hw a0 Z) (a1 : Addr) (y0 : Int32) (y1 : Int32) (y2 : Int32) (y3 : Int32) (y4 : Int32) (y5 : Int32) (kb : ClassId) (h0 : Heap) (n0 : Nat) (Z0 : n0 ≤ h0.size) (V_a1 : Arv Z h0 a1 kb .byte i6 [(.int y0), (.int y1), (.int y2), (.int y3), (.int y4), (.int y5)] (.int i0)) (S__assertionsDisabled : Sta Z h0 s1_ s2_ "Z" (.int i1)) (S_HI_BYTE_SHIFT : Sta Z h0 s1_ s3_ "I" (.int i0)) (S_LO_BYTE_SHIFT : Sta Z h0 s1_ s4_ "I" (.int i8)) :
  Met l Z h0 yy10 jdk_52_method_5_code 2 (some .char) (rmk 0 0 0 0) #[(.ref a1), (.int i0)] (Qm2430_o Z a1 y0 y1 y2 y3 y4 y5 kb h0 n0) := by
 refine enter (plainFor_of_name pn_24) (fun m => ef_24 m a1 i0) fun p e s m below meth c s₁ hx hby hml hown hnm hZ X0 e0 hret hlk => ?_
 have N0 := Fr.nil n0; have H := @hb c _ hby
 refine g_getS X0 hx hZ hown (tw101 hw) e0 S__assertionsDisabled (H d24_0) fun T2 X2 e2 => ?_
 refine g_ifYes X2 hx 28 (H d24_3) (feq (by decide : ¬ (i1 = i0))).2 (by decide) (by decide) ?_
 refine g_iloadN X2 hx (H d24_28) rfl ?_
 refine g_iconst X2 hx i1 (H d24_29) rfl ?_
 refine g_ishl X2 hx (H d24_30) ?_
 rw [show (i0 <<< (i1 &&& 31)) = i0 from by decide]
 show Gs p e below _ T2 m 31 #[rv a1, iv i0] [(.int i0)]
 refine g_istoreN X2 hx (H d24_31) (l' := #[rv a1, iv i0]) rfl ?_
 refine g_aloadN X2 hx (H d24_32) rfl rfl ?_
 refine g_iloadN X2 hx (H d24_33) rfl ?_
 refine g_iinc X2 hx (H d24_34) rfl (l' := #[rv a1, iv i1]) rfl ?_
 obtain ⟨clq3, Arq3, caq3, saq3, naq3, haq3, gaq3⟩ := id V_a1
 have inq3 : ¬ (i0 < 0 ∨ clq3.slots.size ≤ (i0).toNatClampNeg) := inb_of saq3 ⟨by decide, by decide⟩
 have atq3 : clq3.slots[(i0).toNatClampNeg]? = some (.int y0) := haq3.at inq3 rfl
 refine g_baload X2 hx hZ e2 Arq3 inq3 atq3 (H d24_37) ?_
 refine g_sipush X2 hx i255 (H d24_38) rfl ?_
 refine g_iand X2 hx (H d24_41) ?_
 refine g_getS X2 hx hZ hown (tw102 hw) e2 S_HI_BYTE_SHIFT (H d24_42) fun T4 X4 e4 => ?_
 refine g_ishl X4 hx (H d24_45) ?_
 refine g_aloadN X4 hx (H d24_46) rfl rfl ?_
 refine g_iloadN X4 hx (H d24_47) rfl ?_
 obtain ⟨clq5, Arq5, caq5, saq5, naq5, haq5, gaq5⟩ := id V_a1
 have inq5 : ¬ (i1 < 0 ∨ clq5.slots.size ≤ (i1).toNatClampNeg) := inb_of saq5 ⟨by decide, by decide⟩
 have atq5 : clq5.slots[(i1).toNatClampNeg]? = some (.int y1) := haq5.at inq5 rfl
 refine g_baload X4 hx hZ e4 Arq5 inq5 atq5 (H d24_48) ?_
 refine g_sipush X4 hx i255 (H d24_49) rfl ?_
 refine g_iand X4 hx (H d24_52) ?_
 refine g_getS X4 hx hZ hown (tw103 hw) e4 S_LO_BYTE_SHIFT (H d24_53) fun T6 X6 e6 => ?_
 refine g_ishl X6 hx (H d24_56) ?_
 refine g_ior X6 hx (H d24_57) ?_
 refine g_i2c X6 hx (H d24_58) ?_
 exact Go.ret (Q := Qm2430_o Z a1 y0 y1 y2 y3 y4 y5 kb h0 n0) X6 (v := some (.int (nar .char ((((y0 &&& i255) <<< (i0 &&& 31)) ||| ((y1 &&& i255) <<< (i8 &&& 31))).toUInt32.toUInt16.toUInt32.toInt32)))) (fun h => by rw [hret] at h; cases h) hlk (fun fs hr => retN X6 hx (t := .char) hret (by simp) (H d24_59) hr) e6 ⟨rfl, N0, rfl⟩ (by decide) (by decide)
def Qm2331_o (Z : State) (a1 : Addr) (p2 : Int32) (y0 : Int32) (y1 : Int32) (y2 : Int32) (y3 : Int32) (y4 : Int32) (y5 : Int32) (kb : ClassId) (h0 : Heap) (n0 : Nat) (v : Option Value) (h : Heap) (L : List Loc) : Prop := v = none ∧ Fr n0 L ∧ Keep h0 h [a1] ∧ Arv Z h a1 kb .byte i6 [(.int y0), (.int y1), (.int (nar .byte ((p2 >>> (i0 &&& 31)).toInt8.toInt32))), (.int (nar .byte ((p2 >>> (i8 &&& 31)).toInt8.toInt32))), (.int y4), (.int y5)] (.int i0)
theorem rm2331_o (l : Launch) (Z : State) (a0 : Array Value) (hw : Hw a0 Z) (a1 : Addr) (p2 : Int32) (y0 : Int32) (y1 : Int32) (y2 : Int32) (y3 : Int32) (y4 : Int32) (y5 : Int32) (kb : ClassId) (h0 : Heap) (n0 : Nat) (Z0 : n0 ≤ h0.size) (V_a1 : Arv Z h0 a1 kb .byte i6 [(.int y0), (.int y1), (.int y2), (.int y3), (.int y4), (.int y5)] (.int i0)) (S__assertionsDisabled : Sta Z h0 s1_ s2_ "Z" (.int i1)) (S_HI_BYTE_SHIFT : Sta Z h0 s1_ s3_ "I" (.int i0)) (S_LO_BYTE_SHIFT : Sta Z h0 s1_ s4_ "I" (.int i8)) (g_a1 : n0 ≤ a1) :
  Met l Z h0 yy9 jdk_52_method_4_code 3 none (rmk 0 0 0 0) #[(.ref a1), (.int i1), (.int p2)] (Qm2331_o Z a1 p2 y0 y1 y2 y3 y4 y5 kb h0 n0) := by
 refine enter (plainFor_of_name pn_23) (fun m => ef_23 m a1 i1 p2) fun p e s m below meth c s₁ hx hby hml hown hnm hZ X0 e0 hret hlk => ?_
 have N0 := Fr.nil n0; have H := @hb c _ hby
 refine g_getS X0 hx hZ hown (tw101 hw) e0 S__assertionsDisabled (H d23_0) fun T3 X3 e3 => ?_
 refine g_ifYes X3 hx 28 (H d23_3) (feq (by decide : ¬ (i1 = i0))).2 (by decide) (by decide) ?_
 refine g_iloadN X3 hx (H d23_28) rfl ?_
 refine g_iconst X3 hx i1 (H d23_29) rfl ?_
 refine g_ishl X3 hx (H d23_30) ?_
 rw [show (i1 <<< (i1 &&& 31)) = i2 from by decide]
 show Gs p e below _ T3 m 31 #[rv a1, iv i1, iv p2] [(.int i2)]
 refine g_istoreN X3 hx (H d23_31) (l' := #[rv a1, iv i2, iv p2]) rfl ?_
 refine g_aloadN X3 hx (H d23_32) rfl rfl ?_
 refine g_iloadN X3 hx (H d23_33) rfl ?_
 refine g_iinc X3 hx (H d23_34) rfl (l' := #[rv a1, iv i3, iv p2]) rfl ?_
 refine g_iloadN X3 hx (H d23_37) rfl ?_
 refine g_getS X3 hx hZ hown (tw102 hw) e3 S_HI_BYTE_SHIFT (H d23_38) fun T4 X4 e4 => ?_
 refine g_ishr X4 hx (H d23_41) ?_
 refine g_i2b X4 hx (H d23_42) ?_
 obtain ⟨clq5, Arq5, caq5, saq5, naq5, haq5, gaq5⟩ := id V_a1
 have inq5 : ¬ (i2 < 0 ∨ clq5.slots.size ≤ (i2).toNatClampNeg) := inb_of saq5 ⟨by decide, by decide⟩
 refine g_stB X4 hx hZ e4 Arq5 inq5 (H d23_43) fun T6 h6 X6 e6 W6 => ?_
 have K6 : Keep h0 h6 [a1] := (Keep.refl h0 [a1]).wr W6 (Or.inl (List.mem_of_getElem? (i := 0) rfl))
 have V6 : Arv Z h6 a1 kb .byte i6 [(.int y0), (.int y1), (.int (nar .byte ((p2 >>> (i0 &&& 31)).toInt8.toInt32))), (.int y3), (.int y4), (.int y5)] (.int i0) := Arv.set Arq5 caq5 saq5 naq5 haq5 gaq5 (fits_nar_byte _) W6 2 rfl (Nat.le_of_ble_eq_true rfl)
 have N6 := Fr.snoc X6 N0 g_a1
 refine g_aloadN X6 hx (H d23_44) rfl rfl ?_
 refine g_iloadN X6 hx (H d23_45) rfl ?_
 refine g_iloadN X6 hx (H d23_46) rfl ?_
 have f_7 := (staKeepA S_LO_BYTE_SHIFT K6 (Arv.arn V_a1))
 refine g_getS X6 hx hZ hown (tw103 hw) e6 f_7 (H d23_47) fun T8 X8 e8 => ?_
 refine g_ishr X8 hx (H d23_50) ?_
 refine g_i2b X8 hx (H d23_51) ?_
 obtain ⟨clq9, Arq9, caq9, saq9, naq9, haq9, gaq9⟩ := id V6
 have inq9 : ¬ (i3 < 0 ∨ clq9.slots.size ≤ (i3).toNatClampNeg) := inb_of saq9 ⟨by decide, by decide⟩
 refine g_stB X8 hx hZ e8 Arq9 inq9 (H d23_52) fun T10 h10 X10 e10 W10 => ?_
 have K10 : Keep h0 h10 [a1] := K6.wr W10 (Or.inl (List.mem_of_getElem? (i := 0) rfl))
 have V10 : Arv Z h10 a1 kb .byte i6 [(.int y0), (.int y1), (.int (nar .byte ((p2 >>> (i0 &&& 31)).toInt8.toInt32))), (.int (nar .byte ((p2 >>> (i8 &&& 31)).toInt8.toInt32))), (.int y4), (.int y5)] (.int i0) := Arv.set Arq9 caq9 saq9 naq9 haq9 gaq9 (fits_nar_byte _) W10 3 rfl (Nat.le_of_ble_eq_true rfl)
 have N10 := Fr.snoc X10 N6 g_a1
 exact Go.ret (Q := Qm2331_o Z a1 p2 y0 y1 y2 y3 y4 y5 kb h0 n0) X10 (v := none) (fun _ => rfl) hlk (fun fs hr => X10.returnOut hx hret (H d23_53) hr) e10 ⟨rfl, N10, K10, V10⟩ (by decide) (by decide)
def Qm2431_o (Z : State) (a1 : Addr) (y0 : Int32) (y1 : Int32) (y2 : Int32) (y3 : Int32) (y4 : Int32) (y5 : Int32) (kb : ClassId) (h0 : Heap) (n0 : Nat) (v : Option Value) (h : Heap) (L : List Loc) : Prop := v = some (.int (nar .char ((((y2 &&& i255) <<< (i0 &&& 31)) ||| ((y3 &&& i255) <<< (i8 &&& 31))).toUInt32.toUInt16.toUInt32.toInt32))) ∧ Fr n0 L ∧ h = h0
theorem rm2431_o (l : Launch) (Z : State) (a0 : Array Value) (hw : Hw a0 Z) (a1 : Addr) (y0 : Int32) (y1 : Int32) (y2 : Int32) (y3 : Int32) (y4 : Int32) (y5 : Int32) (kb : ClassId) (h0 : Heap) (n0 : Nat) (Z0 : n0 ≤ h0.size) (V_a1 : Arv Z h0 a1 kb .byte i6 [(.int y0), (.int y1), (.int y2), (.int y3), (.int y4), (.int y5)] (.int i0)) (S__assertionsDisabled : Sta Z h0 s1_ s2_ "Z" (.int i1)) (S_HI_BYTE_SHIFT : Sta Z h0 s1_ s3_ "I" (.int i0)) (S_LO_BYTE_SHIFT : Sta Z h0 s1_ s4_ "I" (.int i8)) :
  Met l Z h0 yy10 jdk_52_method_5_code 2 (some .char) (rmk 0 0 0 0) #[(.ref a1), (.int i1)] (Qm2431_o Z a1 y0 y1 y2 y3 y4 y5 kb h0 n0) := by
 refine enter (plainFor_of_name pn_24) (fun m => ef_24 m a1 i1) fun p e s m below meth c s₁ hx hby hml hown hnm hZ X0 e0 hret hlk => ?_
 have N0 := Fr.nil n0; have H := @hb c _ hby
 refine g_getS X0 hx hZ hown (tw101 hw) e0 S__assertionsDisabled (H d24_0) fun T2 X2 e2 => ?_
 refine g_ifYes X2 hx 28 (H d24_3) (feq (by decide : ¬ (i1 = i0))).2 (by decide) (by decide) ?_
 refine g_iloadN X2 hx (H d24_28) rfl ?_
 refine g_iconst X2 hx i1 (H d24_29) rfl ?_
 refine g_ishl X2 hx (H d24_30) ?_
 rw [show (i1 <<< (i1 &&& 31)) = i2 from by decide]
 show Gs p e below _ T2 m 31 #[rv a1, iv i1] [(.int i2)]
 refine g_istoreN X2 hx (H d24_31) (l' := #[rv a1, iv i2]) rfl ?_
 refine g_aloadN X2 hx (H d24_32) rfl rfl ?_
 refine g_iloadN X2 hx (H d24_33) rfl ?_
 refine g_iinc X2 hx (H d24_34) rfl (l' := #[rv a1, iv i3]) rfl ?_
 obtain ⟨clq3, Arq3, caq3, saq3, naq3, haq3, gaq3⟩ := id V_a1
 have inq3 : ¬ (i2 < 0 ∨ clq3.slots.size ≤ (i2).toNatClampNeg) := inb_of saq3 ⟨by decide, by decide⟩
 have atq3 : clq3.slots[(i2).toNatClampNeg]? = some (.int y2) := haq3.at inq3 rfl
 refine g_baload X2 hx hZ e2 Arq3 inq3 atq3 (H d24_37) ?_
 refine g_sipush X2 hx i255 (H d24_38) rfl ?_
 refine g_iand X2 hx (H d24_41) ?_
 refine g_getS X2 hx hZ hown (tw102 hw) e2 S_HI_BYTE_SHIFT (H d24_42) fun T4 X4 e4 => ?_
 refine g_ishl X4 hx (H d24_45) ?_
 refine g_aloadN X4 hx (H d24_46) rfl rfl ?_
 refine g_iloadN X4 hx (H d24_47) rfl ?_
 obtain ⟨clq5, Arq5, caq5, saq5, naq5, haq5, gaq5⟩ := id V_a1
 have inq5 : ¬ (i3 < 0 ∨ clq5.slots.size ≤ (i3).toNatClampNeg) := inb_of saq5 ⟨by decide, by decide⟩
 have atq5 : clq5.slots[(i3).toNatClampNeg]? = some (.int y3) := haq5.at inq5 rfl
 refine g_baload X4 hx hZ e4 Arq5 inq5 atq5 (H d24_48) ?_
 refine g_sipush X4 hx i255 (H d24_49) rfl ?_
 refine g_iand X4 hx (H d24_52) ?_
 refine g_getS X4 hx hZ hown (tw103 hw) e4 S_LO_BYTE_SHIFT (H d24_53) fun T6 X6 e6 => ?_
 refine g_ishl X6 hx (H d24_56) ?_
 refine g_ior X6 hx (H d24_57) ?_
 refine g_i2c X6 hx (H d24_58) ?_
 exact Go.ret (Q := Qm2431_o Z a1 y0 y1 y2 y3 y4 y5 kb h0 n0) X6 (v := some (.int (nar .char ((((y2 &&& i255) <<< (i0 &&& 31)) ||| ((y3 &&& i255) <<< (i8 &&& 31))).toUInt32.toUInt16.toUInt32.toInt32)))) (fun h => by rw [hret] at h; cases h) hlk (fun fs hr => retN X6 hx (t := .char) hret (by simp) (H d24_59) hr) e6 ⟨rfl, N0, rfl⟩ (by decide) (by decide)
def Qm2332_o (Z : State) (a1 : Addr) (p2 : Int32) (y0 : Int32) (y1 : Int32) (y2 : Int32) (y3 : Int32) (y4 : Int32) (y5 : Int32) (kb : ClassId) (h0 : Heap) (n0 : Nat) (v : Option Value) (h : Heap) (L : List Loc) : Prop := v = none ∧ Fr n0 L ∧ Keep h0 h [a1] ∧ Arv Z h a1 kb .byte i6 [(.int y0), (.int y1), (.int y2), (.int y3), (.int (nar .byte ((p2 >>> (i0 &&& 31)).toInt8.toInt32))), (.int (nar .byte ((p2 >>> (i8 &&& 31)).toInt8.toInt32)))] (.int i0)
theorem rm2332_o (l : Launch) (Z : State) (a0 : Array Value) (hw : Hw a0 Z) (a1 : Addr) (p2 : Int32) (y0 : Int32) (y1 : Int32) (y2 : Int32) (y3 : Int32) (y4 : Int32) (y5 : Int32) (kb : ClassId) (h0 : Heap) (n0 : Nat) (Z0 : n0 ≤ h0.size) (V_a1 : Arv Z h0 a1 kb .byte i6 [(.int y0), (.int y1), (.int y2), (.int y3), (.int y4), (.int y5)] (.int i0)) (S__assertionsDisabled : Sta Z h0 s1_ s2_ "Z" (.int i1)) (S_HI_BYTE_SHIFT : Sta Z h0 s1_ s3_ "I" (.int i0)) (S_LO_BYTE_SHIFT : Sta Z h0 s1_ s4_ "I" (.int i8)) (g_a1 : n0 ≤ a1) :
  Met l Z h0 yy9 jdk_52_method_4_code 3 none (rmk 0 0 0 0) #[(.ref a1), (.int i2), (.int p2)] (Qm2332_o Z a1 p2 y0 y1 y2 y3 y4 y5 kb h0 n0) := by
 refine enter (plainFor_of_name pn_23) (fun m => ef_23 m a1 i2 p2) fun p e s m below meth c s₁ hx hby hml hown hnm hZ X0 e0 hret hlk => ?_
 have N0 := Fr.nil n0; have H := @hb c _ hby
 refine g_getS X0 hx hZ hown (tw101 hw) e0 S__assertionsDisabled (H d23_0) fun T3 X3 e3 => ?_
 refine g_ifYes X3 hx 28 (H d23_3) (feq (by decide : ¬ (i1 = i0))).2 (by decide) (by decide) ?_
 refine g_iloadN X3 hx (H d23_28) rfl ?_
 refine g_iconst X3 hx i1 (H d23_29) rfl ?_
 refine g_ishl X3 hx (H d23_30) ?_
 rw [show (i2 <<< (i1 &&& 31)) = i4 from by decide]
 show Gs p e below _ T3 m 31 #[rv a1, iv i2, iv p2] [(.int i4)]
 refine g_istoreN X3 hx (H d23_31) (l' := #[rv a1, iv i4, iv p2]) rfl ?_
 refine g_aloadN X3 hx (H d23_32) rfl rfl ?_
 refine g_iloadN X3 hx (H d23_33) rfl ?_
 refine g_iinc X3 hx (H d23_34) rfl (l' := #[rv a1, iv i5, iv p2]) rfl ?_
 refine g_iloadN X3 hx (H d23_37) rfl ?_
 refine g_getS X3 hx hZ hown (tw102 hw) e3 S_HI_BYTE_SHIFT (H d23_38) fun T4 X4 e4 => ?_
 refine g_ishr X4 hx (H d23_41) ?_
 refine g_i2b X4 hx (H d23_42) ?_
 obtain ⟨clq5, Arq5, caq5, saq5, naq5, haq5, gaq5⟩ := id V_a1
 have inq5 : ¬ (i4 < 0 ∨ clq5.slots.size ≤ (i4).toNatClampNeg) := inb_of saq5 ⟨by decide, by decide⟩
 refine g_stB X4 hx hZ e4 Arq5 inq5 (H d23_43) fun T6 h6 X6 e6 W6 => ?_
 have K6 : Keep h0 h6 [a1] := (Keep.refl h0 [a1]).wr W6 (Or.inl (List.mem_of_getElem? (i := 0) rfl))
 have V6 : Arv Z h6 a1 kb .byte i6 [(.int y0), (.int y1), (.int y2), (.int y3), (.int (nar .byte ((p2 >>> (i0 &&& 31)).toInt8.toInt32))), (.int y5)] (.int i0) := Arv.set Arq5 caq5 saq5 naq5 haq5 gaq5 (fits_nar_byte _) W6 4 rfl (Nat.le_of_ble_eq_true rfl)
 have N6 := Fr.snoc X6 N0 g_a1
 refine g_aloadN X6 hx (H d23_44) rfl rfl ?_
 refine g_iloadN X6 hx (H d23_45) rfl ?_
 refine g_iloadN X6 hx (H d23_46) rfl ?_
 have f_7 := (staKeepA S_LO_BYTE_SHIFT K6 (Arv.arn V_a1))
 refine g_getS X6 hx hZ hown (tw103 hw) e6 f_7 (H d23_47) fun T8 X8 e8 => ?_
 refine g_ishr X8 hx (H d23_50) ?_
 refine g_i2b X8 hx (H d23_51) ?_
 obtain ⟨clq9, Arq9, caq9, saq9, naq9, haq9, gaq9⟩ := id V6
 have inq9 : ¬ (i5 < 0 ∨ clq9.slots.size ≤ (i5).toNatClampNeg) := inb_of saq9 ⟨by decide, by decide⟩
 refine g_stB X8 hx hZ e8 Arq9 inq9 (H d23_52) fun T10 h10 X10 e10 W10 => ?_
 have K10 : Keep h0 h10 [a1] := K6.wr W10 (Or.inl (List.mem_of_getElem? (i := 0) rfl))
 have V10 : Arv Z h10 a1 kb .byte i6 [(.int y0), (.int y1), (.int y2), (.int y3), (.int (nar .byte ((p2 >>> (i0 &&& 31)).toInt8.toInt32))), (.int (nar .byte ((p2 >>> (i8 &&& 31)).toInt8.toInt32)))] (.int i0) := Arv.set Arq9 caq9 saq9 naq9 haq9 gaq9 (fits_nar_byte _) W10 5 rfl (Nat.le_of_ble_eq_true rfl)
 have N10 := Fr.snoc X10 N6 g_a1
 exact Go.ret (Q := Qm2332_o Z a1 p2 y0 y1 y2 y3 y4 y5 kb h0 n0) X10 (v := none) (fun _ => rfl) hlk (fun fs hr => X10.returnOut hx hret (H d23_53) hr) e10 ⟨rfl, N10, K10, V10⟩ (by decide) (by decide)
def Qm2432_o (Z : State) (a1 : Addr) (y0 : Int32) (y1 : Int32) (y2 : Int32) (y3 : Int32) (y4 : Int32) (y5 : Int32) (kb : ClassId) (h0 : Heap) (n0 : Nat) (v : Option Value) (h : Heap) (L : List Loc) : Prop := v = some (.int (nar .char ((((y4 &&& i255) <<< (i0 &&& 31)) ||| ((y5 &&& i255) <<< (i8 &&& 31))).toUInt32.toUInt16.toUInt32.toInt32))) ∧ Fr n0 L ∧ h = h0
theorem rm2432_o (l : Launch) (Z : State) (a0 : Array Value) (hw : Hw a0 Z) (a1 : Addr) (y0 : Int32) (y1 : Int32) (y2 : Int32) (y3 : Int32) (y4 : Int32) (y5 : Int32) (kb : ClassId) (h0 : Heap) (n0 : Nat) (Z0 : n0 ≤ h0.size) (V_a1 : Arv Z h0 a1 kb .byte i6 [(.int y0), (.int y1), (.int y2), (.int y3), (.int y4), (.int y5)] (.int i0)) (S__assertionsDisabled : Sta Z h0 s1_ s2_ "Z" (.int i1)) (S_HI_BYTE_SHIFT : Sta Z h0 s1_ s3_ "I" (.int i0)) (S_LO_BYTE_SHIFT : Sta Z h0 s1_ s4_ "I" (.int i8)) :
  Met l Z h0 yy10 jdk_52_method_5_code 2 (some .char) (rmk 0 0 0 0) #[(.ref a1), (.int i2)] (Qm2432_o Z a1 y0 y1 y2 y3 y4 y5 kb h0 n0) := by
 refine enter (plainFor_of_name pn_24) (fun m => ef_24 m a1 i2) fun p e s m below meth c s₁ hx hby hml hown hnm hZ X0 e0 hret hlk => ?_
 have N0 := Fr.nil n0; have H := @hb c _ hby
 refine g_getS X0 hx hZ hown (tw101 hw) e0 S__assertionsDisabled (H d24_0) fun T2 X2 e2 => ?_
 refine g_ifYes X2 hx 28 (H d24_3) (feq (by decide : ¬ (i1 = i0))).2 (by decide) (by decide) ?_
 refine g_iloadN X2 hx (H d24_28) rfl ?_
 refine g_iconst X2 hx i1 (H d24_29) rfl ?_
 refine g_ishl X2 hx (H d24_30) ?_
 rw [show (i2 <<< (i1 &&& 31)) = i4 from by decide]
 show Gs p e below _ T2 m 31 #[rv a1, iv i2] [(.int i4)]
 refine g_istoreN X2 hx (H d24_31) (l' := #[rv a1, iv i4]) rfl ?_
 refine g_aloadN X2 hx (H d24_32) rfl rfl ?_
 refine g_iloadN X2 hx (H d24_33) rfl ?_
 refine g_iinc X2 hx (H d24_34) rfl (l' := #[rv a1, iv i5]) rfl ?_
 obtain ⟨clq3, Arq3, caq3, saq3, naq3, haq3, gaq3⟩ := id V_a1
 have inq3 : ¬ (i4 < 0 ∨ clq3.slots.size ≤ (i4).toNatClampNeg) := inb_of saq3 ⟨by decide, by decide⟩
 have atq3 : clq3.slots[(i4).toNatClampNeg]? = some (.int y4) := haq3.at inq3 rfl
 refine g_baload X2 hx hZ e2 Arq3 inq3 atq3 (H d24_37) ?_
 refine g_sipush X2 hx i255 (H d24_38) rfl ?_
 refine g_iand X2 hx (H d24_41) ?_
 refine g_getS X2 hx hZ hown (tw102 hw) e2 S_HI_BYTE_SHIFT (H d24_42) fun T4 X4 e4 => ?_
 refine g_ishl X4 hx (H d24_45) ?_
 refine g_aloadN X4 hx (H d24_46) rfl rfl ?_
 refine g_iloadN X4 hx (H d24_47) rfl ?_
 obtain ⟨clq5, Arq5, caq5, saq5, naq5, haq5, gaq5⟩ := id V_a1
 have inq5 : ¬ (i5 < 0 ∨ clq5.slots.size ≤ (i5).toNatClampNeg) := inb_of saq5 ⟨by decide, by decide⟩
 have atq5 : clq5.slots[(i5).toNatClampNeg]? = some (.int y5) := haq5.at inq5 rfl
 refine g_baload X4 hx hZ e4 Arq5 inq5 atq5 (H d24_48) ?_
 refine g_sipush X4 hx i255 (H d24_49) rfl ?_
 refine g_iand X4 hx (H d24_52) ?_
 refine g_getS X4 hx hZ hown (tw103 hw) e4 S_LO_BYTE_SHIFT (H d24_53) fun T6 X6 e6 => ?_
 refine g_ishl X6 hx (H d24_56) ?_
 refine g_ior X6 hx (H d24_57) ?_
 refine g_i2c X6 hx (H d24_58) ?_
 exact Go.ret (Q := Qm2432_o Z a1 y0 y1 y2 y3 y4 y5 kb h0 n0) X6 (v := some (.int (nar .char ((((y4 &&& i255) <<< (i0 &&& 31)) ||| ((y5 &&& i255) <<< (i8 &&& 31))).toUInt32.toUInt16.toUInt32.toInt32)))) (fun h => by rw [hret] at h; cases h) hlk (fun fs hr => retN X6 hx (t := .char) hret (by simp) (H d24_59) hr) e6 ⟨rfl, N0, rfl⟩ (by decide) (by decide)
def Qm203_o (Z : State) (a1 : Addr) (v0 : Int32) (v1 : Int32) (v2 : Int32) (kc : ClassId) (h0 : Heap) (n0 : Nat) (v : Option Value) (h : Heap) (L : List Loc) : Prop := ∃ (b2_2 : Addr) (k2_2 : ClassId), v = some (.ref b2_2) ∧ Fr n0 L ∧ Keep h0 h [] ∧ n0 ≤ b2_2 ∧ h0.size ≤ b2_2 ∧ Arv Z h b2_2 k2_2 .byte i6 [(.int (nar .byte ((v0 >>> (i0 &&& 31)).toInt8.toInt32))), (.int (nar .byte ((v0 >>> (i8 &&& 31)).toInt8.toInt32))), (.int (nar .byte ((v1 >>> (i0 &&& 31)).toInt8.toInt32))), (.int (nar .byte ((v1 >>> (i8 &&& 31)).toInt8.toInt32))), (.int (nar .byte ((v2 >>> (i0 &&& 31)).toInt8.toInt32))), (.int (nar .byte ((v2 >>> (i8 &&& 31)).toInt8.toInt32)))] (.int i0)
theorem rm203_o (l : Launch) (Z : State) (a0 : Array Value) (hw : Hw a0 Z) (a1 : Addr) (v0 : Int32) (v1 : Int32) (v2 : Int32) (kc : ClassId) (h0 : Heap) (n0 : Nat) (Z0 : n0 ≤ h0.size) (V_a1 : Arv Z h0 a1 kc .char i3 [(.int v0), (.int v1), (.int v2)] (.int i0)) (hb0 : 0 ≤ v0.toInt ∧ v0.toInt ≤ 65535) (hb1 : 0 ≤ v1.toInt ∧ v1.toInt ≤ 65535) (hb2 : 0 ≤ v2.toInt ∧ v2.toInt ≤ 65535) (S__assertionsDisabled : Sta Z h0 s1_ s2_ "Z" (.int i1)) (S_HI_BYTE_SHIFT : Sta Z h0 s1_ s3_ "I" (.int i0)) (S_LO_BYTE_SHIFT : Sta Z h0 s1_ s4_ "I" (.int i8)) :
  Met l Z h0 yy11 jdk_52_method_14_code 5 (some (.array .byte)) (rmk 2 1 6 24) #[(.ref a1), (.int i0), (.int i3)] (Qm203_o Z a1 v0 v1 v2 kc h0 n0) := by
 refine enter (plainFor_of_name pn_20) (fun m => ef_20 m a1 i0 i3) fun p e s m below meth c s₁ hx hby hml hown hnm hZ X0 e0 hret hlk => ?_
 have N0 := Fr.nil n0; have H := @hb c _ hby
 refine g_iloadN X0 hx (H d20_0) rfl ?_
 refine g_static X0 hx hZ (rm213_o l Z a0 hw  h0 n0 Z0 ) hown (tw91 hw) (tw92 hw) (tw74 hw) (tw93 hw) (by decide) 0 (by decide) (by decide) (by rw [hml]; rfl) [(.int i3)] [] (lenOf pd_1 rfl) (Nat.le_of_eq rfl) e0 (by decide) (by decide) rfl rfl (H d20_1) fun v2 T2 Lc2 X2 hQ2 => ?_
 obtain ⟨b2_2, k2_2, rfl, N2q, Kc2, P2_0, P2_1, P2_2⟩ := hQ2
 have K2 : Keep h0 T2.heap [] := (Keep.refl h0 []).trans Kc2 all0
 have g_b2_2 := P2_0
 have sz_b2_2 : h0.size ≤ b2_2 := P2_1
 have N2 := Fr.app N0 N2q
 show Gs p e below _ T2 m 4 #[rv a1, iv i0, iv i3, .unset, .unset] [(.ref b2_2)]
 refine g_astoreN X2 hx (H d20_4) rfl (l' := #[rv a1, iv i0, iv i3, rv b2_2, .unset]) rfl ?_
 refine g_iconst X2 hx i0 (H d20_5) rfl ?_
 refine g_istore X2 hx (H d20_6) (l' := #[rv a1, iv i0, iv i3, rv b2_2, iv i0]) rfl ?_
 refine g_iload X2 hx (H d20_8) rfl ?_
 refine g_iloadN X2 hx (H d20_10) rfl ?_
 refine g_icmpNo X2 hx (H d20_11) (tlt (by decide : (i0 < i3))).2.1 ?_
 refine g_aloadN X2 hx (H d20_14) rfl rfl ?_
 refine g_iload X2 hx (H d20_15) rfl ?_
 refine g_aloadN X2 hx (H d20_17) rfl rfl ?_
 refine g_iloadN X2 hx (H d20_18) rfl ?_
 have f_3 := (V_a1.keep K2 nin0)
 obtain ⟨clq4, Arq4, caq4, saq4, naq4, haq4, gaq4⟩ := id f_3
 have inq4 : ¬ (i0 < 0 ∨ clq4.slots.size ≤ (i0).toNatClampNeg) := inb_of saq4 ⟨by decide, by decide⟩
 have atq4 : clq4.slots[(i0).toNatClampNeg]? = some (.int v0) := haq4.at inq4 rfl
 refine g_caload X2 hx hZ rfl Arq4 inq4 atq4 (H d20_19) ?_
 have f_5 := (staKeep0 S__assertionsDisabled K2)
 have f_6 := (staKeep0 S_HI_BYTE_SHIFT K2)
 have f_7 := (staKeep0 S_LO_BYTE_SHIFT K2)
 refine g_static X2 hx hZ (rm2330_o l Z a0 hw b2_2 v0 i0 i0 i0 i0 i0 i0 k2_2 T2.heap n0 (Nat.le_trans Z0 K2.1) P2_2 f_5 f_6 f_7 g_b2_2) hown (tw98 hw) (tw99 hw) (tw74 hw) (tw100 hw) (by decide) 0 (by decide) (by decide) (by rw [hml]; rfl) [(.ref b2_2), (.int i0), (.int v0)] [] (lenOf pd_2 rfl) (Nat.le_of_eq rfl) rfl (by decide) (by decide) rfl rfl (H d20_20) fun v8 T8 Lc8 X8 hQ8 => ?_
 obtain ⟨rfl, N8q, Kc8, P8_0⟩ := hQ8
 have K8 : Keep h0 T8.heap [] := K2.trans Kc8 (allS (Or.inr sz_b2_2) all0)
 have N8 := Fr.app N2 N8q
 show Gs p e below _ T8 m 23 #[rv a1, iv i0, iv i3, rv b2_2, iv i0] []
 refine g_iinc X8 hx (H d20_23) rfl (l' := #[rv a1, iv i1, iv i3, rv b2_2, iv i0]) rfl ?_
 refine g_iinc X8 hx (H d20_26) rfl (l' := #[rv a1, iv i1, iv i3, rv b2_2, iv i1]) rfl ?_
 refine g_goto X8 hx 8 (H d20_29) (by decide) (by decide) ?_
 refine g_iload X8 hx (H d20_8) rfl ?_
 refine g_iloadN X8 hx (H d20_10) rfl ?_
 refine g_icmpNo X8 hx (H d20_11) (tlt (by decide : (i1 < i3))).2.1 ?_
 refine g_aloadN X8 hx (H d20_14) rfl rfl ?_
 refine g_iload X8 hx (H d20_15) rfl ?_
 refine g_aloadN X8 hx (H d20_17) rfl rfl ?_
 refine g_iloadN X8 hx (H d20_18) rfl ?_
 have f_9 := (f_3.keep Kc8 (ninS (Nat.ne_of_lt (Nat.lt_of_lt_of_le V_a1.lt sz_b2_2)) nin0))
 obtain ⟨clq10, Arq10, caq10, saq10, naq10, haq10, gaq10⟩ := id f_9
 have inq10 : ¬ (i1 < 0 ∨ clq10.slots.size ≤ (i1).toNatClampNeg) := inb_of saq10 ⟨by decide, by decide⟩
 have atq10 : clq10.slots[(i1).toNatClampNeg]? = some (.int v1) := haq10.at inq10 rfl
 refine g_caload X8 hx hZ rfl Arq10 inq10 atq10 (H d20_19) ?_
 have f_11 := (staKeepA f_5 Kc8 (Arv.arn P2_2))
 have f_12 := (staKeepA f_6 Kc8 (Arv.arn P2_2))
 have f_13 := (staKeepA f_7 Kc8 (Arv.arn P2_2))
 refine g_static X8 hx hZ (rm2331_o l Z a0 hw b2_2 v1 (nar .byte ((v0 >>> (i0 &&& 31)).toInt8.toInt32)) (nar .byte ((v0 >>> (i8 &&& 31)).toInt8.toInt32)) i0 i0 i0 i0 k2_2 T8.heap n0 (Nat.le_trans Z0 K8.1) P8_0 f_11 f_12 f_13 g_b2_2) hown (tw98 hw) (tw99 hw) (tw74 hw) (tw100 hw) (by decide) 0 (by decide) (by decide) (by rw [hml]; rfl) [(.ref b2_2), (.int i1), (.int v1)] [] (lenOf pd_2 rfl) (Nat.le_of_eq rfl) rfl (by decide) (by decide) rfl rfl (H d20_20) fun v14 T14 Lc14 X14 hQ14 => ?_
 obtain ⟨rfl, N14q, Kc14, P14_0⟩ := hQ14
 have K14 : Keep h0 T14.heap [] := K8.trans Kc14 (allS (Or.inr sz_b2_2) all0)
 have N14 := Fr.app N8 N14q
 show Gs p e below _ T14 m 23 #[rv a1, iv i1, iv i3, rv b2_2, iv i1] []
 refine g_iinc X14 hx (H d20_23) rfl (l' := #[rv a1, iv i2, iv i3, rv b2_2, iv i1]) rfl ?_
 refine g_iinc X14 hx (H d20_26) rfl (l' := #[rv a1, iv i2, iv i3, rv b2_2, iv i2]) rfl ?_
 refine g_goto X14 hx 8 (H d20_29) (by decide) (by decide) ?_
 refine g_iload X14 hx (H d20_8) rfl ?_
 refine g_iloadN X14 hx (H d20_10) rfl ?_
 refine g_icmpNo X14 hx (H d20_11) (tlt (by decide : (i2 < i3))).2.1 ?_
 refine g_aloadN X14 hx (H d20_14) rfl rfl ?_
 refine g_iload X14 hx (H d20_15) rfl ?_
 refine g_aloadN X14 hx (H d20_17) rfl rfl ?_
 refine g_iloadN X14 hx (H d20_18) rfl ?_
 have f_15 := (f_9.keep Kc14 (ninS (Nat.ne_of_lt (Nat.lt_of_lt_of_le V_a1.lt sz_b2_2)) nin0))
 obtain ⟨clq16, Arq16, caq16, saq16, naq16, haq16, gaq16⟩ := id f_15
 have inq16 : ¬ (i2 < 0 ∨ clq16.slots.size ≤ (i2).toNatClampNeg) := inb_of saq16 ⟨by decide, by decide⟩
 have atq16 : clq16.slots[(i2).toNatClampNeg]? = some (.int v2) := haq16.at inq16 rfl
 refine g_caload X14 hx hZ rfl Arq16 inq16 atq16 (H d20_19) ?_
 have f_17 := (staKeepA f_11 Kc14 (Arv.arn P8_0))
 have f_18 := (staKeepA f_12 Kc14 (Arv.arn P8_0))
 have f_19 := (staKeepA f_13 Kc14 (Arv.arn P8_0))
 refine g_static X14 hx hZ (rm2332_o l Z a0 hw b2_2 v2 (nar .byte ((v0 >>> (i0 &&& 31)).toInt8.toInt32)) (nar .byte ((v0 >>> (i8 &&& 31)).toInt8.toInt32)) (nar .byte ((v1 >>> (i0 &&& 31)).toInt8.toInt32)) (nar .byte ((v1 >>> (i8 &&& 31)).toInt8.toInt32)) i0 i0 k2_2 T14.heap n0 (Nat.le_trans Z0 K14.1) P14_0 f_17 f_18 f_19 g_b2_2) hown (tw98 hw) (tw99 hw) (tw74 hw) (tw100 hw) (by decide) 0 (by decide) (by decide) (by rw [hml]; rfl) [(.ref b2_2), (.int i2), (.int v2)] [] (lenOf pd_2 rfl) (Nat.le_of_eq rfl) rfl (by decide) (by decide) rfl rfl (H d20_20) fun v20 T20 Lc20 X20 hQ20 => ?_
 obtain ⟨rfl, N20q, Kc20, P20_0⟩ := hQ20
 have K20 : Keep h0 T20.heap [] := K14.trans Kc20 (allS (Or.inr sz_b2_2) all0)
 have N20 := Fr.app N14 N20q
 show Gs p e below _ T20 m 23 #[rv a1, iv i2, iv i3, rv b2_2, iv i2] []
 refine g_iinc X20 hx (H d20_23) rfl (l' := #[rv a1, iv i3, iv i3, rv b2_2, iv i2]) rfl ?_
 refine g_iinc X20 hx (H d20_26) rfl (l' := #[rv a1, iv i3, iv i3, rv b2_2, iv i3]) rfl ?_
 refine g_goto X20 hx 8 (H d20_29) (by decide) (by decide) ?_
 refine g_iload X20 hx (H d20_8) rfl ?_
 refine g_iloadN X20 hx (H d20_10) rfl ?_
 refine g_icmpYes X20 hx 32 (H d20_11) (flt (by decide : ¬ (i3 < i3))).2.1 (by decide) (by decide) ?_
 refine g_aloadN X20 hx (H d20_32) rfl rfl ?_
 exact Go.ret (Q := Qm203_o Z a1 v0 v1 v2 kc h0 n0) X20 (v := some (.ref b2_2)) (fun h => by rw [hret] at h; cases h) hlk (fun fs hr => retOut X20 hx hret rfl (Or.inr (Or.inr (Or.inr (Or.inr ⟨rfl, rfl, rfl⟩)))) (H d20_33) hr) rfl ⟨b2_2, k2_2, rfl, N20, K20, g_b2_2, sz_b2_2, P20_0⟩ (by decide) (by decide)
def Qm163_t (Z : State) (a1 : Addr) (a2 : Addr) (v0 : Int32) (v1 : Int32) (v2 : Int32) (kc : ClassId) (kb : ClassId) (h0 : Heap) (n0 : Nat) (v : Option Value) (h : Heap) (L : List Loc) : Prop := v = some (.int i0) ∧ Fr n0 L ∧ h = h0
theorem rm163_t (l : Launch) (Z : State) (a0 : Array Value) (hw : Hw a0 Z) (a1 : Addr) (a2 : Addr) (v0 : Int32) (v1 : Int32) (v2 : Int32) (kc : ClassId) (kb : ClassId) (h0 : Heap) (n0 : Nat) (Z0 : n0 ≤ h0.size) (V_a1 : Arv Z h0 a1 kc .char i3 [(.int v0), (.int v1), (.int v2)] (.int i0)) (hb0 : 0 ≤ v0.toInt ∧ v0.toInt ≤ 65535) (hb1 : 0 ≤ v1.toInt ∧ v1.toInt ≤ 65535) (hb2 : 0 ≤ v2.toInt ∧ v2.toInt ≤ 65535) (V_a2 : Arv Z h0 a2 kb .byte i3 [(.int i0), (.int i0), (.int i0)] (.int i0)) (g_a2 : n0 ≤ a2) (hne_a1_a2 : ¬ (a1 = a2)) (hd1 : i255 < v0) :
  Met l Z h0 yy12 jdk_52_method_21_code 7 (some .int) (rmk 0 0 0 0) #[(.ref a1), (.int i0), (.ref a2), (.int i0), (.int i3)] (Qm163_t Z a1 a2 v0 v1 v2 kc kb h0 n0) := by
 refine enter (plainFor_of_name pn_16) (fun m => ef_16 m a1 i0 a2 i0 i3) fun p e s m below meth c s₁ hx hby hml hown hnm hZ X0 e0 hret hlk => ?_
 have N0 := Fr.nil n0; have H := @hb c _ hby
 refine g_iconst X0 hx i0 (H d16_0) rfl ?_
 refine g_istore X0 hx (H d16_1) (l' := #[rv a1, iv i0, rv a2, iv i0, iv i3, iv i0, .unset]) rfl ?_
 refine g_iload X0 hx (H d16_3) rfl ?_
 refine g_iload X0 hx (H d16_5) rfl ?_
 refine g_icmpNo X0 hx (H d16_7) (tlt (by decide : (i0 < i3))).2.1 ?_
 refine g_aloadN X0 hx (H d16_10) rfl rfl ?_
 refine g_iloadN X0 hx (H d16_11) rfl ?_
 obtain ⟨clq3, Arq3, caq3, saq3, naq3, haq3, gaq3⟩ := id V_a1
 have inq3 : ¬ (i0 < 0 ∨ clq3.slots.size ≤ (i0).toNatClampNeg) := inb_of saq3 ⟨by decide, by decide⟩
 have atq3 : clq3.slots[(i0).toNatClampNeg]? = some (.int v0) := haq3.at inq3 rfl
 refine g_caload X0 hx hZ e0 Arq3 inq3 atq3 (H d16_12) ?_
 refine g_istore X0 hx (H d16_13) (l' := #[rv a1, iv i0, rv a2, iv i0, iv i3, iv i0, iv v0]) rfl ?_
 refine g_iload X0 hx (H d16_15) rfl ?_
 refine g_sipush X0 hx i255 (H d16_17) rfl ?_
 refine g_icmpNo X0 hx (H d16_20) (tlt hd1).2.2.2 ?_
 refine g_iload X0 hx (H d16_23) rfl ?_
 exact Go.ret (Q := Qm163_t Z a1 a2 v0 v1 v2 kc kb h0 n0) X0 (v := some (.int i0)) (fun h => by rw [hret] at h; cases h) hlk (fun fs hr => retOut X0 hx hret rfl (Or.inl ⟨rfl, Or.inl rfl, _, rfl⟩) (H d16_25) hr) e0 ⟨rfl, N0, rfl⟩ (by decide) (by decide)
def Qm163_ft (Z : State) (a1 : Addr) (a2 : Addr) (v0 : Int32) (v1 : Int32) (v2 : Int32) (kc : ClassId) (kb : ClassId) (h0 : Heap) (n0 : Nat) (v : Option Value) (h : Heap) (L : List Loc) : Prop := v = some (.int i1) ∧ Fr n0 L ∧ Keep h0 h [a2] ∧ Arn Z h a2 .byte i3
theorem rm163_ft (l : Launch) (Z : State) (a0 : Array Value) (hw : Hw a0 Z) (a1 : Addr) (a2 : Addr) (v0 : Int32) (v1 : Int32) (v2 : Int32) (kc : ClassId) (kb : ClassId) (h0 : Heap) (n0 : Nat) (Z0 : n0 ≤ h0.size) (V_a1 : Arv Z h0 a1 kc .char i3 [(.int v0), (.int v1), (.int v2)] (.int i0)) (hb0 : 0 ≤ v0.toInt ∧ v0.toInt ≤ 65535) (hb1 : 0 ≤ v1.toInt ∧ v1.toInt ≤ 65535) (hb2 : 0 ≤ v2.toInt ∧ v2.toInt ≤ 65535) (V_a2 : Arv Z h0 a2 kb .byte i3 [(.int i0), (.int i0), (.int i0)] (.int i0)) (g_a2 : n0 ≤ a2) (hne_a1_a2 : ¬ (a1 = a2)) (hd1 : ¬ (i255 < v0)) (hd2 : i255 < v1) :
  Met l Z h0 yy12 jdk_52_method_21_code 7 (some .int) (rmk 0 0 0 0) #[(.ref a1), (.int i0), (.ref a2), (.int i0), (.int i3)] (Qm163_ft Z a1 a2 v0 v1 v2 kc kb h0 n0) := by
 refine enter (plainFor_of_name pn_16) (fun m => ef_16 m a1 i0 a2 i0 i3) fun p e s m below meth c s₁ hx hby hml hown hnm hZ X0 e0 hret hlk => ?_
 have N0 := Fr.nil n0; have H := @hb c _ hby
 refine g_iconst X0 hx i0 (H d16_0) rfl ?_
 refine g_istore X0 hx (H d16_1) (l' := #[rv a1, iv i0, rv a2, iv i0, iv i3, iv i0, .unset]) rfl ?_
 refine g_iload X0 hx (H d16_3) rfl ?_
 refine g_iload X0 hx (H d16_5) rfl ?_
 refine g_icmpNo X0 hx (H d16_7) (tlt (by decide : (i0 < i3))).2.1 ?_
 refine g_aloadN X0 hx (H d16_10) rfl rfl ?_
 refine g_iloadN X0 hx (H d16_11) rfl ?_
 obtain ⟨clq3, Arq3, caq3, saq3, naq3, haq3, gaq3⟩ := id V_a1
 have inq3 : ¬ (i0 < 0 ∨ clq3.slots.size ≤ (i0).toNatClampNeg) := inb_of saq3 ⟨by decide, by decide⟩
 have atq3 : clq3.slots[(i0).toNatClampNeg]? = some (.int v0) := haq3.at inq3 rfl
 refine g_caload X0 hx hZ e0 Arq3 inq3 atq3 (H d16_12) ?_
 refine g_istore X0 hx (H d16_13) (l' := #[rv a1, iv i0, rv a2, iv i0, iv i3, iv i0, iv v0]) rfl ?_
 refine g_iload X0 hx (H d16_15) rfl ?_
 refine g_sipush X0 hx i255 (H d16_17) rfl ?_
 refine g_icmpYes X0 hx 26 (H d16_20) (flt hd1).2.2.2 (by decide) (by decide) ?_
 refine g_aloadN X0 hx (H d16_26) rfl rfl ?_
 refine g_iloadN X0 hx (H d16_27) rfl ?_
 refine g_iload X0 hx (H d16_28) rfl ?_
 refine g_i2b X0 hx (H d16_30) ?_
 obtain ⟨clq4, Arq4, caq4, saq4, naq4, haq4, gaq4⟩ := id V_a2
 have inq4 : ¬ (i0 < 0 ∨ clq4.slots.size ≤ (i0).toNatClampNeg) := inb_of saq4 ⟨by decide, by decide⟩
 refine g_stB X0 hx hZ e0 Arq4 inq4 (H d16_31) fun T5 h5 X5 e5 W5 => ?_
 have K5 : Keep h0 h5 [a2] := (Keep.refl h0 [a2]).wr W5 (Or.inl (List.mem_of_getElem? (i := 0) rfl))
 have V5 : Arv Z h5 a2 kb .byte i3 [(.int (nar .byte (v0.toInt8.toInt32))), (.int i0), (.int i0)] (.int i0) := Arv.set Arq4 caq4 saq4 naq4 haq4 gaq4 (fits_nar_byte _) W5 0 rfl (Nat.le_of_ble_eq_true rfl)
 have N5 := Fr.snoc X5 N0 g_a2
 refine g_iinc X5 hx (H d16_32) rfl (l' := #[rv a1, iv i1, rv a2, iv i0, iv i3, iv i0, iv v0]) rfl ?_
 refine g_iinc X5 hx (H d16_35) rfl (l' := #[rv a1, iv i1, rv a2, iv i1, iv i3, iv i0, iv v0]) rfl ?_
 refine g_iinc X5 hx (H d16_38) rfl (l' := #[rv a1, iv i1, rv a2, iv i1, iv i3, iv i1, iv v0]) rfl ?_
 refine g_goto X5 hx 3 (H d16_41) (by decide) (by decide) ?_
 refine g_iload X5 hx (H d16_3) rfl ?_
 refine g_iload X5 hx (H d16_5) rfl ?_
 refine g_icmpNo X5 hx (H d16_7) (tlt (by decide : (i1 < i3))).2.1 ?_
 refine g_aloadN X5 hx (H d16_10) rfl rfl ?_
 refine g_iloadN X5 hx (H d16_11) rfl ?_
 have f_6 := (V_a1.keep K5 (ninS hne_a1_a2 nin0))
 obtain ⟨clq7, Arq7, caq7, saq7, naq7, haq7, gaq7⟩ := id f_6
 have inq7 : ¬ (i1 < 0 ∨ clq7.slots.size ≤ (i1).toNatClampNeg) := inb_of saq7 ⟨by decide, by decide⟩
 have atq7 : clq7.slots[(i1).toNatClampNeg]? = some (.int v1) := haq7.at inq7 rfl
 refine g_caload X5 hx hZ e5 Arq7 inq7 atq7 (H d16_12) ?_
 refine g_istore X5 hx (H d16_13) (l' := #[rv a1, iv i1, rv a2, iv i1, iv i3, iv i1, iv v1]) rfl ?_
 refine g_iload X5 hx (H d16_15) rfl ?_
 refine g_sipush X5 hx i255 (H d16_17) rfl ?_
 refine g_icmpNo X5 hx (H d16_20) (tlt hd2).2.2.2 ?_
 refine g_iload X5 hx (H d16_23) rfl ?_
 exact Go.ret (Q := Qm163_ft Z a1 a2 v0 v1 v2 kc kb h0 n0) X5 (v := some (.int i1)) (fun h => by rw [hret] at h; cases h) hlk (fun fs hr => retOut X5 hx hret rfl (Or.inl ⟨rfl, Or.inl rfl, _, rfl⟩) (H d16_25) hr) e5 ⟨rfl, N5, K5, (Arv.arn V5)⟩ (by decide) (by decide)
def Qm163_fft (Z : State) (a1 : Addr) (a2 : Addr) (v0 : Int32) (v1 : Int32) (v2 : Int32) (kc : ClassId) (kb : ClassId) (h0 : Heap) (n0 : Nat) (v : Option Value) (h : Heap) (L : List Loc) : Prop := v = some (.int i2) ∧ Fr n0 L ∧ Keep h0 h [a2] ∧ Arn Z h a2 .byte i3
theorem rm163_fft (l : Launch) (Z : State) (a0 : Array Value) (hw : Hw a0 Z) (a1 : Addr) (a2 : Addr) (v0 : Int32) (v1 : Int32) (v2 : Int32) (kc : ClassId) (kb : ClassId) (h0 : Heap) (n0 : Nat) (Z0 : n0 ≤ h0.size) (V_a1 : Arv Z h0 a1 kc .char i3 [(.int v0), (.int v1), (.int v2)] (.int i0)) (hb0 : 0 ≤ v0.toInt ∧ v0.toInt ≤ 65535) (hb1 : 0 ≤ v1.toInt ∧ v1.toInt ≤ 65535) (hb2 : 0 ≤ v2.toInt ∧ v2.toInt ≤ 65535) (V_a2 : Arv Z h0 a2 kb .byte i3 [(.int i0), (.int i0), (.int i0)] (.int i0)) (g_a2 : n0 ≤ a2) (hne_a1_a2 : ¬ (a1 = a2)) (hd1 : ¬ (i255 < v0)) (hd2 : ¬ (i255 < v1)) (hd3 : i255 < v2) :
  Met l Z h0 yy12 jdk_52_method_21_code 7 (some .int) (rmk 0 0 0 0) #[(.ref a1), (.int i0), (.ref a2), (.int i0), (.int i3)] (Qm163_fft Z a1 a2 v0 v1 v2 kc kb h0 n0) := by
 refine enter (plainFor_of_name pn_16) (fun m => ef_16 m a1 i0 a2 i0 i3) fun p e s m below meth c s₁ hx hby hml hown hnm hZ X0 e0 hret hlk => ?_
 have N0 := Fr.nil n0; have H := @hb c _ hby
 refine g_iconst X0 hx i0 (H d16_0) rfl ?_
 refine g_istore X0 hx (H d16_1) (l' := #[rv a1, iv i0, rv a2, iv i0, iv i3, iv i0, .unset]) rfl ?_
 refine g_iload X0 hx (H d16_3) rfl ?_
 refine g_iload X0 hx (H d16_5) rfl ?_
 refine g_icmpNo X0 hx (H d16_7) (tlt (by decide : (i0 < i3))).2.1 ?_
 refine g_aloadN X0 hx (H d16_10) rfl rfl ?_
 refine g_iloadN X0 hx (H d16_11) rfl ?_
 obtain ⟨clq3, Arq3, caq3, saq3, naq3, haq3, gaq3⟩ := id V_a1
 have inq3 : ¬ (i0 < 0 ∨ clq3.slots.size ≤ (i0).toNatClampNeg) := inb_of saq3 ⟨by decide, by decide⟩
 have atq3 : clq3.slots[(i0).toNatClampNeg]? = some (.int v0) := haq3.at inq3 rfl
 refine g_caload X0 hx hZ e0 Arq3 inq3 atq3 (H d16_12) ?_
 refine g_istore X0 hx (H d16_13) (l' := #[rv a1, iv i0, rv a2, iv i0, iv i3, iv i0, iv v0]) rfl ?_
 refine g_iload X0 hx (H d16_15) rfl ?_
 refine g_sipush X0 hx i255 (H d16_17) rfl ?_
 refine g_icmpYes X0 hx 26 (H d16_20) (flt hd1).2.2.2 (by decide) (by decide) ?_
 refine g_aloadN X0 hx (H d16_26) rfl rfl ?_
 refine g_iloadN X0 hx (H d16_27) rfl ?_
 refine g_iload X0 hx (H d16_28) rfl ?_
 refine g_i2b X0 hx (H d16_30) ?_
 obtain ⟨clq4, Arq4, caq4, saq4, naq4, haq4, gaq4⟩ := id V_a2
 have inq4 : ¬ (i0 < 0 ∨ clq4.slots.size ≤ (i0).toNatClampNeg) := inb_of saq4 ⟨by decide, by decide⟩
 refine g_stB X0 hx hZ e0 Arq4 inq4 (H d16_31) fun T5 h5 X5 e5 W5 => ?_
 have K5 : Keep h0 h5 [a2] := (Keep.refl h0 [a2]).wr W5 (Or.inl (List.mem_of_getElem? (i := 0) rfl))
 have V5 : Arv Z h5 a2 kb .byte i3 [(.int (nar .byte (v0.toInt8.toInt32))), (.int i0), (.int i0)] (.int i0) := Arv.set Arq4 caq4 saq4 naq4 haq4 gaq4 (fits_nar_byte _) W5 0 rfl (Nat.le_of_ble_eq_true rfl)
 have N5 := Fr.snoc X5 N0 g_a2
 refine g_iinc X5 hx (H d16_32) rfl (l' := #[rv a1, iv i1, rv a2, iv i0, iv i3, iv i0, iv v0]) rfl ?_
 refine g_iinc X5 hx (H d16_35) rfl (l' := #[rv a1, iv i1, rv a2, iv i1, iv i3, iv i0, iv v0]) rfl ?_
 refine g_iinc X5 hx (H d16_38) rfl (l' := #[rv a1, iv i1, rv a2, iv i1, iv i3, iv i1, iv v0]) rfl ?_
 refine g_goto X5 hx 3 (H d16_41) (by decide) (by decide) ?_
 refine g_iload X5 hx (H d16_3) rfl ?_
 refine g_iload X5 hx (H d16_5) rfl ?_
 refine g_icmpNo X5 hx (H d16_7) (tlt (by decide : (i1 < i3))).2.1 ?_
 refine g_aloadN X5 hx (H d16_10) rfl rfl ?_
 refine g_iloadN X5 hx (H d16_11) rfl ?_
 have f_6 := (V_a1.keep K5 (ninS hne_a1_a2 nin0))
 obtain ⟨clq7, Arq7, caq7, saq7, naq7, haq7, gaq7⟩ := id f_6
 have inq7 : ¬ (i1 < 0 ∨ clq7.slots.size ≤ (i1).toNatClampNeg) := inb_of saq7 ⟨by decide, by decide⟩
 have atq7 : clq7.slots[(i1).toNatClampNeg]? = some (.int v1) := haq7.at inq7 rfl
 refine g_caload X5 hx hZ e5 Arq7 inq7 atq7 (H d16_12) ?_
 refine g_istore X5 hx (H d16_13) (l' := #[rv a1, iv i1, rv a2, iv i1, iv i3, iv i1, iv v1]) rfl ?_
 refine g_iload X5 hx (H d16_15) rfl ?_
 refine g_sipush X5 hx i255 (H d16_17) rfl ?_
 refine g_icmpYes X5 hx 26 (H d16_20) (flt hd2).2.2.2 (by decide) (by decide) ?_
 refine g_aloadN X5 hx (H d16_26) rfl rfl ?_
 refine g_iloadN X5 hx (H d16_27) rfl ?_
 refine g_iload X5 hx (H d16_28) rfl ?_
 refine g_i2b X5 hx (H d16_30) ?_
 obtain ⟨clq8, Arq8, caq8, saq8, naq8, haq8, gaq8⟩ := id V5
 have inq8 : ¬ (i1 < 0 ∨ clq8.slots.size ≤ (i1).toNatClampNeg) := inb_of saq8 ⟨by decide, by decide⟩
 refine g_stB X5 hx hZ e5 Arq8 inq8 (H d16_31) fun T9 h9 X9 e9 W9 => ?_
 have K9 : Keep h0 h9 [a2] := K5.wr W9 (Or.inl (List.mem_of_getElem? (i := 0) rfl))
 have V9 : Arv Z h9 a2 kb .byte i3 [(.int (nar .byte (v0.toInt8.toInt32))), (.int (nar .byte (v1.toInt8.toInt32))), (.int i0)] (.int i0) := Arv.set Arq8 caq8 saq8 naq8 haq8 gaq8 (fits_nar_byte _) W9 1 rfl (Nat.le_of_ble_eq_true rfl)
 have N9 := Fr.snoc X9 N5 g_a2
 refine g_iinc X9 hx (H d16_32) rfl (l' := #[rv a1, iv i2, rv a2, iv i1, iv i3, iv i1, iv v1]) rfl ?_
 refine g_iinc X9 hx (H d16_35) rfl (l' := #[rv a1, iv i2, rv a2, iv i2, iv i3, iv i1, iv v1]) rfl ?_
 refine g_iinc X9 hx (H d16_38) rfl (l' := #[rv a1, iv i2, rv a2, iv i2, iv i3, iv i2, iv v1]) rfl ?_
 refine g_goto X9 hx 3 (H d16_41) (by decide) (by decide) ?_
 refine g_iload X9 hx (H d16_3) rfl ?_
 refine g_iload X9 hx (H d16_5) rfl ?_
 refine g_icmpNo X9 hx (H d16_7) (tlt (by decide : (i2 < i3))).2.1 ?_
 refine g_aloadN X9 hx (H d16_10) rfl rfl ?_
 refine g_iloadN X9 hx (H d16_11) rfl ?_
 have f_10 := (f_6.other W9 hne_a1_a2)
 obtain ⟨clq11, Arq11, caq11, saq11, naq11, haq11, gaq11⟩ := id f_10
 have inq11 : ¬ (i2 < 0 ∨ clq11.slots.size ≤ (i2).toNatClampNeg) := inb_of saq11 ⟨by decide, by decide⟩
 have atq11 : clq11.slots[(i2).toNatClampNeg]? = some (.int v2) := haq11.at inq11 rfl
 refine g_caload X9 hx hZ e9 Arq11 inq11 atq11 (H d16_12) ?_
 refine g_istore X9 hx (H d16_13) (l' := #[rv a1, iv i2, rv a2, iv i2, iv i3, iv i2, iv v2]) rfl ?_
 refine g_iload X9 hx (H d16_15) rfl ?_
 refine g_sipush X9 hx i255 (H d16_17) rfl ?_
 refine g_icmpNo X9 hx (H d16_20) (tlt hd3).2.2.2 ?_
 refine g_iload X9 hx (H d16_23) rfl ?_
 exact Go.ret (Q := Qm163_fft Z a1 a2 v0 v1 v2 kc kb h0 n0) X9 (v := some (.int i2)) (fun h => by rw [hret] at h; cases h) hlk (fun fs hr => retOut X9 hx hret rfl (Or.inl ⟨rfl, Or.inl rfl, _, rfl⟩) (H d16_25) hr) e9 ⟨rfl, N9, K9, (Arv.arn V9)⟩ (by decide) (by decide)
def Qm163_fff (Z : State) (a1 : Addr) (a2 : Addr) (v0 : Int32) (v1 : Int32) (v2 : Int32) (kc : ClassId) (kb : ClassId) (h0 : Heap) (n0 : Nat) (v : Option Value) (h : Heap) (L : List Loc) : Prop := v = some (.int i3) ∧ Fr n0 L ∧ Keep h0 h [a2] ∧ Arv Z h a2 kb .byte i3 [(.int (nar .byte (v0.toInt8.toInt32))), (.int (nar .byte (v1.toInt8.toInt32))), (.int (nar .byte (v2.toInt8.toInt32)))] (.int i0)
theorem rm163_fff (l : Launch) (Z : State) (a0 : Array Value) (hw : Hw a0 Z) (a1 : Addr) (a2 : Addr) (v0 : Int32) (v1 : Int32) (v2 : Int32) (kc : ClassId) (kb : ClassId) (h0 : Heap) (n0 : Nat) (Z0 : n0 ≤ h0.size) (V_a1 : Arv Z h0 a1 kc .char i3 [(.int v0), (.int v1), (.int v2)] (.int i0)) (hb0 : 0 ≤ v0.toInt ∧ v0.toInt ≤ 65535) (hb1 : 0 ≤ v1.toInt ∧ v1.toInt ≤ 65535) (hb2 : 0 ≤ v2.toInt ∧ v2.toInt ≤ 65535) (V_a2 : Arv Z h0 a2 kb .byte i3 [(.int i0), (.int i0), (.int i0)] (.int i0)) (g_a2 : n0 ≤ a2) (hne_a1_a2 : ¬ (a1 = a2)) (hd1 : ¬ (i255 < v0)) (hd2 : ¬ (i255 < v1)) (hd3 : ¬ (i255 < v2)) :
  Met l Z h0 yy12 jdk_52_method_21_code 7 (some .int) (rmk 0 0 0 0) #[(.ref a1), (.int i0), (.ref a2), (.int i0), (.int i3)] (Qm163_fff Z a1 a2 v0 v1 v2 kc kb h0 n0) := by
 refine enter (plainFor_of_name pn_16) (fun m => ef_16 m a1 i0 a2 i0 i3) fun p e s m below meth c s₁ hx hby hml hown hnm hZ X0 e0 hret hlk => ?_
 have N0 := Fr.nil n0; have H := @hb c _ hby
 refine g_iconst X0 hx i0 (H d16_0) rfl ?_
 refine g_istore X0 hx (H d16_1) (l' := #[rv a1, iv i0, rv a2, iv i0, iv i3, iv i0, .unset]) rfl ?_
 refine g_iload X0 hx (H d16_3) rfl ?_
 refine g_iload X0 hx (H d16_5) rfl ?_
 refine g_icmpNo X0 hx (H d16_7) (tlt (by decide : (i0 < i3))).2.1 ?_
 refine g_aloadN X0 hx (H d16_10) rfl rfl ?_
 refine g_iloadN X0 hx (H d16_11) rfl ?_
 obtain ⟨clq3, Arq3, caq3, saq3, naq3, haq3, gaq3⟩ := id V_a1
 have inq3 : ¬ (i0 < 0 ∨ clq3.slots.size ≤ (i0).toNatClampNeg) := inb_of saq3 ⟨by decide, by decide⟩
 have atq3 : clq3.slots[(i0).toNatClampNeg]? = some (.int v0) := haq3.at inq3 rfl
 refine g_caload X0 hx hZ e0 Arq3 inq3 atq3 (H d16_12) ?_
 refine g_istore X0 hx (H d16_13) (l' := #[rv a1, iv i0, rv a2, iv i0, iv i3, iv i0, iv v0]) rfl ?_
 refine g_iload X0 hx (H d16_15) rfl ?_
 refine g_sipush X0 hx i255 (H d16_17) rfl ?_
 refine g_icmpYes X0 hx 26 (H d16_20) (flt hd1).2.2.2 (by decide) (by decide) ?_
 refine g_aloadN X0 hx (H d16_26) rfl rfl ?_
 refine g_iloadN X0 hx (H d16_27) rfl ?_
 refine g_iload X0 hx (H d16_28) rfl ?_
 refine g_i2b X0 hx (H d16_30) ?_
 obtain ⟨clq4, Arq4, caq4, saq4, naq4, haq4, gaq4⟩ := id V_a2
 have inq4 : ¬ (i0 < 0 ∨ clq4.slots.size ≤ (i0).toNatClampNeg) := inb_of saq4 ⟨by decide, by decide⟩
 refine g_stB X0 hx hZ e0 Arq4 inq4 (H d16_31) fun T5 h5 X5 e5 W5 => ?_
 have K5 : Keep h0 h5 [a2] := (Keep.refl h0 [a2]).wr W5 (Or.inl (List.mem_of_getElem? (i := 0) rfl))
 have V5 : Arv Z h5 a2 kb .byte i3 [(.int (nar .byte (v0.toInt8.toInt32))), (.int i0), (.int i0)] (.int i0) := Arv.set Arq4 caq4 saq4 naq4 haq4 gaq4 (fits_nar_byte _) W5 0 rfl (Nat.le_of_ble_eq_true rfl)
 have N5 := Fr.snoc X5 N0 g_a2
 refine g_iinc X5 hx (H d16_32) rfl (l' := #[rv a1, iv i1, rv a2, iv i0, iv i3, iv i0, iv v0]) rfl ?_
 refine g_iinc X5 hx (H d16_35) rfl (l' := #[rv a1, iv i1, rv a2, iv i1, iv i3, iv i0, iv v0]) rfl ?_
 refine g_iinc X5 hx (H d16_38) rfl (l' := #[rv a1, iv i1, rv a2, iv i1, iv i3, iv i1, iv v0]) rfl ?_
 refine g_goto X5 hx 3 (H d16_41) (by decide) (by decide) ?_
 refine g_iload X5 hx (H d16_3) rfl ?_
 refine g_iload X5 hx (H d16_5) rfl ?_
 refine g_icmpNo X5 hx (H d16_7) (tlt (by decide : (i1 < i3))).2.1 ?_
 refine g_aloadN X5 hx (H d16_10) rfl rfl ?_
 refine g_iloadN X5 hx (H d16_11) rfl ?_
 have f_6 := (V_a1.keep K5 (ninS hne_a1_a2 nin0))
 obtain ⟨clq7, Arq7, caq7, saq7, naq7, haq7, gaq7⟩ := id f_6
 have inq7 : ¬ (i1 < 0 ∨ clq7.slots.size ≤ (i1).toNatClampNeg) := inb_of saq7 ⟨by decide, by decide⟩
 have atq7 : clq7.slots[(i1).toNatClampNeg]? = some (.int v1) := haq7.at inq7 rfl
 refine g_caload X5 hx hZ e5 Arq7 inq7 atq7 (H d16_12) ?_
 refine g_istore X5 hx (H d16_13) (l' := #[rv a1, iv i1, rv a2, iv i1, iv i3, iv i1, iv v1]) rfl ?_
 refine g_iload X5 hx (H d16_15) rfl ?_
 refine g_sipush X5 hx i255 (H d16_17) rfl ?_
 refine g_icmpYes X5 hx 26 (H d16_20) (flt hd2).2.2.2 (by decide) (by decide) ?_
 refine g_aloadN X5 hx (H d16_26) rfl rfl ?_
 refine g_iloadN X5 hx (H d16_27) rfl ?_
 refine g_iload X5 hx (H d16_28) rfl ?_
 refine g_i2b X5 hx (H d16_30) ?_
 obtain ⟨clq8, Arq8, caq8, saq8, naq8, haq8, gaq8⟩ := id V5
 have inq8 : ¬ (i1 < 0 ∨ clq8.slots.size ≤ (i1).toNatClampNeg) := inb_of saq8 ⟨by decide, by decide⟩
 refine g_stB X5 hx hZ e5 Arq8 inq8 (H d16_31) fun T9 h9 X9 e9 W9 => ?_
 have K9 : Keep h0 h9 [a2] := K5.wr W9 (Or.inl (List.mem_of_getElem? (i := 0) rfl))
 have V9 : Arv Z h9 a2 kb .byte i3 [(.int (nar .byte (v0.toInt8.toInt32))), (.int (nar .byte (v1.toInt8.toInt32))), (.int i0)] (.int i0) := Arv.set Arq8 caq8 saq8 naq8 haq8 gaq8 (fits_nar_byte _) W9 1 rfl (Nat.le_of_ble_eq_true rfl)
 have N9 := Fr.snoc X9 N5 g_a2
 refine g_iinc X9 hx (H d16_32) rfl (l' := #[rv a1, iv i2, rv a2, iv i1, iv i3, iv i1, iv v1]) rfl ?_
 refine g_iinc X9 hx (H d16_35) rfl (l' := #[rv a1, iv i2, rv a2, iv i2, iv i3, iv i1, iv v1]) rfl ?_
 refine g_iinc X9 hx (H d16_38) rfl (l' := #[rv a1, iv i2, rv a2, iv i2, iv i3, iv i2, iv v1]) rfl ?_
 refine g_goto X9 hx 3 (H d16_41) (by decide) (by decide) ?_
 refine g_iload X9 hx (H d16_3) rfl ?_
 refine g_iload X9 hx (H d16_5) rfl ?_
 refine g_icmpNo X9 hx (H d16_7) (tlt (by decide : (i2 < i3))).2.1 ?_
 refine g_aloadN X9 hx (H d16_10) rfl rfl ?_
 refine g_iloadN X9 hx (H d16_11) rfl ?_
 have f_10 := (f_6.other W9 hne_a1_a2)
 obtain ⟨clq11, Arq11, caq11, saq11, naq11, haq11, gaq11⟩ := id f_10
 have inq11 : ¬ (i2 < 0 ∨ clq11.slots.size ≤ (i2).toNatClampNeg) := inb_of saq11 ⟨by decide, by decide⟩
 have atq11 : clq11.slots[(i2).toNatClampNeg]? = some (.int v2) := haq11.at inq11 rfl
 refine g_caload X9 hx hZ e9 Arq11 inq11 atq11 (H d16_12) ?_
 refine g_istore X9 hx (H d16_13) (l' := #[rv a1, iv i2, rv a2, iv i2, iv i3, iv i2, iv v2]) rfl ?_
 refine g_iload X9 hx (H d16_15) rfl ?_
 refine g_sipush X9 hx i255 (H d16_17) rfl ?_
 refine g_icmpYes X9 hx 26 (H d16_20) (flt hd3).2.2.2 (by decide) (by decide) ?_
 refine g_aloadN X9 hx (H d16_26) rfl rfl ?_
 refine g_iloadN X9 hx (H d16_27) rfl ?_
 refine g_iload X9 hx (H d16_28) rfl ?_
 refine g_i2b X9 hx (H d16_30) ?_
 obtain ⟨clq12, Arq12, caq12, saq12, naq12, haq12, gaq12⟩ := id V9
 have inq12 : ¬ (i2 < 0 ∨ clq12.slots.size ≤ (i2).toNatClampNeg) := inb_of saq12 ⟨by decide, by decide⟩
 refine g_stB X9 hx hZ e9 Arq12 inq12 (H d16_31) fun T13 h13 X13 e13 W13 => ?_
 have K13 : Keep h0 h13 [a2] := K9.wr W13 (Or.inl (List.mem_of_getElem? (i := 0) rfl))
 have V13 : Arv Z h13 a2 kb .byte i3 [(.int (nar .byte (v0.toInt8.toInt32))), (.int (nar .byte (v1.toInt8.toInt32))), (.int (nar .byte (v2.toInt8.toInt32)))] (.int i0) := Arv.set Arq12 caq12 saq12 naq12 haq12 gaq12 (fits_nar_byte _) W13 2 rfl (Nat.le_of_ble_eq_true rfl)
 have N13 := Fr.snoc X13 N9 g_a2
 refine g_iinc X13 hx (H d16_32) rfl (l' := #[rv a1, iv i3, rv a2, iv i2, iv i3, iv i2, iv v2]) rfl ?_
 refine g_iinc X13 hx (H d16_35) rfl (l' := #[rv a1, iv i3, rv a2, iv i3, iv i3, iv i2, iv v2]) rfl ?_
 refine g_iinc X13 hx (H d16_38) rfl (l' := #[rv a1, iv i3, rv a2, iv i3, iv i3, iv i3, iv v2]) rfl ?_
 refine g_goto X13 hx 3 (H d16_41) (by decide) (by decide) ?_
 refine g_iload X13 hx (H d16_3) rfl ?_
 refine g_iload X13 hx (H d16_5) rfl ?_
 refine g_icmpYes X13 hx 44 (H d16_7) (flt (by decide : ¬ (i3 < i3))).2.1 (by decide) (by decide) ?_
 refine g_iload X13 hx (H d16_44) rfl ?_
 exact Go.ret (Q := Qm163_fff Z a1 a2 v0 v1 v2 kc kb h0 n0) X13 (v := some (.int i3)) (fun h => by rw [hret] at h; cases h) hlk (fun fs hr => retOut X13 hx hret rfl (Or.inl ⟨rfl, Or.inl rfl, _, rfl⟩) (H d16_46) hr) e13 ⟨rfl, N13, K13, V13⟩ (by decide) (by decide)
def Qm153_t (Z : State) (a1 : Addr) (v0 : Int32) (v1 : Int32) (v2 : Int32) (kc : ClassId) (h0 : Heap) (n0 : Nat) (v : Option Value) (h : Heap) (L : List Loc) : Prop := ∃ (b2_2_8 : Addr) (k2_2_8 : ClassId), v = some (.ref b2_2_8) ∧ Fr n0 L ∧ Keep h0 h [] ∧ n0 ≤ b2_2_8 ∧ h0.size ≤ b2_2_8 ∧ Arv Z h b2_2_8 k2_2_8 .byte i6 [(.int (nar .byte ((v0 >>> (i0 &&& 31)).toInt8.toInt32))), (.int (nar .byte ((v0 >>> (i8 &&& 31)).toInt8.toInt32))), (.int (nar .byte ((v1 >>> (i0 &&& 31)).toInt8.toInt32))), (.int (nar .byte ((v1 >>> (i8 &&& 31)).toInt8.toInt32))), (.int (nar .byte ((v2 >>> (i0 &&& 31)).toInt8.toInt32))), (.int (nar .byte ((v2 >>> (i8 &&& 31)).toInt8.toInt32)))] (.int i0)
theorem rm153_t (l : Launch) (Z : State) (a0 : Array Value) (hw : Hw a0 Z) (a1 : Addr) (v0 : Int32) (v1 : Int32) (v2 : Int32) (kc : ClassId) (h0 : Heap) (n0 : Nat) (Z0 : n0 ≤ h0.size) (V_a1 : Arv Z h0 a1 kc .char i3 [(.int v0), (.int v1), (.int v2)] (.int i0)) (hb0 : 0 ≤ v0.toInt ∧ v0.toInt ≤ 65535) (hb1 : 0 ≤ v1.toInt ∧ v1.toInt ≤ 65535) (hb2 : 0 ≤ v2.toInt ∧ v2.toInt ≤ 65535) (S__assertionsDisabled : Sta Z h0 s1_ s2_ "Z" (.int i1)) (S_HI_BYTE_SHIFT : Sta Z h0 s1_ s3_ "I" (.int i0)) (S_LO_BYTE_SHIFT : Sta Z h0 s1_ s4_ "I" (.int i8)) (hd0 : i255 < v0) :
  Met l Z h0 yy13 jdk_52_method_16_code 6 (some (.array .byte)) (rmk 3 2 9 40) #[(.ref a1), (.int i0), (.int i3)] (Qm153_t Z a1 v0 v1 v2 kc h0 n0) := by
 refine enter (plainFor_of_name pn_15) (fun m => ef_15 m a1 i0 i3) fun p e s m below meth c s₁ hx hby hml hown hnm hZ X0 e0 hret hlk => ?_
 have N0 := Fr.nil n0; have H := @hb c _ hby
 refine g_iloadN X0 hx (H d15_0) rfl ?_
 refine g_newP X0 hx hZ (H d15_1) (tw21 hw) e0 (by decide) 3 (by decide) (by decide) (by decide) (by decide) fun b2 T2 h2 k2 g2 X2 e2 E2 A2 => ?_
 have g_b2 : n0 ≤ b2 := Nat.le_trans Z0 (Nat.le_of_eq g2.symm)
 have sz_b2 : h0.size ≤ b2 := Nat.le_of_eq g2.symm
 have K2 : Keep h0 h2 [] := (Keep.refl h0 []).ext E2
 have V_b2 : Arv Z h2 b2 k2 .byte i3 [(.int i0), (.int i0), (.int i0)] (.int i0) := (Arv.new A2 (by decide)).pad (pad_rep [] (.int i0) 3)
 refine g_astoreN X2 hx (H d15_3) rfl (l' := #[rv a1, iv i0, iv i3, rv b2, .unset, .unset]) rfl ?_
 refine g_aloadN X2 hx (H d15_4) rfl rfl ?_
 refine g_iloadN X2 hx (H d15_5) rfl ?_
 refine g_aloadN X2 hx (H d15_6) rfl rfl ?_
 refine g_iconst X2 hx i0 (H d15_7) rfl ?_
 refine g_iloadN X2 hx (H d15_8) rfl ?_
 have f_3 := (V_a1.keep K2 nin0)
 refine g_static X2 hx hZ (rm163_t l Z a0 hw a1 b2 v0 v1 v2 kc k2 h2 n0 (Nat.le_trans Z0 K2.1) f_3 hb0 hb1 hb2 V_b2 g_b2 (Nat.ne_of_lt (Nat.lt_of_lt_of_le V_a1.lt sz_b2)) hd0) hown (tw76 hw) (tw77 hw) (tw74 hw) (tw78 hw) (by decide) 0 (by decide) (by decide) (by rw [hml]; rfl) [(.ref a1), (.int i0), (.ref b2), (.int i0), (.int i3)] [] (lenOf pd_3 rfl) (Nat.le_of_eq rfl) e2 (by decide) (by decide) rfl rfl (H d15_9) fun v4 T4 Lc4 X4 hQ4 => ?_
 obtain ⟨rfl, N4q, eq4⟩ := hQ4
 have N4 := Fr.app N0 N4q
 show Gs p e below _ T4 m 12 #[rv a1, iv i0, iv i3, rv b2, .unset, .unset] [(.int i0)]
 refine g_istore X4 hx (H d15_12) (l' := #[rv a1, iv i0, iv i3, rv b2, iv i0, .unset]) rfl ?_
 refine g_iload X4 hx (H d15_14) rfl ?_
 refine g_iloadN X4 hx (H d15_16) rfl ?_
 refine g_icmpNo X4 hx (H d15_17) (feq (by decide : ¬ (i0 = i3))).1 ?_
 refine g_aloadN X4 hx (H d15_20) rfl rfl ?_
 refine g_iloadN X4 hx (H d15_21) rfl ?_
 refine g_iloadN X4 hx (H d15_22) rfl ?_
 have f_5 := (staKeep0 S__assertionsDisabled K2)
 have f_6 := (staKeep0 S_HI_BYTE_SHIFT K2)
 have f_7 := (staKeep0 S_LO_BYTE_SHIFT K2)
 refine g_static X4 hx hZ (rm203_o l Z a0 hw a1 v0 v1 v2 kc h2 n0 (Nat.le_trans Z0 K2.1) f_3 hb0 hb1 hb2 f_5 f_6 f_7) hown (tw88 hw) (tw89 hw) (tw74 hw) (tw90 hw) (by decide) 0 (by decide) (by decide) (by rw [hml]; rfl) [(.ref a1), (.int i0), (.int i3)] [] (lenOf pd_4 rfl) (Nat.le_of_eq rfl) eq4 (by decide) (by decide) rfl rfl (H d15_23) fun v8 T8 Lc8 X8 hQ8 => ?_
 obtain ⟨b2_2_8, k2_2_8, rfl, N8q, Kc8, P8_0, P8_1, P8_2⟩ := hQ8
 have K8 : Keep h0 T8.heap [] := K2.trans Kc8 all0
 have g_b2_2_8 := P8_0
 have sz_b2_2_8 : h0.size ≤ b2_2_8 := Nat.le_trans K2.1 P8_1
 have lt_b2_b2_2_8 : b2 < b2_2_8 := Nat.lt_of_lt_of_le V_b2.lt P8_1
 have N8 := Fr.app N4 N8q
 show Gs p e below _ T8 m 26 #[rv a1, iv i0, iv i3, rv b2, iv i0, .unset] [(.ref b2_2_8)]
 refine g_astore X8 hx (H d15_26) rfl (l' := #[rv a1, iv i0, iv i3, rv b2, iv i0, rv b2_2_8]) rfl ?_
 refine g_aload X8 hx (H d15_28) rfl rfl ?_
 refine g_iload X8 hx (H d15_30) rfl ?_
 have f_9 := (staKeep0 f_5 Kc8)
 have f_10 := (staKeep0 f_6 Kc8)
 have f_11 := (staKeep0 f_7 Kc8)
 refine g_static X8 hx hZ (rm2430_o l Z a0 hw b2_2_8 (nar .byte ((v0 >>> (i0 &&& 31)).toInt8.toInt32)) (nar .byte ((v0 >>> (i8 &&& 31)).toInt8.toInt32)) (nar .byte ((v1 >>> (i0 &&& 31)).toInt8.toInt32)) (nar .byte ((v1 >>> (i8 &&& 31)).toInt8.toInt32)) (nar .byte ((v2 >>> (i0 &&& 31)).toInt8.toInt32)) (nar .byte ((v2 >>> (i8 &&& 31)).toInt8.toInt32)) k2_2_8 T8.heap n0 (Nat.le_trans Z0 K8.1) P8_2 f_9 f_10 f_11) hown (tw104 hw) (tw105 hw) (tw74 hw) (tw106 hw) (by decide) 0 (by decide) (by decide) (by rw [hml]; rfl) [(.ref b2_2_8), (.int i0)] [] (lenOf pd_5 rfl) (Nat.le_of_eq rfl) rfl (by decide) (by decide) rfl rfl (H d15_32) fun v12 T12 Lc12 X12 hQ12 => ?_
 obtain ⟨rfl, N12q, eq12⟩ := hQ12
 have N12 := Fr.app N8 N12q
 show Gs p e below _ T12 m 35 #[rv a1, iv i0, iv i3, rv b2, iv i0, rv b2_2_8] [(.int (nar .char (((((nar .byte ((v0 >>> (i0 &&& 31)).toInt8.toInt32)) &&& i255) <<< (i0 &&& 31)) ||| (((nar .byte ((v0 >>> (i8 &&& 31)).toInt8.toInt32)) &&& i255) <<< (i8 &&& 31))).toUInt32.toUInt16.toUInt32.toInt32)))]
 refine g_sipush X12 hx i255 (H d15_35) rfl ?_
 refine g_icmpYes X12 hx 54 (H d15_38) (tlt (own_gt hb0 hd0)).2.2.1 (by decide) (by decide) ?_
 refine g_aload X12 hx (H d15_54) rfl rfl ?_
 exact Go.ret (Q := Qm153_t Z a1 v0 v1 v2 kc h0 n0) X12 (v := some (.ref b2_2_8)) (fun h => by rw [hret] at h; cases h) hlk (fun fs hr => retOut X12 hx hret rfl (Or.inr (Or.inr (Or.inr (Or.inr ⟨rfl, rfl, rfl⟩)))) (H d15_56) hr) eq12 ⟨b2_2_8, k2_2_8, rfl, N12, K8, g_b2_2_8, sz_b2_2_8, P8_2⟩ (by decide) (by decide)
def Qm153_ft (Z : State) (a1 : Addr) (v0 : Int32) (v1 : Int32) (v2 : Int32) (kc : ClassId) (h0 : Heap) (n0 : Nat) (v : Option Value) (h : Heap) (L : List Loc) : Prop := ∃ (b2_2_9 : Addr) (k2_2_9 : ClassId), v = some (.ref b2_2_9) ∧ Fr n0 L ∧ Keep h0 h [] ∧ n0 ≤ b2_2_9 ∧ h0.size ≤ b2_2_9 ∧ Arv Z h b2_2_9 k2_2_9 .byte i6 [(.int (nar .byte ((v0 >>> (i0 &&& 31)).toInt8.toInt32))), (.int (nar .byte ((v0 >>> (i8 &&& 31)).toInt8.toInt32))), (.int (nar .byte ((v1 >>> (i0 &&& 31)).toInt8.toInt32))), (.int (nar .byte ((v1 >>> (i8 &&& 31)).toInt8.toInt32))), (.int (nar .byte ((v2 >>> (i0 &&& 31)).toInt8.toInt32))), (.int (nar .byte ((v2 >>> (i8 &&& 31)).toInt8.toInt32)))] (.int i0)
theorem rm153_ft (l : Launch) (Z : State) (a0 : Array Value) (hw : Hw a0 Z) (a1 : Addr) (v0 : Int32) (v1 : Int32) (v2 : Int32) (kc : ClassId) (h0 : Heap) (n0 : Nat) (Z0 : n0 ≤ h0.size) (V_a1 : Arv Z h0 a1 kc .char i3 [(.int v0), (.int v1), (.int v2)] (.int i0)) (hb0 : 0 ≤ v0.toInt ∧ v0.toInt ≤ 65535) (hb1 : 0 ≤ v1.toInt ∧ v1.toInt ≤ 65535) (hb2 : 0 ≤ v2.toInt ∧ v2.toInt ≤ 65535) (S__assertionsDisabled : Sta Z h0 s1_ s2_ "Z" (.int i1)) (S_HI_BYTE_SHIFT : Sta Z h0 s1_ s3_ "I" (.int i0)) (S_LO_BYTE_SHIFT : Sta Z h0 s1_ s4_ "I" (.int i8)) (hd0 : ¬ (i255 < v0)) (hd1 : i255 < v1) :
  Met l Z h0 yy13 jdk_52_method_16_code 6 (some (.array .byte)) (rmk 3 2 9 40) #[(.ref a1), (.int i0), (.int i3)] (Qm153_ft Z a1 v0 v1 v2 kc h0 n0) := by
 refine enter (plainFor_of_name pn_15) (fun m => ef_15 m a1 i0 i3) fun p e s m below meth c s₁ hx hby hml hown hnm hZ X0 e0 hret hlk => ?_
 have N0 := Fr.nil n0; have H := @hb c _ hby
 refine g_iloadN X0 hx (H d15_0) rfl ?_
 refine g_newP X0 hx hZ (H d15_1) (tw21 hw) e0 (by decide) 3 (by decide) (by decide) (by decide) (by decide) fun b2 T2 h2 k2 g2 X2 e2 E2 A2 => ?_
 have g_b2 : n0 ≤ b2 := Nat.le_trans Z0 (Nat.le_of_eq g2.symm)
 have sz_b2 : h0.size ≤ b2 := Nat.le_of_eq g2.symm
 have K2 : Keep h0 h2 [] := (Keep.refl h0 []).ext E2
 have V_b2 : Arv Z h2 b2 k2 .byte i3 [(.int i0), (.int i0), (.int i0)] (.int i0) := (Arv.new A2 (by decide)).pad (pad_rep [] (.int i0) 3)
 refine g_astoreN X2 hx (H d15_3) rfl (l' := #[rv a1, iv i0, iv i3, rv b2, .unset, .unset]) rfl ?_
 refine g_aloadN X2 hx (H d15_4) rfl rfl ?_
 refine g_iloadN X2 hx (H d15_5) rfl ?_
 refine g_aloadN X2 hx (H d15_6) rfl rfl ?_
 refine g_iconst X2 hx i0 (H d15_7) rfl ?_
 refine g_iloadN X2 hx (H d15_8) rfl ?_
 have f_3 := (V_a1.keep K2 nin0)
 refine g_static X2 hx hZ (rm163_ft l Z a0 hw a1 b2 v0 v1 v2 kc k2 h2 n0 (Nat.le_trans Z0 K2.1) f_3 hb0 hb1 hb2 V_b2 g_b2 (Nat.ne_of_lt (Nat.lt_of_lt_of_le V_a1.lt sz_b2)) hd0 hd1) hown (tw76 hw) (tw77 hw) (tw74 hw) (tw78 hw) (by decide) 0 (by decide) (by decide) (by rw [hml]; rfl) [(.ref a1), (.int i0), (.ref b2), (.int i0), (.int i3)] [] (lenOf pd_3 rfl) (Nat.le_of_eq rfl) e2 (by decide) (by decide) rfl rfl (H d15_9) fun v4 T4 Lc4 X4 hQ4 => ?_
 obtain ⟨rfl, N4q, Kc4, P4_0⟩ := hQ4
 have K4 : Keep h0 T4.heap [] := K2.trans Kc4 (allS (Or.inr sz_b2) all0)
 have N4 := Fr.app N0 N4q
 show Gs p e below _ T4 m 12 #[rv a1, iv i0, iv i3, rv b2, .unset, .unset] [(.int i1)]
 refine g_istore X4 hx (H d15_12) (l' := #[rv a1, iv i0, iv i3, rv b2, iv i1, .unset]) rfl ?_
 refine g_iload X4 hx (H d15_14) rfl ?_
 refine g_iloadN X4 hx (H d15_16) rfl ?_
 refine g_icmpNo X4 hx (H d15_17) (feq (by decide : ¬ (i1 = i3))).1 ?_
 refine g_aloadN X4 hx (H d15_20) rfl rfl ?_
 refine g_iloadN X4 hx (H d15_21) rfl ?_
 refine g_iloadN X4 hx (H d15_22) rfl ?_
 have f_5 := (f_3.keep Kc4 (ninS (Nat.ne_of_lt (Nat.lt_of_lt_of_le V_a1.lt sz_b2)) nin0))
 have f_6 := (staKeep0 S__assertionsDisabled K4)
 have f_7 := (staKeep0 S_HI_BYTE_SHIFT K4)
 have f_8 := (staKeep0 S_LO_BYTE_SHIFT K4)
 refine g_static X4 hx hZ (rm203_o l Z a0 hw a1 v0 v1 v2 kc T4.heap n0 (Nat.le_trans Z0 K4.1) f_5 hb0 hb1 hb2 f_6 f_7 f_8) hown (tw88 hw) (tw89 hw) (tw74 hw) (tw90 hw) (by decide) 0 (by decide) (by decide) (by rw [hml]; rfl) [(.ref a1), (.int i0), (.int i3)] [] (lenOf pd_4 rfl) (Nat.le_of_eq rfl) rfl (by decide) (by decide) rfl rfl (H d15_23) fun v9 T9 Lc9 X9 hQ9 => ?_
 obtain ⟨b2_2_9, k2_2_9, rfl, N9q, Kc9, P9_0, P9_1, P9_2⟩ := hQ9
 have K9 : Keep h0 T9.heap [] := K4.trans Kc9 all0
 have g_b2_2_9 := P9_0
 have sz_b2_2_9 : h0.size ≤ b2_2_9 := Nat.le_trans K4.1 P9_1
 have lt_b2_b2_2_9 : b2 < b2_2_9 := Nat.lt_of_lt_of_le P4_0.lt P9_1
 have N9 := Fr.app N4 N9q
 show Gs p e below _ T9 m 26 #[rv a1, iv i0, iv i3, rv b2, iv i1, .unset] [(.ref b2_2_9)]
 refine g_astore X9 hx (H d15_26) rfl (l' := #[rv a1, iv i0, iv i3, rv b2, iv i1, rv b2_2_9]) rfl ?_
 refine g_aload X9 hx (H d15_28) rfl rfl ?_
 refine g_iload X9 hx (H d15_30) rfl ?_
 have f_10 := (staKeep0 f_6 Kc9)
 have f_11 := (staKeep0 f_7 Kc9)
 have f_12 := (staKeep0 f_8 Kc9)
 refine g_static X9 hx hZ (rm2431_o l Z a0 hw b2_2_9 (nar .byte ((v0 >>> (i0 &&& 31)).toInt8.toInt32)) (nar .byte ((v0 >>> (i8 &&& 31)).toInt8.toInt32)) (nar .byte ((v1 >>> (i0 &&& 31)).toInt8.toInt32)) (nar .byte ((v1 >>> (i8 &&& 31)).toInt8.toInt32)) (nar .byte ((v2 >>> (i0 &&& 31)).toInt8.toInt32)) (nar .byte ((v2 >>> (i8 &&& 31)).toInt8.toInt32)) k2_2_9 T9.heap n0 (Nat.le_trans Z0 K9.1) P9_2 f_10 f_11 f_12) hown (tw104 hw) (tw105 hw) (tw74 hw) (tw106 hw) (by decide) 0 (by decide) (by decide) (by rw [hml]; rfl) [(.ref b2_2_9), (.int i1)] [] (lenOf pd_5 rfl) (Nat.le_of_eq rfl) rfl (by decide) (by decide) rfl rfl (H d15_32) fun v13 T13 Lc13 X13 hQ13 => ?_
 obtain ⟨rfl, N13q, eq13⟩ := hQ13
 have N13 := Fr.app N9 N13q
 show Gs p e below _ T13 m 35 #[rv a1, iv i0, iv i3, rv b2, iv i1, rv b2_2_9] [(.int (nar .char (((((nar .byte ((v1 >>> (i0 &&& 31)).toInt8.toInt32)) &&& i255) <<< (i0 &&& 31)) ||| (((nar .byte ((v1 >>> (i8 &&& 31)).toInt8.toInt32)) &&& i255) <<< (i8 &&& 31))).toUInt32.toUInt16.toUInt32.toInt32)))]
 refine g_sipush X13 hx i255 (H d15_35) rfl ?_
 refine g_icmpYes X13 hx 54 (H d15_38) (tlt (own_gt hb1 hd1)).2.2.1 (by decide) (by decide) ?_
 refine g_aload X13 hx (H d15_54) rfl rfl ?_
 exact Go.ret (Q := Qm153_ft Z a1 v0 v1 v2 kc h0 n0) X13 (v := some (.ref b2_2_9)) (fun h => by rw [hret] at h; cases h) hlk (fun fs hr => retOut X13 hx hret rfl (Or.inr (Or.inr (Or.inr (Or.inr ⟨rfl, rfl, rfl⟩)))) (H d15_56) hr) eq13 ⟨b2_2_9, k2_2_9, rfl, N13, K9, g_b2_2_9, sz_b2_2_9, P9_2⟩ (by decide) (by decide)
def Qm153_fft (Z : State) (a1 : Addr) (v0 : Int32) (v1 : Int32) (v2 : Int32) (kc : ClassId) (h0 : Heap) (n0 : Nat) (v : Option Value) (h : Heap) (L : List Loc) : Prop := ∃ (b2_2_9 : Addr) (k2_2_9 : ClassId), v = some (.ref b2_2_9) ∧ Fr n0 L ∧ Keep h0 h [] ∧ n0 ≤ b2_2_9 ∧ h0.size ≤ b2_2_9 ∧ Arv Z h b2_2_9 k2_2_9 .byte i6 [(.int (nar .byte ((v0 >>> (i0 &&& 31)).toInt8.toInt32))), (.int (nar .byte ((v0 >>> (i8 &&& 31)).toInt8.toInt32))), (.int (nar .byte ((v1 >>> (i0 &&& 31)).toInt8.toInt32))), (.int (nar .byte ((v1 >>> (i8 &&& 31)).toInt8.toInt32))), (.int (nar .byte ((v2 >>> (i0 &&& 31)).toInt8.toInt32))), (.int (nar .byte ((v2 >>> (i8 &&& 31)).toInt8.toInt32)))] (.int i0)
theorem rm153_fft (l : Launch) (Z : State) (a0 : Array Value) (hw : Hw a0 Z) (a1 : Addr) (v0 : Int32) (v1 : Int32) (v2 : Int32) (kc : ClassId) (h0 : Heap) (n0 : Nat) (Z0 : n0 ≤ h0.size) (V_a1 : Arv Z h0 a1 kc .char i3 [(.int v0), (.int v1), (.int v2)] (.int i0)) (hb0 : 0 ≤ v0.toInt ∧ v0.toInt ≤ 65535) (hb1 : 0 ≤ v1.toInt ∧ v1.toInt ≤ 65535) (hb2 : 0 ≤ v2.toInt ∧ v2.toInt ≤ 65535) (S__assertionsDisabled : Sta Z h0 s1_ s2_ "Z" (.int i1)) (S_HI_BYTE_SHIFT : Sta Z h0 s1_ s3_ "I" (.int i0)) (S_LO_BYTE_SHIFT : Sta Z h0 s1_ s4_ "I" (.int i8)) (hd0 : ¬ (i255 < v0)) (hd1 : ¬ (i255 < v1)) (hd2 : i255 < v2) :
  Met l Z h0 yy13 jdk_52_method_16_code 6 (some (.array .byte)) (rmk 3 2 9 40) #[(.ref a1), (.int i0), (.int i3)] (Qm153_fft Z a1 v0 v1 v2 kc h0 n0) := by
 refine enter (plainFor_of_name pn_15) (fun m => ef_15 m a1 i0 i3) fun p e s m below meth c s₁ hx hby hml hown hnm hZ X0 e0 hret hlk => ?_
 have N0 := Fr.nil n0; have H := @hb c _ hby
 refine g_iloadN X0 hx (H d15_0) rfl ?_
 refine g_newP X0 hx hZ (H d15_1) (tw21 hw) e0 (by decide) 3 (by decide) (by decide) (by decide) (by decide) fun b2 T2 h2 k2 g2 X2 e2 E2 A2 => ?_
 have g_b2 : n0 ≤ b2 := Nat.le_trans Z0 (Nat.le_of_eq g2.symm)
 have sz_b2 : h0.size ≤ b2 := Nat.le_of_eq g2.symm
 have K2 : Keep h0 h2 [] := (Keep.refl h0 []).ext E2
 have V_b2 : Arv Z h2 b2 k2 .byte i3 [(.int i0), (.int i0), (.int i0)] (.int i0) := (Arv.new A2 (by decide)).pad (pad_rep [] (.int i0) 3)
 refine g_astoreN X2 hx (H d15_3) rfl (l' := #[rv a1, iv i0, iv i3, rv b2, .unset, .unset]) rfl ?_
 refine g_aloadN X2 hx (H d15_4) rfl rfl ?_
 refine g_iloadN X2 hx (H d15_5) rfl ?_
 refine g_aloadN X2 hx (H d15_6) rfl rfl ?_
 refine g_iconst X2 hx i0 (H d15_7) rfl ?_
 refine g_iloadN X2 hx (H d15_8) rfl ?_
 have f_3 := (V_a1.keep K2 nin0)
 refine g_static X2 hx hZ (rm163_fft l Z a0 hw a1 b2 v0 v1 v2 kc k2 h2 n0 (Nat.le_trans Z0 K2.1) f_3 hb0 hb1 hb2 V_b2 g_b2 (Nat.ne_of_lt (Nat.lt_of_lt_of_le V_a1.lt sz_b2)) hd0 hd1 hd2) hown (tw76 hw) (tw77 hw) (tw74 hw) (tw78 hw) (by decide) 0 (by decide) (by decide) (by rw [hml]; rfl) [(.ref a1), (.int i0), (.ref b2), (.int i0), (.int i3)] [] (lenOf pd_3 rfl) (Nat.le_of_eq rfl) e2 (by decide) (by decide) rfl rfl (H d15_9) fun v4 T4 Lc4 X4 hQ4 => ?_
 obtain ⟨rfl, N4q, Kc4, P4_0⟩ := hQ4
 have K4 : Keep h0 T4.heap [] := K2.trans Kc4 (allS (Or.inr sz_b2) all0)
 have N4 := Fr.app N0 N4q
 show Gs p e below _ T4 m 12 #[rv a1, iv i0, iv i3, rv b2, .unset, .unset] [(.int i2)]
 refine g_istore X4 hx (H d15_12) (l' := #[rv a1, iv i0, iv i3, rv b2, iv i2, .unset]) rfl ?_
 refine g_iload X4 hx (H d15_14) rfl ?_
 refine g_iloadN X4 hx (H d15_16) rfl ?_
 refine g_icmpNo X4 hx (H d15_17) (feq (by decide : ¬ (i2 = i3))).1 ?_
 refine g_aloadN X4 hx (H d15_20) rfl rfl ?_
 refine g_iloadN X4 hx (H d15_21) rfl ?_
 refine g_iloadN X4 hx (H d15_22) rfl ?_
 have f_5 := (f_3.keep Kc4 (ninS (Nat.ne_of_lt (Nat.lt_of_lt_of_le V_a1.lt sz_b2)) nin0))
 have f_6 := (staKeep0 S__assertionsDisabled K4)
 have f_7 := (staKeep0 S_HI_BYTE_SHIFT K4)
 have f_8 := (staKeep0 S_LO_BYTE_SHIFT K4)
 refine g_static X4 hx hZ (rm203_o l Z a0 hw a1 v0 v1 v2 kc T4.heap n0 (Nat.le_trans Z0 K4.1) f_5 hb0 hb1 hb2 f_6 f_7 f_8) hown (tw88 hw) (tw89 hw) (tw74 hw) (tw90 hw) (by decide) 0 (by decide) (by decide) (by rw [hml]; rfl) [(.ref a1), (.int i0), (.int i3)] [] (lenOf pd_4 rfl) (Nat.le_of_eq rfl) rfl (by decide) (by decide) rfl rfl (H d15_23) fun v9 T9 Lc9 X9 hQ9 => ?_
 obtain ⟨b2_2_9, k2_2_9, rfl, N9q, Kc9, P9_0, P9_1, P9_2⟩ := hQ9
 have K9 : Keep h0 T9.heap [] := K4.trans Kc9 all0
 have g_b2_2_9 := P9_0
 have sz_b2_2_9 : h0.size ≤ b2_2_9 := Nat.le_trans K4.1 P9_1
 have lt_b2_b2_2_9 : b2 < b2_2_9 := Nat.lt_of_lt_of_le P4_0.lt P9_1
 have N9 := Fr.app N4 N9q
 show Gs p e below _ T9 m 26 #[rv a1, iv i0, iv i3, rv b2, iv i2, .unset] [(.ref b2_2_9)]
 refine g_astore X9 hx (H d15_26) rfl (l' := #[rv a1, iv i0, iv i3, rv b2, iv i2, rv b2_2_9]) rfl ?_
 refine g_aload X9 hx (H d15_28) rfl rfl ?_
 refine g_iload X9 hx (H d15_30) rfl ?_
 have f_10 := (staKeep0 f_6 Kc9)
 have f_11 := (staKeep0 f_7 Kc9)
 have f_12 := (staKeep0 f_8 Kc9)
 refine g_static X9 hx hZ (rm2432_o l Z a0 hw b2_2_9 (nar .byte ((v0 >>> (i0 &&& 31)).toInt8.toInt32)) (nar .byte ((v0 >>> (i8 &&& 31)).toInt8.toInt32)) (nar .byte ((v1 >>> (i0 &&& 31)).toInt8.toInt32)) (nar .byte ((v1 >>> (i8 &&& 31)).toInt8.toInt32)) (nar .byte ((v2 >>> (i0 &&& 31)).toInt8.toInt32)) (nar .byte ((v2 >>> (i8 &&& 31)).toInt8.toInt32)) k2_2_9 T9.heap n0 (Nat.le_trans Z0 K9.1) P9_2 f_10 f_11 f_12) hown (tw104 hw) (tw105 hw) (tw74 hw) (tw106 hw) (by decide) 0 (by decide) (by decide) (by rw [hml]; rfl) [(.ref b2_2_9), (.int i2)] [] (lenOf pd_5 rfl) (Nat.le_of_eq rfl) rfl (by decide) (by decide) rfl rfl (H d15_32) fun v13 T13 Lc13 X13 hQ13 => ?_
 obtain ⟨rfl, N13q, eq13⟩ := hQ13
 have N13 := Fr.app N9 N13q
 show Gs p e below _ T13 m 35 #[rv a1, iv i0, iv i3, rv b2, iv i2, rv b2_2_9] [(.int (nar .char (((((nar .byte ((v2 >>> (i0 &&& 31)).toInt8.toInt32)) &&& i255) <<< (i0 &&& 31)) ||| (((nar .byte ((v2 >>> (i8 &&& 31)).toInt8.toInt32)) &&& i255) <<< (i8 &&& 31))).toUInt32.toUInt16.toUInt32.toInt32)))]
 refine g_sipush X13 hx i255 (H d15_35) rfl ?_
 refine g_icmpYes X13 hx 54 (H d15_38) (tlt (own_gt hb2 hd2)).2.2.1 (by decide) (by decide) ?_
 refine g_aload X13 hx (H d15_54) rfl rfl ?_
 exact Go.ret (Q := Qm153_fft Z a1 v0 v1 v2 kc h0 n0) X13 (v := some (.ref b2_2_9)) (fun h => by rw [hret] at h; cases h) hlk (fun fs hr => retOut X13 hx hret rfl (Or.inr (Or.inr (Or.inr (Or.inr ⟨rfl, rfl, rfl⟩)))) (H d15_56) hr) eq13 ⟨b2_2_9, k2_2_9, rfl, N13, K9, g_b2_2_9, sz_b2_2_9, P9_2⟩ (by decide) (by decide)
def Qm153_fff (Z : State) (a1 : Addr) (v0 : Int32) (v1 : Int32) (v2 : Int32) (kc : ClassId) (h0 : Heap) (n0 : Nat) (v : Option Value) (h : Heap) (L : List Loc) : Prop := ∃ (b2 : Addr) (k2 : ClassId), v = some (.ref b2) ∧ Fr n0 L ∧ Keep h0 h [] ∧ n0 ≤ b2 ∧ h0.size ≤ b2 ∧ Arv Z h b2 k2 .byte i3 [(.int (nar .byte (v0.toInt8.toInt32))), (.int (nar .byte (v1.toInt8.toInt32))), (.int (nar .byte (v2.toInt8.toInt32)))] (.int i0)
theorem rm153_fff (l : Launch) (Z : State) (a0 : Array Value) (hw : Hw a0 Z) (a1 : Addr) (v0 : Int32) (v1 : Int32) (v2 : Int32) (kc : ClassId) (h0 : Heap) (n0 : Nat) (Z0 : n0 ≤ h0.size) (V_a1 : Arv Z h0 a1 kc .char i3 [(.int v0), (.int v1), (.int v2)] (.int i0)) (hb0 : 0 ≤ v0.toInt ∧ v0.toInt ≤ 65535) (hb1 : 0 ≤ v1.toInt ∧ v1.toInt ≤ 65535) (hb2 : 0 ≤ v2.toInt ∧ v2.toInt ≤ 65535) (S__assertionsDisabled : Sta Z h0 s1_ s2_ "Z" (.int i1)) (S_HI_BYTE_SHIFT : Sta Z h0 s1_ s3_ "I" (.int i0)) (S_LO_BYTE_SHIFT : Sta Z h0 s1_ s4_ "I" (.int i8)) (hd0 : ¬ (i255 < v0)) (hd1 : ¬ (i255 < v1)) (hd2 : ¬ (i255 < v2)) :
  Met l Z h0 yy13 jdk_52_method_16_code 6 (some (.array .byte)) (rmk 1 1 3 18) #[(.ref a1), (.int i0), (.int i3)] (Qm153_fff Z a1 v0 v1 v2 kc h0 n0) := by
 refine enter (plainFor_of_name pn_15) (fun m => ef_15 m a1 i0 i3) fun p e s m below meth c s₁ hx hby hml hown hnm hZ X0 e0 hret hlk => ?_
 have N0 := Fr.nil n0; have H := @hb c _ hby
 refine g_iloadN X0 hx (H d15_0) rfl ?_
 refine g_newP X0 hx hZ (H d15_1) (tw21 hw) e0 (by decide) 3 (by decide) (by decide) (by decide) (by decide) fun b2 T2 h2 k2 g2 X2 e2 E2 A2 => ?_
 have g_b2 : n0 ≤ b2 := Nat.le_trans Z0 (Nat.le_of_eq g2.symm)
 have sz_b2 : h0.size ≤ b2 := Nat.le_of_eq g2.symm
 have K2 : Keep h0 h2 [] := (Keep.refl h0 []).ext E2
 have V_b2 : Arv Z h2 b2 k2 .byte i3 [(.int i0), (.int i0), (.int i0)] (.int i0) := (Arv.new A2 (by decide)).pad (pad_rep [] (.int i0) 3)
 refine g_astoreN X2 hx (H d15_3) rfl (l' := #[rv a1, iv i0, iv i3, rv b2, .unset, .unset]) rfl ?_
 refine g_aloadN X2 hx (H d15_4) rfl rfl ?_
 refine g_iloadN X2 hx (H d15_5) rfl ?_
 refine g_aloadN X2 hx (H d15_6) rfl rfl ?_
 refine g_iconst X2 hx i0 (H d15_7) rfl ?_
 refine g_iloadN X2 hx (H d15_8) rfl ?_
 have f_3 := (V_a1.keep K2 nin0)
 refine g_static X2 hx hZ (rm163_fff l Z a0 hw a1 b2 v0 v1 v2 kc k2 h2 n0 (Nat.le_trans Z0 K2.1) f_3 hb0 hb1 hb2 V_b2 g_b2 (Nat.ne_of_lt (Nat.lt_of_lt_of_le V_a1.lt sz_b2)) hd0 hd1 hd2) hown (tw76 hw) (tw77 hw) (tw74 hw) (tw78 hw) (by decide) 0 (by decide) (by decide) (by rw [hml]; rfl) [(.ref a1), (.int i0), (.ref b2), (.int i0), (.int i3)] [] (lenOf pd_3 rfl) (Nat.le_of_eq rfl) e2 (by decide) (by decide) rfl rfl (H d15_9) fun v4 T4 Lc4 X4 hQ4 => ?_
 obtain ⟨rfl, N4q, Kc4, P4_0⟩ := hQ4
 have K4 : Keep h0 T4.heap [] := K2.trans Kc4 (allS (Or.inr sz_b2) all0)
 have N4 := Fr.app N0 N4q
 show Gs p e below _ T4 m 12 #[rv a1, iv i0, iv i3, rv b2, .unset, .unset] [(.int i3)]
 refine g_istore X4 hx (H d15_12) (l' := #[rv a1, iv i0, iv i3, rv b2, iv i3, .unset]) rfl ?_
 refine g_iload X4 hx (H d15_14) rfl ?_
 refine g_iloadN X4 hx (H d15_16) rfl ?_
 refine g_icmpYes X4 hx 57 (H d15_17) (teq (by decide : (i3 = i3))).1 (by decide) (by decide) ?_
 refine g_aloadN X4 hx (H d15_57) rfl rfl ?_
 exact Go.ret (Q := Qm153_fff Z a1 v0 v1 v2 kc h0 n0) X4 (v := some (.ref b2)) (fun h => by rw [hret] at h; cases h) hlk (fun fs hr => retOut X4 hx hret rfl (Or.inr (Or.inr (Or.inr (Or.inr ⟨rfl, rfl, rfl⟩)))) (H d15_58) hr) rfl ⟨b2, k2, rfl, N4, K4, g_b2, sz_b2, P4_0⟩ (by decide) (by decide)
theorem rm153U (l : Launch) (Z : State) (a0 : Array Value) (hw : Hw a0 Z) (a1 : Addr) (v0 : Int32) (v1 : Int32) (v2 : Int32) (kc : ClassId) (h0 : Heap) (n0 : Nat) (Z0 : n0 ≤ h0.size) (V_a1 : Arv Z h0 a1 kc .char i3 [(.int v0), (.int v1), (.int v2)] (.int i0)) (hb0 : 0 ≤ v0.toInt ∧ v0.toInt ≤ 65535) (hb1 : 0 ≤ v1.toInt ∧ v1.toInt ≤ 65535) (hb2 : 0 ≤ v2.toInt ∧ v2.toInt ≤ 65535) (S__assertionsDisabled : Sta Z h0 s1_ s2_ "Z" (.int i1)) (S_HI_BYTE_SHIFT : Sta Z h0 s1_ s3_ "I" (.int i0)) (S_LO_BYTE_SHIFT : Sta Z h0 s1_ s4_ "I" (.int i8)) (hU : i255 < v0 ∨ i255 < v1 ∨ i255 < v2) :
  Met l Z h0 yy13 jdk_52_method_16_code 6 (some (.array .byte)) (rmk 3 2 9 40) #[(.ref a1), (.int i0), (.int i3)] (Qm153_t Z a1 v0 v1 v2 kc h0 n0) := by
 by_cases hk0 : i255 < v0
 · exact rm153_t l Z a0 hw a1 v0 v1 v2 kc h0 n0 Z0 V_a1 hb0 hb1 hb2 S__assertionsDisabled S_HI_BYTE_SHIFT S_LO_BYTE_SHIFT hk0
 by_cases hk1 : i255 < v1
 · exact rm153_ft l Z a0 hw a1 v0 v1 v2 kc h0 n0 Z0 V_a1 hb0 hb1 hb2 S__assertionsDisabled S_HI_BYTE_SHIFT S_LO_BYTE_SHIFT hk0 hk1
 by_cases hk2 : i255 < v2
 · exact rm153_fft l Z a0 hw a1 v0 v1 v2 kc h0 n0 Z0 V_a1 hb0 hb1 hb2 S__assertionsDisabled S_HI_BYTE_SHIFT S_LO_BYTE_SHIFT hk0 hk1 hk2
 exact (fun q => q.elim (fun q => absurd q hk0) (fun q => q.elim (fun q => absurd q hk1) (fun q => absurd q hk2))) hU
def Qm173_o (Z : State) (a1 : Addr) (h0 : Heap) (n0 : Nat) (v : Option Value) (h : Heap) (L : List Loc) : Prop := v = some (.int i0) ∧ Fr n0 L ∧ h = h0
theorem rm173_o (l : Launch) (Z : State) (a0 : Array Value) (hw : Hw a0 Z) (a1 : Addr) (h0 : Heap) (n0 : Nat) (Z0 : n0 ≤ h0.size) (V_a1 : Arn Z h0 a1 .byte i3) :
  Met l Z h0 yy14 jdk_52_method_15_code 2 (some .byte) (rmk 0 0 0 0) #[(.ref a1), (.int i3)] (Qm173_o Z a1 h0 n0) := by
 refine enter (plainFor_of_name pn_17) (fun m => ef_17 m a1 i3) fun p e s m below meth c s₁ hx hby hml hown hnm hZ X0 e0 hret hlk => ?_
 have N0 := Fr.nil n0; have H := @hb c _ hby
 refine g_iloadN X0 hx (H d17_0) rfl ?_
 refine g_aloadN X0 hx (H d17_1) rfl rfl ?_
 obtain ⟨clq2, Arq2, saq2, naq2⟩ := id V_a1
 refine g_len X0 hx hZ e0 Arq2 saq2 naq2 (H d17_2) ?_
 refine g_isub X0 hx (H d17_3) ?_
 rw [show (i3 - i3) = i0 from by decide]
 show Gs p e below _ s₁ m 4 #[rv a1, iv i3] [(.int i0)]
 refine g_bipush X0 hx i31 (H d17_4) rfl ?_
 refine g_iushr X0 hx (H d17_6) ?_
 rw [show ((i0.toUInt32 >>> (i31 &&& 31).toUInt32).toInt32) = i0 from by decide]
 show Gs p e below _ s₁ m 7 #[rv a1, iv i3] [(.int i0)]
 refine g_i2b X0 hx (H d17_7) ?_
 rw [show (i0.toInt8.toInt32) = i0 from by decide]
 show Gs p e below _ s₁ m 8 #[rv a1, iv i3] [(.int i0)]
 exact Go.ret (Q := Qm173_o Z a1 h0 n0) X0 (v := some (.int i0)) (fun h => by rw [hret] at h; cases h) hlk (fun fs hr => retN X0 hx (t := .byte) hret (by simp) (H d17_8) hr) e0 ⟨rfl, N0, rfl⟩ (by decide) (by decide)
def Qm173u_o (Z : State) (a1 : Addr) (h0 : Heap) (n0 : Nat) (v : Option Value) (h : Heap) (L : List Loc) : Prop := v = some (.int i1) ∧ Fr n0 L ∧ h = h0
theorem rm173u_o (l : Launch) (Z : State) (a0 : Array Value) (hw : Hw a0 Z) (a1 : Addr) (h0 : Heap) (n0 : Nat) (Z0 : n0 ≤ h0.size) (V_a1 : Arn Z h0 a1 .byte i6) :
  Met l Z h0 yy14 jdk_52_method_15_code 2 (some .byte) (rmk 0 0 0 0) #[(.ref a1), (.int i3)] (Qm173u_o Z a1 h0 n0) := by
 refine enter (plainFor_of_name pn_17) (fun m => ef_17 m a1 i3) fun p e s m below meth c s₁ hx hby hml hown hnm hZ X0 e0 hret hlk => ?_
 have N0 := Fr.nil n0; have H := @hb c _ hby
 refine g_iloadN X0 hx (H d17_0) rfl ?_
 refine g_aloadN X0 hx (H d17_1) rfl rfl ?_
 obtain ⟨clq2, Arq2, saq2, naq2⟩ := id V_a1
 refine g_len X0 hx hZ e0 Arq2 saq2 naq2 (H d17_2) ?_
 refine g_isub X0 hx (H d17_3) ?_
 rw [show (i3 - i6) = im3 from by decide]
 show Gs p e below _ s₁ m 4 #[rv a1, iv i3] [(.int im3)]
 refine g_bipush X0 hx i31 (H d17_4) rfl ?_
 refine g_iushr X0 hx (H d17_6) ?_
 rw [show ((im3.toUInt32 >>> (i31 &&& 31).toUInt32).toInt32) = i1 from by decide]
 show Gs p e below _ s₁ m 7 #[rv a1, iv i3] [(.int i1)]
 refine g_i2b X0 hx (H d17_7) ?_
 rw [show (i1.toInt8.toInt32) = i1 from by decide]
 show Gs p e below _ s₁ m 8 #[rv a1, iv i3] [(.int i1)]
 exact Go.ret (Q := Qm173u_o Z a1 h0 n0) X0 (v := some (.int i1)) (fun h => by rw [hret] at h; cases h) hlk (fun fs hr => retN X0 hx (t := .byte) hret (by simp) (H d17_8) hr) e0 ⟨rfl, N0, rfl⟩ (by decide) (by decide)
def Qm33U_f (Z : State) (a1 : Addr) (a2 : Addr) (v0 : Int32) (v1 : Int32) (v2 : Int32) (kc : ClassId) (u_coder_a1 : Value) (u_value_a1 : Value) (w4 : Int32) (h0 : Heap) (n0 : Nat) (v : Option Value) (h : Heap) (L : List Loc) : Prop := ∃ (b2_2_8_6 : Addr) (k2_2_8_6 : ClassId), v = none ∧ Fr n0 L ∧ Keep h0 h [a1] ∧ Exa Z h a1 s0_ ∧ Fld Z h a1 s0_ "coder" "B" (.int i1) ∧ Fld Z h a1 s0_ "value" "[B" (.ref b2_2_8_6) ∧ Arv Z h b2_2_8_6 k2_2_8_6 .byte i6 [(.int (nar .byte ((v0 >>> (i0 &&& 31)).toInt8.toInt32))), (.int (nar .byte ((v0 >>> (i8 &&& 31)).toInt8.toInt32))), (.int (nar .byte ((v1 >>> (i0 &&& 31)).toInt8.toInt32))), (.int (nar .byte ((v1 >>> (i8 &&& 31)).toInt8.toInt32))), (.int (nar .byte ((v2 >>> (i0 &&& 31)).toInt8.toInt32))), (.int (nar .byte ((v2 >>> (i8 &&& 31)).toInt8.toInt32)))] (.int i0)
theorem rm33U_f (l : Launch) (Z : State) (a0 : Array Value) (hw : Hw a0 Z) (a1 : Addr) (a2 : Addr) (v0 : Int32) (v1 : Int32) (v2 : Int32) (kc : ClassId) (u_coder_a1 : Value) (u_value_a1 : Value) (w4 : Int32) (h0 : Heap) (n0 : Nat) (Z0 : n0 ≤ h0.size) (E_a1 : Exa Z h0 a1 s0_) (V_a2 : Arv Z h0 a2 kc .char i3 [(.int v0), (.int v1), (.int v2)] (.int i0)) (hb0 : 0 ≤ v0.toInt ∧ v0.toInt ≤ 65535) (hb1 : 0 ≤ v1.toInt ∧ v1.toInt ≤ 65535) (hb2 : 0 ≤ v2.toInt ∧ v2.toInt ≤ 65535) (S__assertionsDisabled : Sta Z h0 s1_ s2_ "Z" (.int i1)) (S_HI_BYTE_SHIFT : Sta Z h0 s1_ s3_ "I" (.int i0)) (S_LO_BYTE_SHIFT : Sta Z h0 s1_ s4_ "I" (.int i8)) (F_coder_a1 : Fld Z h0 a1 s0_ "coder" "B" u_coder_a1) (F_value_a1 : Fld Z h0 a1 s0_ "value" "[B" u_value_a1) (g_a1 : n0 ≤ a1) (hne_a2_a1 : ¬ (a2 = a1)) (hU : i255 < v0 ∨ i255 < v1 ∨ i255 < v2) (S_COMPACT_STRINGS : Sta Z h0 s0_ s5_ "Z" (.int w4)) (hd1 : ¬ (w4 = i0)) :
  Met l Z h0 yy15 jdk_42_method_149_code 6 none (rmk 4 2 9 57) #[(.ref a1), (.ref a2), (.int i0), (.int i3), .null] (Qm33U_f Z a1 a2 v0 v1 v2 kc u_coder_a1 u_value_a1 w4 h0 n0) := by
 refine enter (plainFor_of_name pn_3) (fun m => ef_33U m a1 a2 i0 i3) fun p e s m below meth c s₁ hx hby hml hown hnm hZ X0 e0 hret hlk => ?_
 have N0 := Fr.nil n0; have H := @hb c _ hby
 refine g_aloadN X0 hx (H d3_0) rfl rfl ?_
 refine g_initO X0 hx hZ hown (tw17 hw) (tw18 hw) (tw19 hw) e0 (by rw [hml]; rfl) (H d3_1) (by decide) 0 (Nat.le_of_eq rfl) (by decide) fun T3 X3 e3 => ?_
 refine g_iloadN X3 hx (H d3_4) rfl ?_
 refine g_ifYes X3 hx 27 (H d3_5) (feq (by decide : ¬ (i3 = i0))).2 (by decide) (by decide) ?_
 refine g_getS X3 hx hZ hown (tw47 hw) e3 S_COMPACT_STRINGS (H d3_27) fun T5 X5 e5 => ?_
 refine g_ifNo X5 hx (H d3_30) (feq hd1).1 ?_
 refine g_aloadN X5 hx (H d3_33) rfl rfl ?_
 refine g_iloadN X5 hx (H d3_34) rfl ?_
 refine g_iloadN X5 hx (H d3_35) rfl ?_
 refine g_static X5 hx hZ (rm153U l Z a0 hw a2 v0 v1 v2 kc h0 n0 Z0 V_a2 hb0 hb1 hb2 S__assertionsDisabled S_HI_BYTE_SHIFT S_LO_BYTE_SHIFT hU) hown (tw72 hw) (tw73 hw) (tw74 hw) (tw75 hw) (by decide) 0 (by decide) (by decide) (by rw [hml]; rfl) [(.ref a2), (.int i0), (.int i3)] [] (lenOf pd_4 rfl) (Nat.le_of_eq rfl) e5 (by decide) (by decide) rfl rfl (H d3_36) fun v6 T6 Lc6 X6 hQ6 => ?_
 obtain ⟨b2_2_8_6, k2_2_8_6, rfl, N6q, Kc6, P6_0, P6_1, P6_2⟩ := hQ6
 have K6 : Keep h0 T6.heap [a1] := (Keep.refl h0 [a1]).trans Kc6 all0
 have g_b2_2_8_6 := P6_0
 have sz_b2_2_8_6 : h0.size ≤ b2_2_8_6 := P6_1
 have N6 := Fr.app N0 N6q
 show Gs p e below _ T6 m 39 #[rv a1, rv a2, iv i0, iv i3, .val .null, .unset] [(.ref b2_2_8_6)]
 refine g_astore X6 hx (H d3_39) rfl (l' := #[rv a1, rv a2, iv i0, iv i3, .val .null, rv b2_2_8_6]) rfl ?_
 refine g_aloadN X6 hx (H d3_41) rfl rfl ?_
 refine g_aload X6 hx (H d3_42) rfl rfl ?_
 refine g_iloadN X6 hx (H d3_44) rfl ?_
 refine g_static X6 hx hZ (rm173u_o l Z a0 hw b2_2_8_6 T6.heap n0 (Nat.le_trans Z0 K6.1) (Arv.arn P6_2)) hown (tw79 hw) (tw80 hw) (tw74 hw) (tw81 hw) (by decide) 1 (by decide) (by decide) (by rw [hml]; rfl) [(.ref b2_2_8_6), (.int i3)] [(.ref a1)] (lenOf pd_6 rfl) (Nat.le_of_eq rfl) rfl (by decide) (by decide) rfl rfl (H d3_45) fun v7 T7 Lc7 X7 hQ7 => ?_
 obtain ⟨rfl, N7q, eq7⟩ := hQ7
 have N7 := Fr.app N6 N7q
 show Gs p e below _ T7 m 48 #[rv a1, rv a2, iv i0, iv i3, .val .null, rv b2_2_8_6] [(.int i1), (.ref a1)]
 have f_8 := (E_a1.keep Kc6)
 have f_9 := (F_coder_a1.keep Kc6 nin0)
 refine g_putFN X7 hx hZ hown (tw27 hw) Via.refl eq7 f_9 f_8 (Or.inr ⟨(tw23 hw), rfl, hnm⟩) (tw7 hw) (ty := .byte) (v' := (.int i1)) (by decide) rfl (fits_nar_byte i1) (H d3_48) fun T10 h10 X10 e10 W10 => ?_
 have Fw10 : Fld Z h10 a1 s0_ "coder" "B" (.int i1) := Fld.same W10 f_9
 have K10 : Keep h0 h10 [a1] := K6.wr W10 (Or.inl (List.mem_of_getElem? (i := 0) rfl))
 have N10 := Fr.snoc X10 N7 g_a1
 refine g_aloadN X10 hx (H d3_51) rfl rfl ?_
 refine g_aload X10 hx (H d3_52) rfl rfl ?_
 have f_11 := (Exa.wr W10 f_8)
 have f_12 := (Fld.other W10 (F_value_a1.keep Kc6 nin0) (Or.inr (slot_ne (Or.inr (tw22 hw)) (Or.inr (tw23 hw)) (by decide) (t := (.array .byte)) (t' := .byte) (by decide) (by decide))))
 refine g_putF X10 hx hZ hown (tw26 hw) Via.refl e10 f_12 f_11 (Or.inr ⟨(tw22 hw), rfl, hnm⟩) (tw7 hw) (ty := (.array .byte)) (by decide) rfl rfl (H d3_54) fun T13 h13 X13 e13 W13 => ?_
 have Fw13 : Fld Z h13 a1 s0_ "value" "[B" (.ref b2_2_8_6) := Fld.same W13 f_12
 have K13 : Keep h0 h13 [a1] := K10.wr W13 (Or.inl (List.mem_of_getElem? (i := 0) rfl))
 have N13 := Fr.snoc X13 N10 g_a1
 have f_14 := (Exa.wr W13 f_11)
 have f_15 := (Fld.other W13 Fw10 (Or.inr (slot_ne (Or.inr (tw23 hw)) (Or.inr (tw22 hw)) (by decide) (t := .byte) (t' := (.array .byte)) (by decide) (by decide))))
 have f_16 := ((P6_2.other W10 (Ne.symm (Nat.ne_of_lt (Nat.lt_of_lt_of_le E_a1.lt sz_b2_2_8_6)))).other W13 (Ne.symm (Nat.ne_of_lt (Nat.lt_of_lt_of_le E_a1.lt sz_b2_2_8_6))))
 exact Go.ret (Q := Qm33U_f Z a1 a2 v0 v1 v2 kc u_coder_a1 u_value_a1 w4 h0 n0) X13 (v := none) (fun _ => rfl) hlk (fun fs hr => X13.returnOut hx hret (H d3_57) hr) e13 ⟨b2_2_8_6, k2_2_8_6, rfl, N13, K13, f_14, f_15, Fw13, f_16⟩ (by decide) (by decide)
def Qm33L_f (Z : State) (a1 : Addr) (a2 : Addr) (v0 : Int32) (v1 : Int32) (v2 : Int32) (kc : ClassId) (u_coder_a1 : Value) (u_value_a1 : Value) (w4 : Int32) (h0 : Heap) (n0 : Nat) (v : Option Value) (h : Heap) (L : List Loc) : Prop := ∃ (b2_6 : Addr) (k2_6 : ClassId), v = none ∧ Fr n0 L ∧ Keep h0 h [a1] ∧ Exa Z h a1 s0_ ∧ Fld Z h a1 s0_ "coder" "B" (.int i0) ∧ Fld Z h a1 s0_ "value" "[B" (.ref b2_6) ∧ Arv Z h b2_6 k2_6 .byte i3 [(.int (nar .byte (v0.toInt8.toInt32))), (.int (nar .byte (v1.toInt8.toInt32))), (.int (nar .byte (v2.toInt8.toInt32)))] (.int i0)
theorem rm33L_f (l : Launch) (Z : State) (a0 : Array Value) (hw : Hw a0 Z) (a1 : Addr) (a2 : Addr) (v0 : Int32) (v1 : Int32) (v2 : Int32) (kc : ClassId) (u_coder_a1 : Value) (u_value_a1 : Value) (w4 : Int32) (h0 : Heap) (n0 : Nat) (Z0 : n0 ≤ h0.size) (E_a1 : Exa Z h0 a1 s0_) (V_a2 : Arv Z h0 a2 kc .char i3 [(.int v0), (.int v1), (.int v2)] (.int i0)) (hb0 : 0 ≤ v0.toInt ∧ v0.toInt ≤ 65535) (hb1 : 0 ≤ v1.toInt ∧ v1.toInt ≤ 65535) (hb2 : 0 ≤ v2.toInt ∧ v2.toInt ≤ 65535) (S__assertionsDisabled : Sta Z h0 s1_ s2_ "Z" (.int i1)) (S_HI_BYTE_SHIFT : Sta Z h0 s1_ s3_ "I" (.int i0)) (S_LO_BYTE_SHIFT : Sta Z h0 s1_ s4_ "I" (.int i8)) (F_coder_a1 : Fld Z h0 a1 s0_ "coder" "B" u_coder_a1) (F_value_a1 : Fld Z h0 a1 s0_ "value" "[B" u_value_a1) (g_a1 : n0 ≤ a1) (hne_a2_a1 : ¬ (a2 = a1)) (hv0 : ¬ (i255 < v0)) (hv1 : ¬ (i255 < v1)) (hv2 : ¬ (i255 < v2)) (S_COMPACT_STRINGS : Sta Z h0 s0_ s5_ "Z" (.int w4)) (hd4 : ¬ (w4 = i0)) :
  Met l Z h0 yy15 jdk_42_method_149_code 6 none (rmk 2 1 3 35) #[(.ref a1), (.ref a2), (.int i0), (.int i3), .null] (Qm33L_f Z a1 a2 v0 v1 v2 kc u_coder_a1 u_value_a1 w4 h0 n0) := by
 refine enter (plainFor_of_name pn_3) (fun m => ef_33L m a1 a2 i0 i3) fun p e s m below meth c s₁ hx hby hml hown hnm hZ X0 e0 hret hlk => ?_
 have N0 := Fr.nil n0; have H := @hb c _ hby
 refine g_aloadN X0 hx (H d3_0) rfl rfl ?_
 refine g_initO X0 hx hZ hown (tw17 hw) (tw18 hw) (tw19 hw) e0 (by rw [hml]; rfl) (H d3_1) (by decide) 0 (Nat.le_of_eq rfl) (by decide) fun T3 X3 e3 => ?_
 refine g_iloadN X3 hx (H d3_4) rfl ?_
 refine g_ifYes X3 hx 27 (H d3_5) (feq (by decide : ¬ (i3 = i0))).2 (by decide) (by decide) ?_
 refine g_getS X3 hx hZ hown (tw47 hw) e3 S_COMPACT_STRINGS (H d3_27) fun T5 X5 e5 => ?_
 refine g_ifNo X5 hx (H d3_30) (feq hd4).1 ?_
 refine g_aloadN X5 hx (H d3_33) rfl rfl ?_
 refine g_iloadN X5 hx (H d3_34) rfl ?_
 refine g_iloadN X5 hx (H d3_35) rfl ?_
 refine g_static X5 hx hZ (rm153_fff l Z a0 hw a2 v0 v1 v2 kc h0 n0 Z0 V_a2 hb0 hb1 hb2 S__assertionsDisabled S_HI_BYTE_SHIFT S_LO_BYTE_SHIFT hv0 hv1 hv2) hown (tw72 hw) (tw73 hw) (tw74 hw) (tw75 hw) (by decide) 0 (by decide) (by decide) (by rw [hml]; rfl) [(.ref a2), (.int i0), (.int i3)] [] (lenOf pd_4 rfl) (Nat.le_of_eq rfl) e5 (by decide) (by decide) rfl rfl (H d3_36) fun v6 T6 Lc6 X6 hQ6 => ?_
 obtain ⟨b2_6, k2_6, rfl, N6q, Kc6, P6_0, P6_1, P6_2⟩ := hQ6
 have K6 : Keep h0 T6.heap [a1] := (Keep.refl h0 [a1]).trans Kc6 all0
 have g_b2_6 := P6_0
 have sz_b2_6 : h0.size ≤ b2_6 := P6_1
 have N6 := Fr.app N0 N6q
 show Gs p e below _ T6 m 39 #[rv a1, rv a2, iv i0, iv i3, .val .null, .unset] [(.ref b2_6)]
 refine g_astore X6 hx (H d3_39) rfl (l' := #[rv a1, rv a2, iv i0, iv i3, .val .null, rv b2_6]) rfl ?_
 refine g_aloadN X6 hx (H d3_41) rfl rfl ?_
 refine g_aload X6 hx (H d3_42) rfl rfl ?_
 refine g_iloadN X6 hx (H d3_44) rfl ?_
 refine g_static X6 hx hZ (rm173_o l Z a0 hw b2_6 T6.heap n0 (Nat.le_trans Z0 K6.1) (Arv.arn P6_2)) hown (tw79 hw) (tw80 hw) (tw74 hw) (tw81 hw) (by decide) 1 (by decide) (by decide) (by rw [hml]; rfl) [(.ref b2_6), (.int i3)] [(.ref a1)] (lenOf pd_6 rfl) (Nat.le_of_eq rfl) rfl (by decide) (by decide) rfl rfl (H d3_45) fun v7 T7 Lc7 X7 hQ7 => ?_
 obtain ⟨rfl, N7q, eq7⟩ := hQ7
 have N7 := Fr.app N6 N7q
 show Gs p e below _ T7 m 48 #[rv a1, rv a2, iv i0, iv i3, .val .null, rv b2_6] [(.int i0), (.ref a1)]
 have f_8 := (E_a1.keep Kc6)
 have f_9 := (F_coder_a1.keep Kc6 nin0)
 refine g_putFN X7 hx hZ hown (tw27 hw) Via.refl eq7 f_9 f_8 (Or.inr ⟨(tw23 hw), rfl, hnm⟩) (tw7 hw) (ty := .byte) (v' := (.int i0)) (by decide) rfl (fits_nar_byte i0) (H d3_48) fun T10 h10 X10 e10 W10 => ?_
 have Fw10 : Fld Z h10 a1 s0_ "coder" "B" (.int i0) := Fld.same W10 f_9
 have K10 : Keep h0 h10 [a1] := K6.wr W10 (Or.inl (List.mem_of_getElem? (i := 0) rfl))
 have N10 := Fr.snoc X10 N7 g_a1
 refine g_aloadN X10 hx (H d3_51) rfl rfl ?_
 refine g_aload X10 hx (H d3_52) rfl rfl ?_
 have f_11 := (Exa.wr W10 f_8)
 have f_12 := (Fld.other W10 (F_value_a1.keep Kc6 nin0) (Or.inr (slot_ne (Or.inr (tw22 hw)) (Or.inr (tw23 hw)) (by decide) (t := (.array .byte)) (t' := .byte) (by decide) (by decide))))
 refine g_putF X10 hx hZ hown (tw26 hw) Via.refl e10 f_12 f_11 (Or.inr ⟨(tw22 hw), rfl, hnm⟩) (tw7 hw) (ty := (.array .byte)) (by decide) rfl rfl (H d3_54) fun T13 h13 X13 e13 W13 => ?_
 have Fw13 : Fld Z h13 a1 s0_ "value" "[B" (.ref b2_6) := Fld.same W13 f_12
 have K13 : Keep h0 h13 [a1] := K10.wr W13 (Or.inl (List.mem_of_getElem? (i := 0) rfl))
 have N13 := Fr.snoc X13 N10 g_a1
 have f_14 := (Exa.wr W13 f_11)
 have f_15 := (Fld.other W13 Fw10 (Or.inr (slot_ne (Or.inr (tw23 hw)) (Or.inr (tw22 hw)) (by decide) (t := .byte) (t' := (.array .byte)) (by decide) (by decide))))
 have f_16 := ((P6_2.other W10 (Ne.symm (Nat.ne_of_lt (Nat.lt_of_lt_of_le E_a1.lt sz_b2_6)))).other W13 (Ne.symm (Nat.ne_of_lt (Nat.lt_of_lt_of_le E_a1.lt sz_b2_6))))
 exact Go.ret (Q := Qm33L_f Z a1 a2 v0 v1 v2 kc u_coder_a1 u_value_a1 w4 h0 n0) X13 (v := none) (fun _ => rfl) hlk (fun fs hr => X13.returnOut hx hret (H d3_57) hr) e13 ⟨b2_6, k2_6, rfl, N13, K13, f_14, f_15, Fw13, f_16⟩ (by decide) (by decide)
def Qm23U_f (Z : State) (a1 : Addr) (a2 : Addr) (v0 : Int32) (v1 : Int32) (v2 : Int32) (kc : ClassId) (u_coder_a1 : Value) (u_value_a1 : Value) (w4 : Int32) (h0 : Heap) (n0 : Nat) (v : Option Value) (h : Heap) (L : List Loc) : Prop := ∃ (b2_2_8_6_5 : Addr) (k2_2_8_6_5 : ClassId), v = none ∧ Fr n0 L ∧ Keep h0 h [a1] ∧ Exa Z h a1 s0_ ∧ Fld Z h a1 s0_ "coder" "B" (.int i1) ∧ Fld Z h a1 s0_ "value" "[B" (.ref b2_2_8_6_5) ∧ Arv Z h b2_2_8_6_5 k2_2_8_6_5 .byte i6 [(.int (nar .byte ((v0 >>> (i0 &&& 31)).toInt8.toInt32))), (.int (nar .byte ((v0 >>> (i8 &&& 31)).toInt8.toInt32))), (.int (nar .byte ((v1 >>> (i0 &&& 31)).toInt8.toInt32))), (.int (nar .byte ((v1 >>> (i8 &&& 31)).toInt8.toInt32))), (.int (nar .byte ((v2 >>> (i0 &&& 31)).toInt8.toInt32))), (.int (nar .byte ((v2 >>> (i8 &&& 31)).toInt8.toInt32)))] (.int i0)
theorem rm23U_f (l : Launch) (Z : State) (a0 : Array Value) (hw : Hw a0 Z) (a1 : Addr) (a2 : Addr) (v0 : Int32) (v1 : Int32) (v2 : Int32) (kc : ClassId) (u_coder_a1 : Value) (u_value_a1 : Value) (w4 : Int32) (h0 : Heap) (n0 : Nat) (Z0 : n0 ≤ h0.size) (E_a1 : Exa Z h0 a1 s0_) (V_a2 : Arv Z h0 a2 kc .char i3 [(.int v0), (.int v1), (.int v2)] (.int i0)) (hb0 : 0 ≤ v0.toInt ∧ v0.toInt ≤ 65535) (hb1 : 0 ≤ v1.toInt ∧ v1.toInt ≤ 65535) (hb2 : 0 ≤ v2.toInt ∧ v2.toInt ≤ 65535) (S__assertionsDisabled : Sta Z h0 s1_ s2_ "Z" (.int i1)) (S_HI_BYTE_SHIFT : Sta Z h0 s1_ s3_ "I" (.int i0)) (S_LO_BYTE_SHIFT : Sta Z h0 s1_ s4_ "I" (.int i8)) (F_coder_a1 : Fld Z h0 a1 s0_ "coder" "B" u_coder_a1) (F_value_a1 : Fld Z h0 a1 s0_ "value" "[B" u_value_a1) (g_a1 : n0 ≤ a1) (hne_a2_a1 : ¬ (a2 = a1)) (hU : i255 < v0 ∨ i255 < v1 ∨ i255 < v2) (hd1 : ¬ (w4 = i0)) (S_COMPACT_STRINGS : Sta Z h0 s0_ s5_ "Z" (.int w4)) :
  Met l Z h0 yy16 jdk_42_method_3_code 2 none (rmk 5 2 9 74) #[(.ref a1), (.ref a2)] (Qm23U_f Z a1 a2 v0 v1 v2 kc u_coder_a1 u_value_a1 w4 h0 n0) := by
 refine enter (plainFor_of_name pn_2) (fun m => ef_2 m a1 a2) fun p e s m below meth c s₁ hx hby hml hown hnm hZ X0 e0 hret hlk => ?_
 have N0 := Fr.nil n0; have H := @hb c _ hby
 refine g_aloadN X0 hx (H d2_0) rfl rfl ?_
 refine g_aloadN X0 hx (H d2_1) rfl rfl ?_
 refine g_iconst X0 hx i0 (H d2_2) rfl ?_
 refine g_aloadN X0 hx (H d2_3) rfl rfl ?_
 obtain ⟨clq3, Arq3, caq3, saq3, naq3, haq3, gaq3⟩ := id V_a2
 refine g_len X0 hx hZ e0 Arq3 saq3 naq3 (H d2_4) ?_
 refine g_aconstNull X0 hx (H d2_5) ?_
 refine g_special X0 hx hZ (rm33U_f l Z a0 hw a1 a2 v0 v1 v2 kc u_coder_a1 u_value_a1 w4 h0 n0 Z0 E_a1 V_a2 hb0 hb1 hb2 S__assertionsDisabled S_HI_BYTE_SHIFT S_LO_BYTE_SHIFT F_coder_a1 F_value_a1 g_a1 hne_a2_a1 hU S_COMPACT_STRINGS hd1) rfl rfl hown (tw13 hw) (tw14 hw) (tw8 hw) (tw16 hw) (by decide) 0 (by decide) (by decide) (by rw [hml]; rfl) [(.ref a2), (.int i0), (.int i3), .null] [] (lenOf pd_7 rfl) (Nat.le_of_eq rfl) e0 (by decide) (by decide) rfl rfl (H d2_6) fun v5 T5 Lc5 X5 hQ5 => ?_
 obtain ⟨b2_2_8_6_5, k2_2_8_6_5, rfl, N5q, Kc5, P5_0, P5_1, P5_2, P5_3⟩ := hQ5
 have K5 : Keep h0 T5.heap [a1] := (Keep.refl h0 [a1]).trans Kc5 (allS (Or.inl (List.mem_of_getElem? (i := 0) rfl)) all0)
 have N5 := Fr.app N0 N5q
 show Gs p e below _ T5 m 9 #[rv a1, rv a2] []
 exact Go.ret (Q := Qm23U_f Z a1 a2 v0 v1 v2 kc u_coder_a1 u_value_a1 w4 h0 n0) X5 (v := none) (fun _ => rfl) hlk (fun fs hr => X5.returnOut hx hret (H d2_9) hr) rfl ⟨b2_2_8_6_5, k2_2_8_6_5, rfl, N5, K5, P5_0, P5_1, P5_2, P5_3⟩ (by decide) (by decide)
def Qm23L_f (Z : State) (a1 : Addr) (a2 : Addr) (v0 : Int32) (v1 : Int32) (v2 : Int32) (kc : ClassId) (u_coder_a1 : Value) (u_value_a1 : Value) (w4 : Int32) (h0 : Heap) (n0 : Nat) (v : Option Value) (h : Heap) (L : List Loc) : Prop := ∃ (b2_6_5 : Addr) (k2_6_5 : ClassId), v = none ∧ Fr n0 L ∧ Keep h0 h [a1] ∧ Exa Z h a1 s0_ ∧ Fld Z h a1 s0_ "coder" "B" (.int i0) ∧ Fld Z h a1 s0_ "value" "[B" (.ref b2_6_5) ∧ Arv Z h b2_6_5 k2_6_5 .byte i3 [(.int (nar .byte (v0.toInt8.toInt32))), (.int (nar .byte (v1.toInt8.toInt32))), (.int (nar .byte (v2.toInt8.toInt32)))] (.int i0)
theorem rm23L_f (l : Launch) (Z : State) (a0 : Array Value) (hw : Hw a0 Z) (a1 : Addr) (a2 : Addr) (v0 : Int32) (v1 : Int32) (v2 : Int32) (kc : ClassId) (u_coder_a1 : Value) (u_value_a1 : Value) (w4 : Int32) (h0 : Heap) (n0 : Nat) (Z0 : n0 ≤ h0.size) (E_a1 : Exa Z h0 a1 s0_) (V_a2 : Arv Z h0 a2 kc .char i3 [(.int v0), (.int v1), (.int v2)] (.int i0)) (hb0 : 0 ≤ v0.toInt ∧ v0.toInt ≤ 65535) (hb1 : 0 ≤ v1.toInt ∧ v1.toInt ≤ 65535) (hb2 : 0 ≤ v2.toInt ∧ v2.toInt ≤ 65535) (S__assertionsDisabled : Sta Z h0 s1_ s2_ "Z" (.int i1)) (S_HI_BYTE_SHIFT : Sta Z h0 s1_ s3_ "I" (.int i0)) (S_LO_BYTE_SHIFT : Sta Z h0 s1_ s4_ "I" (.int i8)) (F_coder_a1 : Fld Z h0 a1 s0_ "coder" "B" u_coder_a1) (F_value_a1 : Fld Z h0 a1 s0_ "value" "[B" u_value_a1) (g_a1 : n0 ≤ a1) (hne_a2_a1 : ¬ (a2 = a1)) (hv0 : ¬ (i255 < v0)) (hv1 : ¬ (i255 < v1)) (hv2 : ¬ (i255 < v2)) (hd4 : ¬ (w4 = i0)) (S_COMPACT_STRINGS : Sta Z h0 s0_ s5_ "Z" (.int w4)) :
  Met l Z h0 yy16 jdk_42_method_3_code 2 none (rmk 3 1 3 52) #[(.ref a1), (.ref a2)] (Qm23L_f Z a1 a2 v0 v1 v2 kc u_coder_a1 u_value_a1 w4 h0 n0) := by
 refine enter (plainFor_of_name pn_2) (fun m => ef_2 m a1 a2) fun p e s m below meth c s₁ hx hby hml hown hnm hZ X0 e0 hret hlk => ?_
 have N0 := Fr.nil n0; have H := @hb c _ hby
 refine g_aloadN X0 hx (H d2_0) rfl rfl ?_
 refine g_aloadN X0 hx (H d2_1) rfl rfl ?_
 refine g_iconst X0 hx i0 (H d2_2) rfl ?_
 refine g_aloadN X0 hx (H d2_3) rfl rfl ?_
 obtain ⟨clq3, Arq3, caq3, saq3, naq3, haq3, gaq3⟩ := id V_a2
 refine g_len X0 hx hZ e0 Arq3 saq3 naq3 (H d2_4) ?_
 refine g_aconstNull X0 hx (H d2_5) ?_
 refine g_special X0 hx hZ (rm33L_f l Z a0 hw a1 a2 v0 v1 v2 kc u_coder_a1 u_value_a1 w4 h0 n0 Z0 E_a1 V_a2 hb0 hb1 hb2 S__assertionsDisabled S_HI_BYTE_SHIFT S_LO_BYTE_SHIFT F_coder_a1 F_value_a1 g_a1 hne_a2_a1 hv0 hv1 hv2 S_COMPACT_STRINGS hd4) rfl rfl hown (tw13 hw) (tw14 hw) (tw8 hw) (tw16 hw) (by decide) 0 (by decide) (by decide) (by rw [hml]; rfl) [(.ref a2), (.int i0), (.int i3), .null] [] (lenOf pd_7 rfl) (Nat.le_of_eq rfl) e0 (by decide) (by decide) rfl rfl (H d2_6) fun v5 T5 Lc5 X5 hQ5 => ?_
 obtain ⟨b2_6_5, k2_6_5, rfl, N5q, Kc5, P5_0, P5_1, P5_2, P5_3⟩ := hQ5
 have K5 : Keep h0 T5.heap [a1] := (Keep.refl h0 [a1]).trans Kc5 (allS (Or.inl (List.mem_of_getElem? (i := 0) rfl)) all0)
 have N5 := Fr.app N0 N5q
 show Gs p e below _ T5 m 9 #[rv a1, rv a2] []
 exact Go.ret (Q := Qm23L_f Z a1 a2 v0 v1 v2 kc u_coder_a1 u_value_a1 w4 h0 n0) X5 (v := none) (fun _ => rfl) hlk (fun fs hr => X5.returnOut hx hret (H d2_9) hr) rfl ⟨b2_6_5, k2_6_5, rfl, N5, K5, P5_0, P5_1, P5_2, P5_3⟩ (by decide) (by decide)
def Qm224_o (Z : State)  (h0 : Heap) (n0 : Nat) (v : Option Value) (h : Heap) (L : List Loc) : Prop := v = some (.int i8) ∧ Fr n0 L ∧ h = h0
theorem rm224_o (l : Launch) (Z : State) (a0 : Array Value) (hw : Hw a0 Z)  (h0 : Heap) (n0 : Nat) (Z0 : n0 ≤ h0.size) :
  Met l Z h0 yy7 jdk_52_method_3_code 1 (some .int) (rmk 0 0 0 0) #[(.int i4)] (Qm224_o Z  h0 n0) := by
 refine enter (plainFor_of_name pn_22) (fun m => ef_22 m i4) fun p e s m below meth c s₁ hx hby hml hown hnm hZ X0 e0 hret hlk => ?_
 have N0 := Fr.nil n0; have H := @hb c _ hby
 refine g_iloadN X0 hx (H d22_0) rfl ?_
 refine g_ifYes X0 hx 12 (H d22_1) (flt (by decide : ¬ (i4 < i0))).2.1 (by decide) (by decide) ?_
 refine g_iloadN X0 hx (H d22_12) rfl ?_
 refine Go.st (fun _ kk => X0.ldcInt hx hown (mvT hZ (tw97 hw)) (g := (mkF m 13 #[iv i4] [(.int i4)])) rfl (H d22_13) _ kk) ?_
 show Gs p e below _ s₁ m 15 #[iv i4] [(.int i1073741823), (.int i4)]
 refine g_icmpYes X0 hx 55 (H d22_15) (tlt (by decide : (i4 < i1073741823))).1 (by decide) (by decide) ?_
 refine g_iloadN X0 hx (H d22_55) rfl ?_
 refine g_iconst X0 hx i1 (H d22_56) rfl ?_
 refine g_ishl X0 hx (H d22_57) ?_
 rw [show (i4 <<< (i1 &&& 31)) = i8 from by decide]
 show Gs p e below _ s₁ m 58 #[iv i4] [(.int i8)]
 exact Go.ret (Q := Qm224_o Z  h0 n0) X0 (v := some (.int i8)) (fun h => by rw [hret] at h; cases h) hlk (fun fs hr => retOut X0 hx hret rfl (Or.inl ⟨rfl, Or.inl rfl, _, rfl⟩) (H d22_58) hr) e0 ⟨rfl, N0, rfl⟩ (by decide) (by decide)
def Qm214_o (Z : State)  (h0 : Heap) (n0 : Nat) (v : Option Value) (h : Heap) (L : List Loc) : Prop := ∃ (b2 : Addr) (k2 : ClassId), v = some (.ref b2) ∧ Fr n0 L ∧ Keep h0 h [] ∧ n0 ≤ b2 ∧ h0.size ≤ b2 ∧ Arv Z h b2 k2 .byte i8 [(.int i0), (.int i0), (.int i0), (.int i0), (.int i0), (.int i0), (.int i0), (.int i0)] (.int i0)
theorem rm214_o (l : Launch) (Z : State) (a0 : Array Value) (hw : Hw a0 Z)  (h0 : Heap) (n0 : Nat) (Z0 : n0 ≤ h0.size) :
  Met l Z h0 yy8 jdk_52_method_2_code 1 (some (.array .byte)) (rmk 1 1 8 12) #[(.int i4)] (Qm214_o Z  h0 n0) := by
 refine enter (plainFor_of_name pn_21) (fun m => ef_21 m i4) fun p e s m below meth c s₁ hx hby hml hown hnm hZ X0 e0 hret hlk => ?_
 have N0 := Fr.nil n0; have H := @hb c _ hby
 refine g_iloadN X0 hx (H d21_0) rfl ?_
 refine g_static X0 hx hZ (rm224_o l Z a0 hw  h0 n0 Z0 ) hown (tw94 hw) (tw95 hw) (tw74 hw) (tw96 hw) (by decide) 0 (by decide) (by decide) (by rw [hml]; rfl) [(.int i4)] [] (lenOf pd_0 rfl) (Nat.le_of_eq rfl) e0 (by decide) (by decide) rfl rfl (H d21_1) fun v1 T1 Lc1 X1 hQ1 => ?_
 obtain ⟨rfl, N1q, eq1⟩ := hQ1
 have N1 := Fr.app N0 N1q
 show Gs p e below _ T1 m 4 #[iv i4] [(.int i8)]
 refine g_newP X1 hx hZ (H d21_4) (tw21 hw) eq1 (by decide) 8 (by decide) (by decide) (by decide) (by decide) fun b2 T2 h2 k2 g2 X2 e2 E2 A2 => ?_
 have g_b2 : n0 ≤ b2 := Nat.le_trans Z0 (Nat.le_of_eq g2.symm)
 have sz_b2 : h0.size ≤ b2 := Nat.le_of_eq g2.symm
 have K2 : Keep h0 h2 [] := (Keep.refl h0 []).ext E2
 have V_b2 : Arv Z h2 b2 k2 .byte i8 [(.int i0), (.int i0), (.int i0), (.int i0), (.int i0), (.int i0), (.int i0), (.int i0)] (.int i0) := (Arv.new A2 (by decide)).pad (pad_rep [] (.int i0) 8)
 exact Go.ret (Q := Qm214_o Z  h0 n0) X2 (v := some (.ref b2)) (fun h => by rw [hret] at h; cases h) hlk (fun fs hr => retOut X2 hx hret rfl (Or.inr (Or.inr (Or.inr (Or.inr ⟨rfl, rfl, rfl⟩)))) (H d21_6) hr) e2 ⟨b2, k2, rfl, N1, K2, g_b2, sz_b2, V_b2⟩ (by decide) (by decide)
def Qm2340_o (Z : State) (a1 : Addr) (p2 : Int32) (y0 : Int32) (y1 : Int32) (y2 : Int32) (y3 : Int32) (y4 : Int32) (y5 : Int32) (y6 : Int32) (y7 : Int32) (kb : ClassId) (h0 : Heap) (n0 : Nat) (v : Option Value) (h : Heap) (L : List Loc) : Prop := v = none ∧ Fr n0 L ∧ Keep h0 h [a1] ∧ Arv Z h a1 kb .byte i8 [(.int (nar .byte ((p2 >>> (i0 &&& 31)).toInt8.toInt32))), (.int (nar .byte ((p2 >>> (i8 &&& 31)).toInt8.toInt32))), (.int y2), (.int y3), (.int y4), (.int y5), (.int y6), (.int y7)] (.int i0)
theorem rm2340_o (l : Launch) (Z : State) (a0 : Array Value) (hw : Hw a0 Z) (a1 : Addr) (p2 : Int32) (y0 : Int32) (y1 : Int32) (y2 : Int32) (y3 : Int32) (y4 : Int32) (y5 : Int32) (y6 : Int32) (y7 : Int32) (kb : ClassId) (h0 : Heap) (n0 : Nat) (Z0 : n0 ≤ h0.size) (V_a1 : Arv Z h0 a1 kb .byte i8 [(.int y0), (.int y1), (.int y2), (.int y3), (.int y4), (.int y5), (.int y6), (.int y7)] (.int i0)) (S__assertionsDisabled : Sta Z h0 s1_ s2_ "Z" (.int i1)) (S_HI_BYTE_SHIFT : Sta Z h0 s1_ s3_ "I" (.int i0)) (S_LO_BYTE_SHIFT : Sta Z h0 s1_ s4_ "I" (.int i8)) (g_a1 : n0 ≤ a1) :
  Met l Z h0 yy9 jdk_52_method_4_code 3 none (rmk 0 0 0 0) #[(.ref a1), (.int i0), (.int p2)] (Qm2340_o Z a1 p2 y0 y1 y2 y3 y4 y5 y6 y7 kb h0 n0) := by
 refine enter (plainFor_of_name pn_23) (fun m => ef_23 m a1 i0 p2) fun p e s m below meth c s₁ hx hby hml hown hnm hZ X0 e0 hret hlk => ?_
 have N0 := Fr.nil n0; have H := @hb c _ hby
 refine g_getS X0 hx hZ hown (tw101 hw) e0 S__assertionsDisabled (H d23_0) fun T3 X3 e3 => ?_
 refine g_ifYes X3 hx 28 (H d23_3) (feq (by decide : ¬ (i1 = i0))).2 (by decide) (by decide) ?_
 refine g_iloadN X3 hx (H d23_28) rfl ?_
 refine g_iconst X3 hx i1 (H d23_29) rfl ?_
 refine g_ishl X3 hx (H d23_30) ?_
 rw [show (i0 <<< (i1 &&& 31)) = i0 from by decide]
 show Gs p e below _ T3 m 31 #[rv a1, iv i0, iv p2] [(.int i0)]
 refine g_istoreN X3 hx (H d23_31) (l' := #[rv a1, iv i0, iv p2]) rfl ?_
 refine g_aloadN X3 hx (H d23_32) rfl rfl ?_
 refine g_iloadN X3 hx (H d23_33) rfl ?_
 refine g_iinc X3 hx (H d23_34) rfl (l' := #[rv a1, iv i1, iv p2]) rfl ?_
 refine g_iloadN X3 hx (H d23_37) rfl ?_
 refine g_getS X3 hx hZ hown (tw102 hw) e3 S_HI_BYTE_SHIFT (H d23_38) fun T4 X4 e4 => ?_
 refine g_ishr X4 hx (H d23_41) ?_
 refine g_i2b X4 hx (H d23_42) ?_
 obtain ⟨clq5, Arq5, caq5, saq5, naq5, haq5, gaq5⟩ := id V_a1
 have inq5 : ¬ (i0 < 0 ∨ clq5.slots.size ≤ (i0).toNatClampNeg) := inb_of saq5 ⟨by decide, by decide⟩
 refine g_stB X4 hx hZ e4 Arq5 inq5 (H d23_43) fun T6 h6 X6 e6 W6 => ?_
 have K6 : Keep h0 h6 [a1] := (Keep.refl h0 [a1]).wr W6 (Or.inl (List.mem_of_getElem? (i := 0) rfl))
 have V6 : Arv Z h6 a1 kb .byte i8 [(.int (nar .byte ((p2 >>> (i0 &&& 31)).toInt8.toInt32))), (.int y1), (.int y2), (.int y3), (.int y4), (.int y5), (.int y6), (.int y7)] (.int i0) := Arv.set Arq5 caq5 saq5 naq5 haq5 gaq5 (fits_nar_byte _) W6 0 rfl (Nat.le_of_ble_eq_true rfl)
 have N6 := Fr.snoc X6 N0 g_a1
 refine g_aloadN X6 hx (H d23_44) rfl rfl ?_
 refine g_iloadN X6 hx (H d23_45) rfl ?_
 refine g_iloadN X6 hx (H d23_46) rfl ?_
 have f_7 := (staKeepA S_LO_BYTE_SHIFT K6 (Arv.arn V_a1))
 refine g_getS X6 hx hZ hown (tw103 hw) e6 f_7 (H d23_47) fun T8 X8 e8 => ?_
 refine g_ishr X8 hx (H d23_50) ?_
 refine g_i2b X8 hx (H d23_51) ?_
 obtain ⟨clq9, Arq9, caq9, saq9, naq9, haq9, gaq9⟩ := id V6
 have inq9 : ¬ (i1 < 0 ∨ clq9.slots.size ≤ (i1).toNatClampNeg) := inb_of saq9 ⟨by decide, by decide⟩
 refine g_stB X8 hx hZ e8 Arq9 inq9 (H d23_52) fun T10 h10 X10 e10 W10 => ?_
 have K10 : Keep h0 h10 [a1] := K6.wr W10 (Or.inl (List.mem_of_getElem? (i := 0) rfl))
 have V10 : Arv Z h10 a1 kb .byte i8 [(.int (nar .byte ((p2 >>> (i0 &&& 31)).toInt8.toInt32))), (.int (nar .byte ((p2 >>> (i8 &&& 31)).toInt8.toInt32))), (.int y2), (.int y3), (.int y4), (.int y5), (.int y6), (.int y7)] (.int i0) := Arv.set Arq9 caq9 saq9 naq9 haq9 gaq9 (fits_nar_byte _) W10 1 rfl (Nat.le_of_ble_eq_true rfl)
 have N10 := Fr.snoc X10 N6 g_a1
 exact Go.ret (Q := Qm2340_o Z a1 p2 y0 y1 y2 y3 y4 y5 y6 y7 kb h0 n0) X10 (v := none) (fun _ => rfl) hlk (fun fs hr => X10.returnOut hx hret (H d23_53) hr) e10 ⟨rfl, N10, K10, V10⟩ (by decide) (by decide)
def Qm2440_o (Z : State) (a1 : Addr) (y0 : Int32) (y1 : Int32) (y2 : Int32) (y3 : Int32) (y4 : Int32) (y5 : Int32) (y6 : Int32) (y7 : Int32) (kb : ClassId) (h0 : Heap) (n0 : Nat) (v : Option Value) (h : Heap) (L : List Loc) : Prop := v = some (.int (nar .char ((((y0 &&& i255) <<< (i0 &&& 31)) ||| ((y1 &&& i255) <<< (i8 &&& 31))).toUInt32.toUInt16.toUInt32.toInt32))) ∧ Fr n0 L ∧ h = h0
theorem rm2440_o (l : Launch) (Z : State) (a0 : Array Value) (hw : Hw a0 Z) (a1 : Addr) (y0 : Int32) (y1 : Int32) (y2 : Int32) (y3 : Int32) (y4 : Int32) (y5 : Int32) (y6 : Int32) (y7 : Int32) (kb : ClassId) (h0 : Heap) (n0 : Nat) (Z0 : n0 ≤ h0.size) (V_a1 : Arv Z h0 a1 kb .byte i8 [(.int y0), (.int y1), (.int y2), (.int y3), (.int y4), (.int y5), (.int y6), (.int y7)] (.int i0)) (S__assertionsDisabled : Sta Z h0 s1_ s2_ "Z" (.int i1)) (S_HI_BYTE_SHIFT : Sta Z h0 s1_ s3_ "I" (.int i0)) (S_LO_BYTE_SHIFT : Sta Z h0 s1_ s4_ "I" (.int i8)) :
  Met l Z h0 yy10 jdk_52_method_5_code 2 (some .char) (rmk 0 0 0 0) #[(.ref a1), (.int i0)] (Qm2440_o Z a1 y0 y1 y2 y3 y4 y5 y6 y7 kb h0 n0) := by
 refine enter (plainFor_of_name pn_24) (fun m => ef_24 m a1 i0) fun p e s m below meth c s₁ hx hby hml hown hnm hZ X0 e0 hret hlk => ?_
 have N0 := Fr.nil n0; have H := @hb c _ hby
 refine g_getS X0 hx hZ hown (tw101 hw) e0 S__assertionsDisabled (H d24_0) fun T2 X2 e2 => ?_
 refine g_ifYes X2 hx 28 (H d24_3) (feq (by decide : ¬ (i1 = i0))).2 (by decide) (by decide) ?_
 refine g_iloadN X2 hx (H d24_28) rfl ?_
 refine g_iconst X2 hx i1 (H d24_29) rfl ?_
 refine g_ishl X2 hx (H d24_30) ?_
 rw [show (i0 <<< (i1 &&& 31)) = i0 from by decide]
 show Gs p e below _ T2 m 31 #[rv a1, iv i0] [(.int i0)]
 refine g_istoreN X2 hx (H d24_31) (l' := #[rv a1, iv i0]) rfl ?_
 refine g_aloadN X2 hx (H d24_32) rfl rfl ?_
 refine g_iloadN X2 hx (H d24_33) rfl ?_
 refine g_iinc X2 hx (H d24_34) rfl (l' := #[rv a1, iv i1]) rfl ?_
 obtain ⟨clq3, Arq3, caq3, saq3, naq3, haq3, gaq3⟩ := id V_a1
 have inq3 : ¬ (i0 < 0 ∨ clq3.slots.size ≤ (i0).toNatClampNeg) := inb_of saq3 ⟨by decide, by decide⟩
 have atq3 : clq3.slots[(i0).toNatClampNeg]? = some (.int y0) := haq3.at inq3 rfl
 refine g_baload X2 hx hZ e2 Arq3 inq3 atq3 (H d24_37) ?_
 refine g_sipush X2 hx i255 (H d24_38) rfl ?_
 refine g_iand X2 hx (H d24_41) ?_
 refine g_getS X2 hx hZ hown (tw102 hw) e2 S_HI_BYTE_SHIFT (H d24_42) fun T4 X4 e4 => ?_
 refine g_ishl X4 hx (H d24_45) ?_
 refine g_aloadN X4 hx (H d24_46) rfl rfl ?_
 refine g_iloadN X4 hx (H d24_47) rfl ?_
 obtain ⟨clq5, Arq5, caq5, saq5, naq5, haq5, gaq5⟩ := id V_a1
 have inq5 : ¬ (i1 < 0 ∨ clq5.slots.size ≤ (i1).toNatClampNeg) := inb_of saq5 ⟨by decide, by decide⟩
 have atq5 : clq5.slots[(i1).toNatClampNeg]? = some (.int y1) := haq5.at inq5 rfl
 refine g_baload X4 hx hZ e4 Arq5 inq5 atq5 (H d24_48) ?_
 refine g_sipush X4 hx i255 (H d24_49) rfl ?_
 refine g_iand X4 hx (H d24_52) ?_
 refine g_getS X4 hx hZ hown (tw103 hw) e4 S_LO_BYTE_SHIFT (H d24_53) fun T6 X6 e6 => ?_
 refine g_ishl X6 hx (H d24_56) ?_
 refine g_ior X6 hx (H d24_57) ?_
 refine g_i2c X6 hx (H d24_58) ?_
 exact Go.ret (Q := Qm2440_o Z a1 y0 y1 y2 y3 y4 y5 y6 y7 kb h0 n0) X6 (v := some (.int (nar .char ((((y0 &&& i255) <<< (i0 &&& 31)) ||| ((y1 &&& i255) <<< (i8 &&& 31))).toUInt32.toUInt16.toUInt32.toInt32)))) (fun h => by rw [hret] at h; cases h) hlk (fun fs hr => retN X6 hx (t := .char) hret (by simp) (H d24_59) hr) e6 ⟨rfl, N0, rfl⟩ (by decide) (by decide)
def Qm2341_o (Z : State) (a1 : Addr) (p2 : Int32) (y0 : Int32) (y1 : Int32) (y2 : Int32) (y3 : Int32) (y4 : Int32) (y5 : Int32) (y6 : Int32) (y7 : Int32) (kb : ClassId) (h0 : Heap) (n0 : Nat) (v : Option Value) (h : Heap) (L : List Loc) : Prop := v = none ∧ Fr n0 L ∧ Keep h0 h [a1] ∧ Arv Z h a1 kb .byte i8 [(.int y0), (.int y1), (.int (nar .byte ((p2 >>> (i0 &&& 31)).toInt8.toInt32))), (.int (nar .byte ((p2 >>> (i8 &&& 31)).toInt8.toInt32))), (.int y4), (.int y5), (.int y6), (.int y7)] (.int i0)
theorem rm2341_o (l : Launch) (Z : State) (a0 : Array Value) (hw : Hw a0 Z) (a1 : Addr) (p2 : Int32) (y0 : Int32) (y1 : Int32) (y2 : Int32) (y3 : Int32) (y4 : Int32) (y5 : Int32) (y6 : Int32) (y7 : Int32) (kb : ClassId) (h0 : Heap) (n0 : Nat) (Z0 : n0 ≤ h0.size) (V_a1 : Arv Z h0 a1 kb .byte i8 [(.int y0), (.int y1), (.int y2), (.int y3), (.int y4), (.int y5), (.int y6), (.int y7)] (.int i0)) (S__assertionsDisabled : Sta Z h0 s1_ s2_ "Z" (.int i1)) (S_HI_BYTE_SHIFT : Sta Z h0 s1_ s3_ "I" (.int i0)) (S_LO_BYTE_SHIFT : Sta Z h0 s1_ s4_ "I" (.int i8)) (g_a1 : n0 ≤ a1) :
  Met l Z h0 yy9 jdk_52_method_4_code 3 none (rmk 0 0 0 0) #[(.ref a1), (.int i1), (.int p2)] (Qm2341_o Z a1 p2 y0 y1 y2 y3 y4 y5 y6 y7 kb h0 n0) := by
 refine enter (plainFor_of_name pn_23) (fun m => ef_23 m a1 i1 p2) fun p e s m below meth c s₁ hx hby hml hown hnm hZ X0 e0 hret hlk => ?_
 have N0 := Fr.nil n0; have H := @hb c _ hby
 refine g_getS X0 hx hZ hown (tw101 hw) e0 S__assertionsDisabled (H d23_0) fun T3 X3 e3 => ?_
 refine g_ifYes X3 hx 28 (H d23_3) (feq (by decide : ¬ (i1 = i0))).2 (by decide) (by decide) ?_
 refine g_iloadN X3 hx (H d23_28) rfl ?_
 refine g_iconst X3 hx i1 (H d23_29) rfl ?_
 refine g_ishl X3 hx (H d23_30) ?_
 rw [show (i1 <<< (i1 &&& 31)) = i2 from by decide]
 show Gs p e below _ T3 m 31 #[rv a1, iv i1, iv p2] [(.int i2)]
 refine g_istoreN X3 hx (H d23_31) (l' := #[rv a1, iv i2, iv p2]) rfl ?_
 refine g_aloadN X3 hx (H d23_32) rfl rfl ?_
 refine g_iloadN X3 hx (H d23_33) rfl ?_
 refine g_iinc X3 hx (H d23_34) rfl (l' := #[rv a1, iv i3, iv p2]) rfl ?_
 refine g_iloadN X3 hx (H d23_37) rfl ?_
 refine g_getS X3 hx hZ hown (tw102 hw) e3 S_HI_BYTE_SHIFT (H d23_38) fun T4 X4 e4 => ?_
 refine g_ishr X4 hx (H d23_41) ?_
 refine g_i2b X4 hx (H d23_42) ?_
 obtain ⟨clq5, Arq5, caq5, saq5, naq5, haq5, gaq5⟩ := id V_a1
 have inq5 : ¬ (i2 < 0 ∨ clq5.slots.size ≤ (i2).toNatClampNeg) := inb_of saq5 ⟨by decide, by decide⟩
 refine g_stB X4 hx hZ e4 Arq5 inq5 (H d23_43) fun T6 h6 X6 e6 W6 => ?_
 have K6 : Keep h0 h6 [a1] := (Keep.refl h0 [a1]).wr W6 (Or.inl (List.mem_of_getElem? (i := 0) rfl))
 have V6 : Arv Z h6 a1 kb .byte i8 [(.int y0), (.int y1), (.int (nar .byte ((p2 >>> (i0 &&& 31)).toInt8.toInt32))), (.int y3), (.int y4), (.int y5), (.int y6), (.int y7)] (.int i0) := Arv.set Arq5 caq5 saq5 naq5 haq5 gaq5 (fits_nar_byte _) W6 2 rfl (Nat.le_of_ble_eq_true rfl)
 have N6 := Fr.snoc X6 N0 g_a1
 refine g_aloadN X6 hx (H d23_44) rfl rfl ?_
 refine g_iloadN X6 hx (H d23_45) rfl ?_
 refine g_iloadN X6 hx (H d23_46) rfl ?_
 have f_7 := (staKeepA S_LO_BYTE_SHIFT K6 (Arv.arn V_a1))
 refine g_getS X6 hx hZ hown (tw103 hw) e6 f_7 (H d23_47) fun T8 X8 e8 => ?_
 refine g_ishr X8 hx (H d23_50) ?_
 refine g_i2b X8 hx (H d23_51) ?_
 obtain ⟨clq9, Arq9, caq9, saq9, naq9, haq9, gaq9⟩ := id V6
 have inq9 : ¬ (i3 < 0 ∨ clq9.slots.size ≤ (i3).toNatClampNeg) := inb_of saq9 ⟨by decide, by decide⟩
 refine g_stB X8 hx hZ e8 Arq9 inq9 (H d23_52) fun T10 h10 X10 e10 W10 => ?_
 have K10 : Keep h0 h10 [a1] := K6.wr W10 (Or.inl (List.mem_of_getElem? (i := 0) rfl))
 have V10 : Arv Z h10 a1 kb .byte i8 [(.int y0), (.int y1), (.int (nar .byte ((p2 >>> (i0 &&& 31)).toInt8.toInt32))), (.int (nar .byte ((p2 >>> (i8 &&& 31)).toInt8.toInt32))), (.int y4), (.int y5), (.int y6), (.int y7)] (.int i0) := Arv.set Arq9 caq9 saq9 naq9 haq9 gaq9 (fits_nar_byte _) W10 3 rfl (Nat.le_of_ble_eq_true rfl)
 have N10 := Fr.snoc X10 N6 g_a1
 exact Go.ret (Q := Qm2341_o Z a1 p2 y0 y1 y2 y3 y4 y5 y6 y7 kb h0 n0) X10 (v := none) (fun _ => rfl) hlk (fun fs hr => X10.returnOut hx hret (H d23_53) hr) e10 ⟨rfl, N10, K10, V10⟩ (by decide) (by decide)
def Qm2441_o (Z : State) (a1 : Addr) (y0 : Int32) (y1 : Int32) (y2 : Int32) (y3 : Int32) (y4 : Int32) (y5 : Int32) (y6 : Int32) (y7 : Int32) (kb : ClassId) (h0 : Heap) (n0 : Nat) (v : Option Value) (h : Heap) (L : List Loc) : Prop := v = some (.int (nar .char ((((y2 &&& i255) <<< (i0 &&& 31)) ||| ((y3 &&& i255) <<< (i8 &&& 31))).toUInt32.toUInt16.toUInt32.toInt32))) ∧ Fr n0 L ∧ h = h0
theorem rm2441_o (l : Launch) (Z : State) (a0 : Array Value) (hw : Hw a0 Z) (a1 : Addr) (y0 : Int32) (y1 : Int32) (y2 : Int32) (y3 : Int32) (y4 : Int32) (y5 : Int32) (y6 : Int32) (y7 : Int32) (kb : ClassId) (h0 : Heap) (n0 : Nat) (Z0 : n0 ≤ h0.size) (V_a1 : Arv Z h0 a1 kb .byte i8 [(.int y0), (.int y1), (.int y2), (.int y3), (.int y4), (.int y5), (.int y6), (.int y7)] (.int i0)) (S__assertionsDisabled : Sta Z h0 s1_ s2_ "Z" (.int i1)) (S_HI_BYTE_SHIFT : Sta Z h0 s1_ s3_ "I" (.int i0)) (S_LO_BYTE_SHIFT : Sta Z h0 s1_ s4_ "I" (.int i8)) :
  Met l Z h0 yy10 jdk_52_method_5_code 2 (some .char) (rmk 0 0 0 0) #[(.ref a1), (.int i1)] (Qm2441_o Z a1 y0 y1 y2 y3 y4 y5 y6 y7 kb h0 n0) := by
 refine enter (plainFor_of_name pn_24) (fun m => ef_24 m a1 i1) fun p e s m below meth c s₁ hx hby hml hown hnm hZ X0 e0 hret hlk => ?_
 have N0 := Fr.nil n0; have H := @hb c _ hby
 refine g_getS X0 hx hZ hown (tw101 hw) e0 S__assertionsDisabled (H d24_0) fun T2 X2 e2 => ?_
 refine g_ifYes X2 hx 28 (H d24_3) (feq (by decide : ¬ (i1 = i0))).2 (by decide) (by decide) ?_
 refine g_iloadN X2 hx (H d24_28) rfl ?_
 refine g_iconst X2 hx i1 (H d24_29) rfl ?_
 refine g_ishl X2 hx (H d24_30) ?_
 rw [show (i1 <<< (i1 &&& 31)) = i2 from by decide]
 show Gs p e below _ T2 m 31 #[rv a1, iv i1] [(.int i2)]
 refine g_istoreN X2 hx (H d24_31) (l' := #[rv a1, iv i2]) rfl ?_
 refine g_aloadN X2 hx (H d24_32) rfl rfl ?_
 refine g_iloadN X2 hx (H d24_33) rfl ?_
 refine g_iinc X2 hx (H d24_34) rfl (l' := #[rv a1, iv i3]) rfl ?_
 obtain ⟨clq3, Arq3, caq3, saq3, naq3, haq3, gaq3⟩ := id V_a1
 have inq3 : ¬ (i2 < 0 ∨ clq3.slots.size ≤ (i2).toNatClampNeg) := inb_of saq3 ⟨by decide, by decide⟩
 have atq3 : clq3.slots[(i2).toNatClampNeg]? = some (.int y2) := haq3.at inq3 rfl
 refine g_baload X2 hx hZ e2 Arq3 inq3 atq3 (H d24_37) ?_
 refine g_sipush X2 hx i255 (H d24_38) rfl ?_
 refine g_iand X2 hx (H d24_41) ?_
 refine g_getS X2 hx hZ hown (tw102 hw) e2 S_HI_BYTE_SHIFT (H d24_42) fun T4 X4 e4 => ?_
 refine g_ishl X4 hx (H d24_45) ?_
 refine g_aloadN X4 hx (H d24_46) rfl rfl ?_
 refine g_iloadN X4 hx (H d24_47) rfl ?_
 obtain ⟨clq5, Arq5, caq5, saq5, naq5, haq5, gaq5⟩ := id V_a1
 have inq5 : ¬ (i3 < 0 ∨ clq5.slots.size ≤ (i3).toNatClampNeg) := inb_of saq5 ⟨by decide, by decide⟩
 have atq5 : clq5.slots[(i3).toNatClampNeg]? = some (.int y3) := haq5.at inq5 rfl
 refine g_baload X4 hx hZ e4 Arq5 inq5 atq5 (H d24_48) ?_
 refine g_sipush X4 hx i255 (H d24_49) rfl ?_
 refine g_iand X4 hx (H d24_52) ?_
 refine g_getS X4 hx hZ hown (tw103 hw) e4 S_LO_BYTE_SHIFT (H d24_53) fun T6 X6 e6 => ?_
 refine g_ishl X6 hx (H d24_56) ?_
 refine g_ior X6 hx (H d24_57) ?_
 refine g_i2c X6 hx (H d24_58) ?_
 exact Go.ret (Q := Qm2441_o Z a1 y0 y1 y2 y3 y4 y5 y6 y7 kb h0 n0) X6 (v := some (.int (nar .char ((((y2 &&& i255) <<< (i0 &&& 31)) ||| ((y3 &&& i255) <<< (i8 &&& 31))).toUInt32.toUInt16.toUInt32.toInt32)))) (fun h => by rw [hret] at h; cases h) hlk (fun fs hr => retN X6 hx (t := .char) hret (by simp) (H d24_59) hr) e6 ⟨rfl, N0, rfl⟩ (by decide) (by decide)
def Qm2342_o (Z : State) (a1 : Addr) (p2 : Int32) (y0 : Int32) (y1 : Int32) (y2 : Int32) (y3 : Int32) (y4 : Int32) (y5 : Int32) (y6 : Int32) (y7 : Int32) (kb : ClassId) (h0 : Heap) (n0 : Nat) (v : Option Value) (h : Heap) (L : List Loc) : Prop := v = none ∧ Fr n0 L ∧ Keep h0 h [a1] ∧ Arv Z h a1 kb .byte i8 [(.int y0), (.int y1), (.int y2), (.int y3), (.int (nar .byte ((p2 >>> (i0 &&& 31)).toInt8.toInt32))), (.int (nar .byte ((p2 >>> (i8 &&& 31)).toInt8.toInt32))), (.int y6), (.int y7)] (.int i0)
theorem rm2342_o (l : Launch) (Z : State) (a0 : Array Value) (hw : Hw a0 Z) (a1 : Addr) (p2 : Int32) (y0 : Int32) (y1 : Int32) (y2 : Int32) (y3 : Int32) (y4 : Int32) (y5 : Int32) (y6 : Int32) (y7 : Int32) (kb : ClassId) (h0 : Heap) (n0 : Nat) (Z0 : n0 ≤ h0.size) (V_a1 : Arv Z h0 a1 kb .byte i8 [(.int y0), (.int y1), (.int y2), (.int y3), (.int y4), (.int y5), (.int y6), (.int y7)] (.int i0)) (S__assertionsDisabled : Sta Z h0 s1_ s2_ "Z" (.int i1)) (S_HI_BYTE_SHIFT : Sta Z h0 s1_ s3_ "I" (.int i0)) (S_LO_BYTE_SHIFT : Sta Z h0 s1_ s4_ "I" (.int i8)) (g_a1 : n0 ≤ a1) :
  Met l Z h0 yy9 jdk_52_method_4_code 3 none (rmk 0 0 0 0) #[(.ref a1), (.int i2), (.int p2)] (Qm2342_o Z a1 p2 y0 y1 y2 y3 y4 y5 y6 y7 kb h0 n0) := by
 refine enter (plainFor_of_name pn_23) (fun m => ef_23 m a1 i2 p2) fun p e s m below meth c s₁ hx hby hml hown hnm hZ X0 e0 hret hlk => ?_
 have N0 := Fr.nil n0; have H := @hb c _ hby
 refine g_getS X0 hx hZ hown (tw101 hw) e0 S__assertionsDisabled (H d23_0) fun T3 X3 e3 => ?_
 refine g_ifYes X3 hx 28 (H d23_3) (feq (by decide : ¬ (i1 = i0))).2 (by decide) (by decide) ?_
 refine g_iloadN X3 hx (H d23_28) rfl ?_
 refine g_iconst X3 hx i1 (H d23_29) rfl ?_
 refine g_ishl X3 hx (H d23_30) ?_
 rw [show (i2 <<< (i1 &&& 31)) = i4 from by decide]
 show Gs p e below _ T3 m 31 #[rv a1, iv i2, iv p2] [(.int i4)]
 refine g_istoreN X3 hx (H d23_31) (l' := #[rv a1, iv i4, iv p2]) rfl ?_
 refine g_aloadN X3 hx (H d23_32) rfl rfl ?_
 refine g_iloadN X3 hx (H d23_33) rfl ?_
 refine g_iinc X3 hx (H d23_34) rfl (l' := #[rv a1, iv i5, iv p2]) rfl ?_
 refine g_iloadN X3 hx (H d23_37) rfl ?_
 refine g_getS X3 hx hZ hown (tw102 hw) e3 S_HI_BYTE_SHIFT (H d23_38) fun T4 X4 e4 => ?_
 refine g_ishr X4 hx (H d23_41) ?_
 refine g_i2b X4 hx (H d23_42) ?_
 obtain ⟨clq5, Arq5, caq5, saq5, naq5, haq5, gaq5⟩ := id V_a1
 have inq5 : ¬ (i4 < 0 ∨ clq5.slots.size ≤ (i4).toNatClampNeg) := inb_of saq5 ⟨by decide, by decide⟩
 refine g_stB X4 hx hZ e4 Arq5 inq5 (H d23_43) fun T6 h6 X6 e6 W6 => ?_
 have K6 : Keep h0 h6 [a1] := (Keep.refl h0 [a1]).wr W6 (Or.inl (List.mem_of_getElem? (i := 0) rfl))
 have V6 : Arv Z h6 a1 kb .byte i8 [(.int y0), (.int y1), (.int y2), (.int y3), (.int (nar .byte ((p2 >>> (i0 &&& 31)).toInt8.toInt32))), (.int y5), (.int y6), (.int y7)] (.int i0) := Arv.set Arq5 caq5 saq5 naq5 haq5 gaq5 (fits_nar_byte _) W6 4 rfl (Nat.le_of_ble_eq_true rfl)
 have N6 := Fr.snoc X6 N0 g_a1
 refine g_aloadN X6 hx (H d23_44) rfl rfl ?_
 refine g_iloadN X6 hx (H d23_45) rfl ?_
 refine g_iloadN X6 hx (H d23_46) rfl ?_
 have f_7 := (staKeepA S_LO_BYTE_SHIFT K6 (Arv.arn V_a1))
 refine g_getS X6 hx hZ hown (tw103 hw) e6 f_7 (H d23_47) fun T8 X8 e8 => ?_
 refine g_ishr X8 hx (H d23_50) ?_
 refine g_i2b X8 hx (H d23_51) ?_
 obtain ⟨clq9, Arq9, caq9, saq9, naq9, haq9, gaq9⟩ := id V6
 have inq9 : ¬ (i5 < 0 ∨ clq9.slots.size ≤ (i5).toNatClampNeg) := inb_of saq9 ⟨by decide, by decide⟩
 refine g_stB X8 hx hZ e8 Arq9 inq9 (H d23_52) fun T10 h10 X10 e10 W10 => ?_
 have K10 : Keep h0 h10 [a1] := K6.wr W10 (Or.inl (List.mem_of_getElem? (i := 0) rfl))
 have V10 : Arv Z h10 a1 kb .byte i8 [(.int y0), (.int y1), (.int y2), (.int y3), (.int (nar .byte ((p2 >>> (i0 &&& 31)).toInt8.toInt32))), (.int (nar .byte ((p2 >>> (i8 &&& 31)).toInt8.toInt32))), (.int y6), (.int y7)] (.int i0) := Arv.set Arq9 caq9 saq9 naq9 haq9 gaq9 (fits_nar_byte _) W10 5 rfl (Nat.le_of_ble_eq_true rfl)
 have N10 := Fr.snoc X10 N6 g_a1
 exact Go.ret (Q := Qm2342_o Z a1 p2 y0 y1 y2 y3 y4 y5 y6 y7 kb h0 n0) X10 (v := none) (fun _ => rfl) hlk (fun fs hr => X10.returnOut hx hret (H d23_53) hr) e10 ⟨rfl, N10, K10, V10⟩ (by decide) (by decide)
def Qm2442_o (Z : State) (a1 : Addr) (y0 : Int32) (y1 : Int32) (y2 : Int32) (y3 : Int32) (y4 : Int32) (y5 : Int32) (y6 : Int32) (y7 : Int32) (kb : ClassId) (h0 : Heap) (n0 : Nat) (v : Option Value) (h : Heap) (L : List Loc) : Prop := v = some (.int (nar .char ((((y4 &&& i255) <<< (i0 &&& 31)) ||| ((y5 &&& i255) <<< (i8 &&& 31))).toUInt32.toUInt16.toUInt32.toInt32))) ∧ Fr n0 L ∧ h = h0
theorem rm2442_o (l : Launch) (Z : State) (a0 : Array Value) (hw : Hw a0 Z) (a1 : Addr) (y0 : Int32) (y1 : Int32) (y2 : Int32) (y3 : Int32) (y4 : Int32) (y5 : Int32) (y6 : Int32) (y7 : Int32) (kb : ClassId) (h0 : Heap) (n0 : Nat) (Z0 : n0 ≤ h0.size) (V_a1 : Arv Z h0 a1 kb .byte i8 [(.int y0), (.int y1), (.int y2), (.int y3), (.int y4), (.int y5), (.int y6), (.int y7)] (.int i0)) (S__assertionsDisabled : Sta Z h0 s1_ s2_ "Z" (.int i1)) (S_HI_BYTE_SHIFT : Sta Z h0 s1_ s3_ "I" (.int i0)) (S_LO_BYTE_SHIFT : Sta Z h0 s1_ s4_ "I" (.int i8)) :
  Met l Z h0 yy10 jdk_52_method_5_code 2 (some .char) (rmk 0 0 0 0) #[(.ref a1), (.int i2)] (Qm2442_o Z a1 y0 y1 y2 y3 y4 y5 y6 y7 kb h0 n0) := by
 refine enter (plainFor_of_name pn_24) (fun m => ef_24 m a1 i2) fun p e s m below meth c s₁ hx hby hml hown hnm hZ X0 e0 hret hlk => ?_
 have N0 := Fr.nil n0; have H := @hb c _ hby
 refine g_getS X0 hx hZ hown (tw101 hw) e0 S__assertionsDisabled (H d24_0) fun T2 X2 e2 => ?_
 refine g_ifYes X2 hx 28 (H d24_3) (feq (by decide : ¬ (i1 = i0))).2 (by decide) (by decide) ?_
 refine g_iloadN X2 hx (H d24_28) rfl ?_
 refine g_iconst X2 hx i1 (H d24_29) rfl ?_
 refine g_ishl X2 hx (H d24_30) ?_
 rw [show (i2 <<< (i1 &&& 31)) = i4 from by decide]
 show Gs p e below _ T2 m 31 #[rv a1, iv i2] [(.int i4)]
 refine g_istoreN X2 hx (H d24_31) (l' := #[rv a1, iv i4]) rfl ?_
 refine g_aloadN X2 hx (H d24_32) rfl rfl ?_
 refine g_iloadN X2 hx (H d24_33) rfl ?_
 refine g_iinc X2 hx (H d24_34) rfl (l' := #[rv a1, iv i5]) rfl ?_
 obtain ⟨clq3, Arq3, caq3, saq3, naq3, haq3, gaq3⟩ := id V_a1
 have inq3 : ¬ (i4 < 0 ∨ clq3.slots.size ≤ (i4).toNatClampNeg) := inb_of saq3 ⟨by decide, by decide⟩
 have atq3 : clq3.slots[(i4).toNatClampNeg]? = some (.int y4) := haq3.at inq3 rfl
 refine g_baload X2 hx hZ e2 Arq3 inq3 atq3 (H d24_37) ?_
 refine g_sipush X2 hx i255 (H d24_38) rfl ?_
 refine g_iand X2 hx (H d24_41) ?_
 refine g_getS X2 hx hZ hown (tw102 hw) e2 S_HI_BYTE_SHIFT (H d24_42) fun T4 X4 e4 => ?_
 refine g_ishl X4 hx (H d24_45) ?_
 refine g_aloadN X4 hx (H d24_46) rfl rfl ?_
 refine g_iloadN X4 hx (H d24_47) rfl ?_
 obtain ⟨clq5, Arq5, caq5, saq5, naq5, haq5, gaq5⟩ := id V_a1
 have inq5 : ¬ (i5 < 0 ∨ clq5.slots.size ≤ (i5).toNatClampNeg) := inb_of saq5 ⟨by decide, by decide⟩
 have atq5 : clq5.slots[(i5).toNatClampNeg]? = some (.int y5) := haq5.at inq5 rfl
 refine g_baload X4 hx hZ e4 Arq5 inq5 atq5 (H d24_48) ?_
 refine g_sipush X4 hx i255 (H d24_49) rfl ?_
 refine g_iand X4 hx (H d24_52) ?_
 refine g_getS X4 hx hZ hown (tw103 hw) e4 S_LO_BYTE_SHIFT (H d24_53) fun T6 X6 e6 => ?_
 refine g_ishl X6 hx (H d24_56) ?_
 refine g_ior X6 hx (H d24_57) ?_
 refine g_i2c X6 hx (H d24_58) ?_
 exact Go.ret (Q := Qm2442_o Z a1 y0 y1 y2 y3 y4 y5 y6 y7 kb h0 n0) X6 (v := some (.int (nar .char ((((y4 &&& i255) <<< (i0 &&& 31)) ||| ((y5 &&& i255) <<< (i8 &&& 31))).toUInt32.toUInt16.toUInt32.toInt32)))) (fun h => by rw [hret] at h; cases h) hlk (fun fs hr => retN X6 hx (t := .char) hret (by simp) (H d24_59) hr) e6 ⟨rfl, N0, rfl⟩ (by decide) (by decide)
def Qm2343_o (Z : State) (a1 : Addr) (p2 : Int32) (y0 : Int32) (y1 : Int32) (y2 : Int32) (y3 : Int32) (y4 : Int32) (y5 : Int32) (y6 : Int32) (y7 : Int32) (kb : ClassId) (h0 : Heap) (n0 : Nat) (v : Option Value) (h : Heap) (L : List Loc) : Prop := v = none ∧ Fr n0 L ∧ Keep h0 h [a1] ∧ Arv Z h a1 kb .byte i8 [(.int y0), (.int y1), (.int y2), (.int y3), (.int y4), (.int y5), (.int (nar .byte ((p2 >>> (i0 &&& 31)).toInt8.toInt32))), (.int (nar .byte ((p2 >>> (i8 &&& 31)).toInt8.toInt32)))] (.int i0)
theorem rm2343_o (l : Launch) (Z : State) (a0 : Array Value) (hw : Hw a0 Z) (a1 : Addr) (p2 : Int32) (y0 : Int32) (y1 : Int32) (y2 : Int32) (y3 : Int32) (y4 : Int32) (y5 : Int32) (y6 : Int32) (y7 : Int32) (kb : ClassId) (h0 : Heap) (n0 : Nat) (Z0 : n0 ≤ h0.size) (V_a1 : Arv Z h0 a1 kb .byte i8 [(.int y0), (.int y1), (.int y2), (.int y3), (.int y4), (.int y5), (.int y6), (.int y7)] (.int i0)) (S__assertionsDisabled : Sta Z h0 s1_ s2_ "Z" (.int i1)) (S_HI_BYTE_SHIFT : Sta Z h0 s1_ s3_ "I" (.int i0)) (S_LO_BYTE_SHIFT : Sta Z h0 s1_ s4_ "I" (.int i8)) (g_a1 : n0 ≤ a1) :
  Met l Z h0 yy9 jdk_52_method_4_code 3 none (rmk 0 0 0 0) #[(.ref a1), (.int i3), (.int p2)] (Qm2343_o Z a1 p2 y0 y1 y2 y3 y4 y5 y6 y7 kb h0 n0) := by
 refine enter (plainFor_of_name pn_23) (fun m => ef_23 m a1 i3 p2) fun p e s m below meth c s₁ hx hby hml hown hnm hZ X0 e0 hret hlk => ?_
 have N0 := Fr.nil n0; have H := @hb c _ hby
 refine g_getS X0 hx hZ hown (tw101 hw) e0 S__assertionsDisabled (H d23_0) fun T3 X3 e3 => ?_
 refine g_ifYes X3 hx 28 (H d23_3) (feq (by decide : ¬ (i1 = i0))).2 (by decide) (by decide) ?_
 refine g_iloadN X3 hx (H d23_28) rfl ?_
 refine g_iconst X3 hx i1 (H d23_29) rfl ?_
 refine g_ishl X3 hx (H d23_30) ?_
 rw [show (i3 <<< (i1 &&& 31)) = i6 from by decide]
 show Gs p e below _ T3 m 31 #[rv a1, iv i3, iv p2] [(.int i6)]
 refine g_istoreN X3 hx (H d23_31) (l' := #[rv a1, iv i6, iv p2]) rfl ?_
 refine g_aloadN X3 hx (H d23_32) rfl rfl ?_
 refine g_iloadN X3 hx (H d23_33) rfl ?_
 refine g_iinc X3 hx (H d23_34) rfl (l' := #[rv a1, iv i7, iv p2]) rfl ?_
 refine g_iloadN X3 hx (H d23_37) rfl ?_
 refine g_getS X3 hx hZ hown (tw102 hw) e3 S_HI_BYTE_SHIFT (H d23_38) fun T4 X4 e4 => ?_
 refine g_ishr X4 hx (H d23_41) ?_
 refine g_i2b X4 hx (H d23_42) ?_
 obtain ⟨clq5, Arq5, caq5, saq5, naq5, haq5, gaq5⟩ := id V_a1
 have inq5 : ¬ (i6 < 0 ∨ clq5.slots.size ≤ (i6).toNatClampNeg) := inb_of saq5 ⟨by decide, by decide⟩
 refine g_stB X4 hx hZ e4 Arq5 inq5 (H d23_43) fun T6 h6 X6 e6 W6 => ?_
 have K6 : Keep h0 h6 [a1] := (Keep.refl h0 [a1]).wr W6 (Or.inl (List.mem_of_getElem? (i := 0) rfl))
 have V6 : Arv Z h6 a1 kb .byte i8 [(.int y0), (.int y1), (.int y2), (.int y3), (.int y4), (.int y5), (.int (nar .byte ((p2 >>> (i0 &&& 31)).toInt8.toInt32))), (.int y7)] (.int i0) := Arv.set Arq5 caq5 saq5 naq5 haq5 gaq5 (fits_nar_byte _) W6 6 rfl (Nat.le_of_ble_eq_true rfl)
 have N6 := Fr.snoc X6 N0 g_a1
 refine g_aloadN X6 hx (H d23_44) rfl rfl ?_
 refine g_iloadN X6 hx (H d23_45) rfl ?_
 refine g_iloadN X6 hx (H d23_46) rfl ?_
 have f_7 := (staKeepA S_LO_BYTE_SHIFT K6 (Arv.arn V_a1))
 refine g_getS X6 hx hZ hown (tw103 hw) e6 f_7 (H d23_47) fun T8 X8 e8 => ?_
 refine g_ishr X8 hx (H d23_50) ?_
 refine g_i2b X8 hx (H d23_51) ?_
 obtain ⟨clq9, Arq9, caq9, saq9, naq9, haq9, gaq9⟩ := id V6
 have inq9 : ¬ (i7 < 0 ∨ clq9.slots.size ≤ (i7).toNatClampNeg) := inb_of saq9 ⟨by decide, by decide⟩
 refine g_stB X8 hx hZ e8 Arq9 inq9 (H d23_52) fun T10 h10 X10 e10 W10 => ?_
 have K10 : Keep h0 h10 [a1] := K6.wr W10 (Or.inl (List.mem_of_getElem? (i := 0) rfl))
 have V10 : Arv Z h10 a1 kb .byte i8 [(.int y0), (.int y1), (.int y2), (.int y3), (.int y4), (.int y5), (.int (nar .byte ((p2 >>> (i0 &&& 31)).toInt8.toInt32))), (.int (nar .byte ((p2 >>> (i8 &&& 31)).toInt8.toInt32)))] (.int i0) := Arv.set Arq9 caq9 saq9 naq9 haq9 gaq9 (fits_nar_byte _) W10 7 rfl (Nat.le_of_ble_eq_true rfl)
 have N10 := Fr.snoc X10 N6 g_a1
 exact Go.ret (Q := Qm2343_o Z a1 p2 y0 y1 y2 y3 y4 y5 y6 y7 kb h0 n0) X10 (v := none) (fun _ => rfl) hlk (fun fs hr => X10.returnOut hx hret (H d23_53) hr) e10 ⟨rfl, N10, K10, V10⟩ (by decide) (by decide)
def Qm2443_o (Z : State) (a1 : Addr) (y0 : Int32) (y1 : Int32) (y2 : Int32) (y3 : Int32) (y4 : Int32) (y5 : Int32) (y6 : Int32) (y7 : Int32) (kb : ClassId) (h0 : Heap) (n0 : Nat) (v : Option Value) (h : Heap) (L : List Loc) : Prop := v = some (.int (nar .char ((((y6 &&& i255) <<< (i0 &&& 31)) ||| ((y7 &&& i255) <<< (i8 &&& 31))).toUInt32.toUInt16.toUInt32.toInt32))) ∧ Fr n0 L ∧ h = h0
theorem rm2443_o (l : Launch) (Z : State) (a0 : Array Value) (hw : Hw a0 Z) (a1 : Addr) (y0 : Int32) (y1 : Int32) (y2 : Int32) (y3 : Int32) (y4 : Int32) (y5 : Int32) (y6 : Int32) (y7 : Int32) (kb : ClassId) (h0 : Heap) (n0 : Nat) (Z0 : n0 ≤ h0.size) (V_a1 : Arv Z h0 a1 kb .byte i8 [(.int y0), (.int y1), (.int y2), (.int y3), (.int y4), (.int y5), (.int y6), (.int y7)] (.int i0)) (S__assertionsDisabled : Sta Z h0 s1_ s2_ "Z" (.int i1)) (S_HI_BYTE_SHIFT : Sta Z h0 s1_ s3_ "I" (.int i0)) (S_LO_BYTE_SHIFT : Sta Z h0 s1_ s4_ "I" (.int i8)) :
  Met l Z h0 yy10 jdk_52_method_5_code 2 (some .char) (rmk 0 0 0 0) #[(.ref a1), (.int i3)] (Qm2443_o Z a1 y0 y1 y2 y3 y4 y5 y6 y7 kb h0 n0) := by
 refine enter (plainFor_of_name pn_24) (fun m => ef_24 m a1 i3) fun p e s m below meth c s₁ hx hby hml hown hnm hZ X0 e0 hret hlk => ?_
 have N0 := Fr.nil n0; have H := @hb c _ hby
 refine g_getS X0 hx hZ hown (tw101 hw) e0 S__assertionsDisabled (H d24_0) fun T2 X2 e2 => ?_
 refine g_ifYes X2 hx 28 (H d24_3) (feq (by decide : ¬ (i1 = i0))).2 (by decide) (by decide) ?_
 refine g_iloadN X2 hx (H d24_28) rfl ?_
 refine g_iconst X2 hx i1 (H d24_29) rfl ?_
 refine g_ishl X2 hx (H d24_30) ?_
 rw [show (i3 <<< (i1 &&& 31)) = i6 from by decide]
 show Gs p e below _ T2 m 31 #[rv a1, iv i3] [(.int i6)]
 refine g_istoreN X2 hx (H d24_31) (l' := #[rv a1, iv i6]) rfl ?_
 refine g_aloadN X2 hx (H d24_32) rfl rfl ?_
 refine g_iloadN X2 hx (H d24_33) rfl ?_
 refine g_iinc X2 hx (H d24_34) rfl (l' := #[rv a1, iv i7]) rfl ?_
 obtain ⟨clq3, Arq3, caq3, saq3, naq3, haq3, gaq3⟩ := id V_a1
 have inq3 : ¬ (i6 < 0 ∨ clq3.slots.size ≤ (i6).toNatClampNeg) := inb_of saq3 ⟨by decide, by decide⟩
 have atq3 : clq3.slots[(i6).toNatClampNeg]? = some (.int y6) := haq3.at inq3 rfl
 refine g_baload X2 hx hZ e2 Arq3 inq3 atq3 (H d24_37) ?_
 refine g_sipush X2 hx i255 (H d24_38) rfl ?_
 refine g_iand X2 hx (H d24_41) ?_
 refine g_getS X2 hx hZ hown (tw102 hw) e2 S_HI_BYTE_SHIFT (H d24_42) fun T4 X4 e4 => ?_
 refine g_ishl X4 hx (H d24_45) ?_
 refine g_aloadN X4 hx (H d24_46) rfl rfl ?_
 refine g_iloadN X4 hx (H d24_47) rfl ?_
 obtain ⟨clq5, Arq5, caq5, saq5, naq5, haq5, gaq5⟩ := id V_a1
 have inq5 : ¬ (i7 < 0 ∨ clq5.slots.size ≤ (i7).toNatClampNeg) := inb_of saq5 ⟨by decide, by decide⟩
 have atq5 : clq5.slots[(i7).toNatClampNeg]? = some (.int y7) := haq5.at inq5 rfl
 refine g_baload X4 hx hZ e4 Arq5 inq5 atq5 (H d24_48) ?_
 refine g_sipush X4 hx i255 (H d24_49) rfl ?_
 refine g_iand X4 hx (H d24_52) ?_
 refine g_getS X4 hx hZ hown (tw103 hw) e4 S_LO_BYTE_SHIFT (H d24_53) fun T6 X6 e6 => ?_
 refine g_ishl X6 hx (H d24_56) ?_
 refine g_ior X6 hx (H d24_57) ?_
 refine g_i2c X6 hx (H d24_58) ?_
 exact Go.ret (Q := Qm2443_o Z a1 y0 y1 y2 y3 y4 y5 y6 y7 kb h0 n0) X6 (v := some (.int (nar .char ((((y6 &&& i255) <<< (i0 &&& 31)) ||| ((y7 &&& i255) <<< (i8 &&& 31))).toUInt32.toUInt16.toUInt32.toInt32)))) (fun h => by rw [hret] at h; cases h) hlk (fun fs hr => retN X6 hx (t := .char) hret (by simp) (H d24_59) hr) e6 ⟨rfl, N0, rfl⟩ (by decide) (by decide)
def Qm204_o (Z : State) (a1 : Addr) (v0 : Int32) (v1 : Int32) (v2 : Int32) (v3 : Int32) (kc : ClassId) (h0 : Heap) (n0 : Nat) (v : Option Value) (h : Heap) (L : List Loc) : Prop := ∃ (b2_2 : Addr) (k2_2 : ClassId), v = some (.ref b2_2) ∧ Fr n0 L ∧ Keep h0 h [] ∧ n0 ≤ b2_2 ∧ h0.size ≤ b2_2 ∧ Arv Z h b2_2 k2_2 .byte i8 [(.int (nar .byte ((v0 >>> (i0 &&& 31)).toInt8.toInt32))), (.int (nar .byte ((v0 >>> (i8 &&& 31)).toInt8.toInt32))), (.int (nar .byte ((v1 >>> (i0 &&& 31)).toInt8.toInt32))), (.int (nar .byte ((v1 >>> (i8 &&& 31)).toInt8.toInt32))), (.int (nar .byte ((v2 >>> (i0 &&& 31)).toInt8.toInt32))), (.int (nar .byte ((v2 >>> (i8 &&& 31)).toInt8.toInt32))), (.int (nar .byte ((v3 >>> (i0 &&& 31)).toInt8.toInt32))), (.int (nar .byte ((v3 >>> (i8 &&& 31)).toInt8.toInt32)))] (.int i0)
theorem rm204_o (l : Launch) (Z : State) (a0 : Array Value) (hw : Hw a0 Z) (a1 : Addr) (v0 : Int32) (v1 : Int32) (v2 : Int32) (v3 : Int32) (kc : ClassId) (h0 : Heap) (n0 : Nat) (Z0 : n0 ≤ h0.size) (V_a1 : Arv Z h0 a1 kc .char i4 [(.int v0), (.int v1), (.int v2), (.int v3)] (.int i0)) (hb0 : 0 ≤ v0.toInt ∧ v0.toInt ≤ 65535) (hb1 : 0 ≤ v1.toInt ∧ v1.toInt ≤ 65535) (hb2 : 0 ≤ v2.toInt ∧ v2.toInt ≤ 65535) (hb3 : 0 ≤ v3.toInt ∧ v3.toInt ≤ 65535) (S__assertionsDisabled : Sta Z h0 s1_ s2_ "Z" (.int i1)) (S_HI_BYTE_SHIFT : Sta Z h0 s1_ s3_ "I" (.int i0)) (S_LO_BYTE_SHIFT : Sta Z h0 s1_ s4_ "I" (.int i8)) :
  Met l Z h0 yy11 jdk_52_method_14_code 5 (some (.array .byte)) (rmk 2 1 8 24) #[(.ref a1), (.int i0), (.int i4)] (Qm204_o Z a1 v0 v1 v2 v3 kc h0 n0) := by
 refine enter (plainFor_of_name pn_20) (fun m => ef_20 m a1 i0 i4) fun p e s m below meth c s₁ hx hby hml hown hnm hZ X0 e0 hret hlk => ?_
 have N0 := Fr.nil n0; have H := @hb c _ hby
 refine g_iloadN X0 hx (H d20_0) rfl ?_
 refine g_static X0 hx hZ (rm214_o l Z a0 hw  h0 n0 Z0 ) hown (tw91 hw) (tw92 hw) (tw74 hw) (tw93 hw) (by decide) 0 (by decide) (by decide) (by rw [hml]; rfl) [(.int i4)] [] (lenOf pd_1 rfl) (Nat.le_of_eq rfl) e0 (by decide) (by decide) rfl rfl (H d20_1) fun v2 T2 Lc2 X2 hQ2 => ?_
 obtain ⟨b2_2, k2_2, rfl, N2q, Kc2, P2_0, P2_1, P2_2⟩ := hQ2
 have K2 : Keep h0 T2.heap [] := (Keep.refl h0 []).trans Kc2 all0
 have g_b2_2 := P2_0
 have sz_b2_2 : h0.size ≤ b2_2 := P2_1
 have N2 := Fr.app N0 N2q
 show Gs p e below _ T2 m 4 #[rv a1, iv i0, iv i4, .unset, .unset] [(.ref b2_2)]
 refine g_astoreN X2 hx (H d20_4) rfl (l' := #[rv a1, iv i0, iv i4, rv b2_2, .unset]) rfl ?_
 refine g_iconst X2 hx i0 (H d20_5) rfl ?_
 refine g_istore X2 hx (H d20_6) (l' := #[rv a1, iv i0, iv i4, rv b2_2, iv i0]) rfl ?_
 refine g_iload X2 hx (H d20_8) rfl ?_
 refine g_iloadN X2 hx (H d20_10) rfl ?_
 refine g_icmpNo X2 hx (H d20_11) (tlt (by decide : (i0 < i4))).2.1 ?_
 refine g_aloadN X2 hx (H d20_14) rfl rfl ?_
 refine g_iload X2 hx (H d20_15) rfl ?_
 refine g_aloadN X2 hx (H d20_17) rfl rfl ?_
 refine g_iloadN X2 hx (H d20_18) rfl ?_
 have f_3 := (V_a1.keep K2 nin0)
 obtain ⟨clq4, Arq4, caq4, saq4, naq4, haq4, gaq4⟩ := id f_3
 have inq4 : ¬ (i0 < 0 ∨ clq4.slots.size ≤ (i0).toNatClampNeg) := inb_of saq4 ⟨by decide, by decide⟩
 have atq4 : clq4.slots[(i0).toNatClampNeg]? = some (.int v0) := haq4.at inq4 rfl
 refine g_caload X2 hx hZ rfl Arq4 inq4 atq4 (H d20_19) ?_
 have f_5 := (staKeep0 S__assertionsDisabled K2)
 have f_6 := (staKeep0 S_HI_BYTE_SHIFT K2)
 have f_7 := (staKeep0 S_LO_BYTE_SHIFT K2)
 refine g_static X2 hx hZ (rm2340_o l Z a0 hw b2_2 v0 i0 i0 i0 i0 i0 i0 i0 i0 k2_2 T2.heap n0 (Nat.le_trans Z0 K2.1) P2_2 f_5 f_6 f_7 g_b2_2) hown (tw98 hw) (tw99 hw) (tw74 hw) (tw100 hw) (by decide) 0 (by decide) (by decide) (by rw [hml]; rfl) [(.ref b2_2), (.int i0), (.int v0)] [] (lenOf pd_2 rfl) (Nat.le_of_eq rfl) rfl (by decide) (by decide) rfl rfl (H d20_20) fun v8 T8 Lc8 X8 hQ8 => ?_
 obtain ⟨rfl, N8q, Kc8, P8_0⟩ := hQ8
 have K8 : Keep h0 T8.heap [] := K2.trans Kc8 (allS (Or.inr sz_b2_2) all0)
 have N8 := Fr.app N2 N8q
 show Gs p e below _ T8 m 23 #[rv a1, iv i0, iv i4, rv b2_2, iv i0] []
 refine g_iinc X8 hx (H d20_23) rfl (l' := #[rv a1, iv i1, iv i4, rv b2_2, iv i0]) rfl ?_
 refine g_iinc X8 hx (H d20_26) rfl (l' := #[rv a1, iv i1, iv i4, rv b2_2, iv i1]) rfl ?_
 refine g_goto X8 hx 8 (H d20_29) (by decide) (by decide) ?_
 refine g_iload X8 hx (H d20_8) rfl ?_
 refine g_iloadN X8 hx (H d20_10) rfl ?_
 refine g_icmpNo X8 hx (H d20_11) (tlt (by decide : (i1 < i4))).2.1 ?_
 refine g_aloadN X8 hx (H d20_14) rfl rfl ?_
 refine g_iload X8 hx (H d20_15) rfl ?_
 refine g_aloadN X8 hx (H d20_17) rfl rfl ?_
 refine g_iloadN X8 hx (H d20_18) rfl ?_
 have f_9 := (f_3.keep Kc8 (ninS (Nat.ne_of_lt (Nat.lt_of_lt_of_le V_a1.lt sz_b2_2)) nin0))
 obtain ⟨clq10, Arq10, caq10, saq10, naq10, haq10, gaq10⟩ := id f_9
 have inq10 : ¬ (i1 < 0 ∨ clq10.slots.size ≤ (i1).toNatClampNeg) := inb_of saq10 ⟨by decide, by decide⟩
 have atq10 : clq10.slots[(i1).toNatClampNeg]? = some (.int v1) := haq10.at inq10 rfl
 refine g_caload X8 hx hZ rfl Arq10 inq10 atq10 (H d20_19) ?_
 have f_11 := (staKeepA f_5 Kc8 (Arv.arn P2_2))
 have f_12 := (staKeepA f_6 Kc8 (Arv.arn P2_2))
 have f_13 := (staKeepA f_7 Kc8 (Arv.arn P2_2))
 refine g_static X8 hx hZ (rm2341_o l Z a0 hw b2_2 v1 (nar .byte ((v0 >>> (i0 &&& 31)).toInt8.toInt32)) (nar .byte ((v0 >>> (i8 &&& 31)).toInt8.toInt32)) i0 i0 i0 i0 i0 i0 k2_2 T8.heap n0 (Nat.le_trans Z0 K8.1) P8_0 f_11 f_12 f_13 g_b2_2) hown (tw98 hw) (tw99 hw) (tw74 hw) (tw100 hw) (by decide) 0 (by decide) (by decide) (by rw [hml]; rfl) [(.ref b2_2), (.int i1), (.int v1)] [] (lenOf pd_2 rfl) (Nat.le_of_eq rfl) rfl (by decide) (by decide) rfl rfl (H d20_20) fun v14 T14 Lc14 X14 hQ14 => ?_
 obtain ⟨rfl, N14q, Kc14, P14_0⟩ := hQ14
 have K14 : Keep h0 T14.heap [] := K8.trans Kc14 (allS (Or.inr sz_b2_2) all0)
 have N14 := Fr.app N8 N14q
 show Gs p e below _ T14 m 23 #[rv a1, iv i1, iv i4, rv b2_2, iv i1] []
 refine g_iinc X14 hx (H d20_23) rfl (l' := #[rv a1, iv i2, iv i4, rv b2_2, iv i1]) rfl ?_
 refine g_iinc X14 hx (H d20_26) rfl (l' := #[rv a1, iv i2, iv i4, rv b2_2, iv i2]) rfl ?_
 refine g_goto X14 hx 8 (H d20_29) (by decide) (by decide) ?_
 refine g_iload X14 hx (H d20_8) rfl ?_
 refine g_iloadN X14 hx (H d20_10) rfl ?_
 refine g_icmpNo X14 hx (H d20_11) (tlt (by decide : (i2 < i4))).2.1 ?_
 refine g_aloadN X14 hx (H d20_14) rfl rfl ?_
 refine g_iload X14 hx (H d20_15) rfl ?_
 refine g_aloadN X14 hx (H d20_17) rfl rfl ?_
 refine g_iloadN X14 hx (H d20_18) rfl ?_
 have f_15 := (f_9.keep Kc14 (ninS (Nat.ne_of_lt (Nat.lt_of_lt_of_le V_a1.lt sz_b2_2)) nin0))
 obtain ⟨clq16, Arq16, caq16, saq16, naq16, haq16, gaq16⟩ := id f_15
 have inq16 : ¬ (i2 < 0 ∨ clq16.slots.size ≤ (i2).toNatClampNeg) := inb_of saq16 ⟨by decide, by decide⟩
 have atq16 : clq16.slots[(i2).toNatClampNeg]? = some (.int v2) := haq16.at inq16 rfl
 refine g_caload X14 hx hZ rfl Arq16 inq16 atq16 (H d20_19) ?_
 have f_17 := (staKeepA f_11 Kc14 (Arv.arn P8_0))
 have f_18 := (staKeepA f_12 Kc14 (Arv.arn P8_0))
 have f_19 := (staKeepA f_13 Kc14 (Arv.arn P8_0))
 refine g_static X14 hx hZ (rm2342_o l Z a0 hw b2_2 v2 (nar .byte ((v0 >>> (i0 &&& 31)).toInt8.toInt32)) (nar .byte ((v0 >>> (i8 &&& 31)).toInt8.toInt32)) (nar .byte ((v1 >>> (i0 &&& 31)).toInt8.toInt32)) (nar .byte ((v1 >>> (i8 &&& 31)).toInt8.toInt32)) i0 i0 i0 i0 k2_2 T14.heap n0 (Nat.le_trans Z0 K14.1) P14_0 f_17 f_18 f_19 g_b2_2) hown (tw98 hw) (tw99 hw) (tw74 hw) (tw100 hw) (by decide) 0 (by decide) (by decide) (by rw [hml]; rfl) [(.ref b2_2), (.int i2), (.int v2)] [] (lenOf pd_2 rfl) (Nat.le_of_eq rfl) rfl (by decide) (by decide) rfl rfl (H d20_20) fun v20 T20 Lc20 X20 hQ20 => ?_
 obtain ⟨rfl, N20q, Kc20, P20_0⟩ := hQ20
 have K20 : Keep h0 T20.heap [] := K14.trans Kc20 (allS (Or.inr sz_b2_2) all0)
 have N20 := Fr.app N14 N20q
 show Gs p e below _ T20 m 23 #[rv a1, iv i2, iv i4, rv b2_2, iv i2] []
 refine g_iinc X20 hx (H d20_23) rfl (l' := #[rv a1, iv i3, iv i4, rv b2_2, iv i2]) rfl ?_
 refine g_iinc X20 hx (H d20_26) rfl (l' := #[rv a1, iv i3, iv i4, rv b2_2, iv i3]) rfl ?_
 refine g_goto X20 hx 8 (H d20_29) (by decide) (by decide) ?_
 refine g_iload X20 hx (H d20_8) rfl ?_
 refine g_iloadN X20 hx (H d20_10) rfl ?_
 refine g_icmpNo X20 hx (H d20_11) (tlt (by decide : (i3 < i4))).2.1 ?_
 refine g_aloadN X20 hx (H d20_14) rfl rfl ?_
 refine g_iload X20 hx (H d20_15) rfl ?_
 refine g_aloadN X20 hx (H d20_17) rfl rfl ?_
 refine g_iloadN X20 hx (H d20_18) rfl ?_
 have f_21 := (f_15.keep Kc20 (ninS (Nat.ne_of_lt (Nat.lt_of_lt_of_le V_a1.lt sz_b2_2)) nin0))
 obtain ⟨clq22, Arq22, caq22, saq22, naq22, haq22, gaq22⟩ := id f_21
 have inq22 : ¬ (i3 < 0 ∨ clq22.slots.size ≤ (i3).toNatClampNeg) := inb_of saq22 ⟨by decide, by decide⟩
 have atq22 : clq22.slots[(i3).toNatClampNeg]? = some (.int v3) := haq22.at inq22 rfl
 refine g_caload X20 hx hZ rfl Arq22 inq22 atq22 (H d20_19) ?_
 have f_23 := (staKeepA f_17 Kc20 (Arv.arn P14_0))
 have f_24 := (staKeepA f_18 Kc20 (Arv.arn P14_0))
 have f_25 := (staKeepA f_19 Kc20 (Arv.arn P14_0))
 refine g_static X20 hx hZ (rm2343_o l Z a0 hw b2_2 v3 (nar .byte ((v0 >>> (i0 &&& 31)).toInt8.toInt32)) (nar .byte ((v0 >>> (i8 &&& 31)).toInt8.toInt32)) (nar .byte ((v1 >>> (i0 &&& 31)).toInt8.toInt32)) (nar .byte ((v1 >>> (i8 &&& 31)).toInt8.toInt32)) (nar .byte ((v2 >>> (i0 &&& 31)).toInt8.toInt32)) (nar .byte ((v2 >>> (i8 &&& 31)).toInt8.toInt32)) i0 i0 k2_2 T20.heap n0 (Nat.le_trans Z0 K20.1) P20_0 f_23 f_24 f_25 g_b2_2) hown (tw98 hw) (tw99 hw) (tw74 hw) (tw100 hw) (by decide) 0 (by decide) (by decide) (by rw [hml]; rfl) [(.ref b2_2), (.int i3), (.int v3)] [] (lenOf pd_2 rfl) (Nat.le_of_eq rfl) rfl (by decide) (by decide) rfl rfl (H d20_20) fun v26 T26 Lc26 X26 hQ26 => ?_
 obtain ⟨rfl, N26q, Kc26, P26_0⟩ := hQ26
 have K26 : Keep h0 T26.heap [] := K20.trans Kc26 (allS (Or.inr sz_b2_2) all0)
 have N26 := Fr.app N20 N26q
 show Gs p e below _ T26 m 23 #[rv a1, iv i3, iv i4, rv b2_2, iv i3] []
 refine g_iinc X26 hx (H d20_23) rfl (l' := #[rv a1, iv i4, iv i4, rv b2_2, iv i3]) rfl ?_
 refine g_iinc X26 hx (H d20_26) rfl (l' := #[rv a1, iv i4, iv i4, rv b2_2, iv i4]) rfl ?_
 refine g_goto X26 hx 8 (H d20_29) (by decide) (by decide) ?_
 refine g_iload X26 hx (H d20_8) rfl ?_
 refine g_iloadN X26 hx (H d20_10) rfl ?_
 refine g_icmpYes X26 hx 32 (H d20_11) (flt (by decide : ¬ (i4 < i4))).2.1 (by decide) (by decide) ?_
 refine g_aloadN X26 hx (H d20_32) rfl rfl ?_
 exact Go.ret (Q := Qm204_o Z a1 v0 v1 v2 v3 kc h0 n0) X26 (v := some (.ref b2_2)) (fun h => by rw [hret] at h; cases h) hlk (fun fs hr => retOut X26 hx hret rfl (Or.inr (Or.inr (Or.inr (Or.inr ⟨rfl, rfl, rfl⟩)))) (H d20_33) hr) rfl ⟨b2_2, k2_2, rfl, N26, K26, g_b2_2, sz_b2_2, P26_0⟩ (by decide) (by decide)
def Qm164_t (Z : State) (a1 : Addr) (a2 : Addr) (v0 : Int32) (v1 : Int32) (v2 : Int32) (v3 : Int32) (kc : ClassId) (kb : ClassId) (h0 : Heap) (n0 : Nat) (v : Option Value) (h : Heap) (L : List Loc) : Prop := v = some (.int i0) ∧ Fr n0 L ∧ h = h0
theorem rm164_t (l : Launch) (Z : State) (a0 : Array Value) (hw : Hw a0 Z) (a1 : Addr) (a2 : Addr) (v0 : Int32) (v1 : Int32) (v2 : Int32) (v3 : Int32) (kc : ClassId) (kb : ClassId) (h0 : Heap) (n0 : Nat) (Z0 : n0 ≤ h0.size) (V_a1 : Arv Z h0 a1 kc .char i4 [(.int v0), (.int v1), (.int v2), (.int v3)] (.int i0)) (hb0 : 0 ≤ v0.toInt ∧ v0.toInt ≤ 65535) (hb1 : 0 ≤ v1.toInt ∧ v1.toInt ≤ 65535) (hb2 : 0 ≤ v2.toInt ∧ v2.toInt ≤ 65535) (hb3 : 0 ≤ v3.toInt ∧ v3.toInt ≤ 65535) (V_a2 : Arv Z h0 a2 kb .byte i4 [(.int i0), (.int i0), (.int i0), (.int i0)] (.int i0)) (g_a2 : n0 ≤ a2) (hne_a1_a2 : ¬ (a1 = a2)) (hd1 : i255 < v0) :
  Met l Z h0 yy12 jdk_52_method_21_code 7 (some .int) (rmk 0 0 0 0) #[(.ref a1), (.int i0), (.ref a2), (.int i0), (.int i4)] (Qm164_t Z a1 a2 v0 v1 v2 v3 kc kb h0 n0) := by
 refine enter (plainFor_of_name pn_16) (fun m => ef_16 m a1 i0 a2 i0 i4) fun p e s m below meth c s₁ hx hby hml hown hnm hZ X0 e0 hret hlk => ?_
 have N0 := Fr.nil n0; have H := @hb c _ hby
 refine g_iconst X0 hx i0 (H d16_0) rfl ?_
 refine g_istore X0 hx (H d16_1) (l' := #[rv a1, iv i0, rv a2, iv i0, iv i4, iv i0, .unset]) rfl ?_
 refine g_iload X0 hx (H d16_3) rfl ?_
 refine g_iload X0 hx (H d16_5) rfl ?_
 refine g_icmpNo X0 hx (H d16_7) (tlt (by decide : (i0 < i4))).2.1 ?_
 refine g_aloadN X0 hx (H d16_10) rfl rfl ?_
 refine g_iloadN X0 hx (H d16_11) rfl ?_
 obtain ⟨clq3, Arq3, caq3, saq3, naq3, haq3, gaq3⟩ := id V_a1
 have inq3 : ¬ (i0 < 0 ∨ clq3.slots.size ≤ (i0).toNatClampNeg) := inb_of saq3 ⟨by decide, by decide⟩
 have atq3 : clq3.slots[(i0).toNatClampNeg]? = some (.int v0) := haq3.at inq3 rfl
 refine g_caload X0 hx hZ e0 Arq3 inq3 atq3 (H d16_12) ?_
 refine g_istore X0 hx (H d16_13) (l' := #[rv a1, iv i0, rv a2, iv i0, iv i4, iv i0, iv v0]) rfl ?_
 refine g_iload X0 hx (H d16_15) rfl ?_
 refine g_sipush X0 hx i255 (H d16_17) rfl ?_
 refine g_icmpNo X0 hx (H d16_20) (tlt hd1).2.2.2 ?_
 refine g_iload X0 hx (H d16_23) rfl ?_
 exact Go.ret (Q := Qm164_t Z a1 a2 v0 v1 v2 v3 kc kb h0 n0) X0 (v := some (.int i0)) (fun h => by rw [hret] at h; cases h) hlk (fun fs hr => retOut X0 hx hret rfl (Or.inl ⟨rfl, Or.inl rfl, _, rfl⟩) (H d16_25) hr) e0 ⟨rfl, N0, rfl⟩ (by decide) (by decide)
def Qm164_ft (Z : State) (a1 : Addr) (a2 : Addr) (v0 : Int32) (v1 : Int32) (v2 : Int32) (v3 : Int32) (kc : ClassId) (kb : ClassId) (h0 : Heap) (n0 : Nat) (v : Option Value) (h : Heap) (L : List Loc) : Prop := v = some (.int i1) ∧ Fr n0 L ∧ Keep h0 h [a2] ∧ Arn Z h a2 .byte i4
theorem rm164_ft (l : Launch) (Z : State) (a0 : Array Value) (hw : Hw a0 Z) (a1 : Addr) (a2 : Addr) (v0 : Int32) (v1 : Int32) (v2 : Int32) (v3 : Int32) (kc : ClassId) (kb : ClassId) (h0 : Heap) (n0 : Nat) (Z0 : n0 ≤ h0.size) (V_a1 : Arv Z h0 a1 kc .char i4 [(.int v0), (.int v1), (.int v2), (.int v3)] (.int i0)) (hb0 : 0 ≤ v0.toInt ∧ v0.toInt ≤ 65535) (hb1 : 0 ≤ v1.toInt ∧ v1.toInt ≤ 65535) (hb2 : 0 ≤ v2.toInt ∧ v2.toInt ≤ 65535) (hb3 : 0 ≤ v3.toInt ∧ v3.toInt ≤ 65535) (V_a2 : Arv Z h0 a2 kb .byte i4 [(.int i0), (.int i0), (.int i0), (.int i0)] (.int i0)) (g_a2 : n0 ≤ a2) (hne_a1_a2 : ¬ (a1 = a2)) (hd1 : ¬ (i255 < v0)) (hd2 : i255 < v1) :
  Met l Z h0 yy12 jdk_52_method_21_code 7 (some .int) (rmk 0 0 0 0) #[(.ref a1), (.int i0), (.ref a2), (.int i0), (.int i4)] (Qm164_ft Z a1 a2 v0 v1 v2 v3 kc kb h0 n0) := by
 refine enter (plainFor_of_name pn_16) (fun m => ef_16 m a1 i0 a2 i0 i4) fun p e s m below meth c s₁ hx hby hml hown hnm hZ X0 e0 hret hlk => ?_
 have N0 := Fr.nil n0; have H := @hb c _ hby
 refine g_iconst X0 hx i0 (H d16_0) rfl ?_
 refine g_istore X0 hx (H d16_1) (l' := #[rv a1, iv i0, rv a2, iv i0, iv i4, iv i0, .unset]) rfl ?_
 refine g_iload X0 hx (H d16_3) rfl ?_
 refine g_iload X0 hx (H d16_5) rfl ?_
 refine g_icmpNo X0 hx (H d16_7) (tlt (by decide : (i0 < i4))).2.1 ?_
 refine g_aloadN X0 hx (H d16_10) rfl rfl ?_
 refine g_iloadN X0 hx (H d16_11) rfl ?_
 obtain ⟨clq3, Arq3, caq3, saq3, naq3, haq3, gaq3⟩ := id V_a1
 have inq3 : ¬ (i0 < 0 ∨ clq3.slots.size ≤ (i0).toNatClampNeg) := inb_of saq3 ⟨by decide, by decide⟩
 have atq3 : clq3.slots[(i0).toNatClampNeg]? = some (.int v0) := haq3.at inq3 rfl
 refine g_caload X0 hx hZ e0 Arq3 inq3 atq3 (H d16_12) ?_
 refine g_istore X0 hx (H d16_13) (l' := #[rv a1, iv i0, rv a2, iv i0, iv i4, iv i0, iv v0]) rfl ?_
 refine g_iload X0 hx (H d16_15) rfl ?_
 refine g_sipush X0 hx i255 (H d16_17) rfl ?_
 refine g_icmpYes X0 hx 26 (H d16_20) (flt hd1).2.2.2 (by decide) (by decide) ?_
 refine g_aloadN X0 hx (H d16_26) rfl rfl ?_
 refine g_iloadN X0 hx (H d16_27) rfl ?_
 refine g_iload X0 hx (H d16_28) rfl ?_
 refine g_i2b X0 hx (H d16_30) ?_
 obtain ⟨clq4, Arq4, caq4, saq4, naq4, haq4, gaq4⟩ := id V_a2
 have inq4 : ¬ (i0 < 0 ∨ clq4.slots.size ≤ (i0).toNatClampNeg) := inb_of saq4 ⟨by decide, by decide⟩
 refine g_stB X0 hx hZ e0 Arq4 inq4 (H d16_31) fun T5 h5 X5 e5 W5 => ?_
 have K5 : Keep h0 h5 [a2] := (Keep.refl h0 [a2]).wr W5 (Or.inl (List.mem_of_getElem? (i := 0) rfl))
 have V5 : Arv Z h5 a2 kb .byte i4 [(.int (nar .byte (v0.toInt8.toInt32))), (.int i0), (.int i0), (.int i0)] (.int i0) := Arv.set Arq4 caq4 saq4 naq4 haq4 gaq4 (fits_nar_byte _) W5 0 rfl (Nat.le_of_ble_eq_true rfl)
 have N5 := Fr.snoc X5 N0 g_a2
 refine g_iinc X5 hx (H d16_32) rfl (l' := #[rv a1, iv i1, rv a2, iv i0, iv i4, iv i0, iv v0]) rfl ?_
 refine g_iinc X5 hx (H d16_35) rfl (l' := #[rv a1, iv i1, rv a2, iv i1, iv i4, iv i0, iv v0]) rfl ?_
 refine g_iinc X5 hx (H d16_38) rfl (l' := #[rv a1, iv i1, rv a2, iv i1, iv i4, iv i1, iv v0]) rfl ?_
 refine g_goto X5 hx 3 (H d16_41) (by decide) (by decide) ?_
 refine g_iload X5 hx (H d16_3) rfl ?_
 refine g_iload X5 hx (H d16_5) rfl ?_
 refine g_icmpNo X5 hx (H d16_7) (tlt (by decide : (i1 < i4))).2.1 ?_
 refine g_aloadN X5 hx (H d16_10) rfl rfl ?_
 refine g_iloadN X5 hx (H d16_11) rfl ?_
 have f_6 := (V_a1.keep K5 (ninS hne_a1_a2 nin0))
 obtain ⟨clq7, Arq7, caq7, saq7, naq7, haq7, gaq7⟩ := id f_6
 have inq7 : ¬ (i1 < 0 ∨ clq7.slots.size ≤ (i1).toNatClampNeg) := inb_of saq7 ⟨by decide, by decide⟩
 have atq7 : clq7.slots[(i1).toNatClampNeg]? = some (.int v1) := haq7.at inq7 rfl
 refine g_caload X5 hx hZ e5 Arq7 inq7 atq7 (H d16_12) ?_
 refine g_istore X5 hx (H d16_13) (l' := #[rv a1, iv i1, rv a2, iv i1, iv i4, iv i1, iv v1]) rfl ?_
 refine g_iload X5 hx (H d16_15) rfl ?_
 refine g_sipush X5 hx i255 (H d16_17) rfl ?_
 refine g_icmpNo X5 hx (H d16_20) (tlt hd2).2.2.2 ?_
 refine g_iload X5 hx (H d16_23) rfl ?_
 exact Go.ret (Q := Qm164_ft Z a1 a2 v0 v1 v2 v3 kc kb h0 n0) X5 (v := some (.int i1)) (fun h => by rw [hret] at h; cases h) hlk (fun fs hr => retOut X5 hx hret rfl (Or.inl ⟨rfl, Or.inl rfl, _, rfl⟩) (H d16_25) hr) e5 ⟨rfl, N5, K5, (Arv.arn V5)⟩ (by decide) (by decide)
def Qm164_fft (Z : State) (a1 : Addr) (a2 : Addr) (v0 : Int32) (v1 : Int32) (v2 : Int32) (v3 : Int32) (kc : ClassId) (kb : ClassId) (h0 : Heap) (n0 : Nat) (v : Option Value) (h : Heap) (L : List Loc) : Prop := v = some (.int i2) ∧ Fr n0 L ∧ Keep h0 h [a2] ∧ Arn Z h a2 .byte i4
theorem rm164_fft (l : Launch) (Z : State) (a0 : Array Value) (hw : Hw a0 Z) (a1 : Addr) (a2 : Addr) (v0 : Int32) (v1 : Int32) (v2 : Int32) (v3 : Int32) (kc : ClassId) (kb : ClassId) (h0 : Heap) (n0 : Nat) (Z0 : n0 ≤ h0.size) (V_a1 : Arv Z h0 a1 kc .char i4 [(.int v0), (.int v1), (.int v2), (.int v3)] (.int i0)) (hb0 : 0 ≤ v0.toInt ∧ v0.toInt ≤ 65535) (hb1 : 0 ≤ v1.toInt ∧ v1.toInt ≤ 65535) (hb2 : 0 ≤ v2.toInt ∧ v2.toInt ≤ 65535) (hb3 : 0 ≤ v3.toInt ∧ v3.toInt ≤ 65535) (V_a2 : Arv Z h0 a2 kb .byte i4 [(.int i0), (.int i0), (.int i0), (.int i0)] (.int i0)) (g_a2 : n0 ≤ a2) (hne_a1_a2 : ¬ (a1 = a2)) (hd1 : ¬ (i255 < v0)) (hd2 : ¬ (i255 < v1)) (hd3 : i255 < v2) :
  Met l Z h0 yy12 jdk_52_method_21_code 7 (some .int) (rmk 0 0 0 0) #[(.ref a1), (.int i0), (.ref a2), (.int i0), (.int i4)] (Qm164_fft Z a1 a2 v0 v1 v2 v3 kc kb h0 n0) := by
 refine enter (plainFor_of_name pn_16) (fun m => ef_16 m a1 i0 a2 i0 i4) fun p e s m below meth c s₁ hx hby hml hown hnm hZ X0 e0 hret hlk => ?_
 have N0 := Fr.nil n0; have H := @hb c _ hby
 refine g_iconst X0 hx i0 (H d16_0) rfl ?_
 refine g_istore X0 hx (H d16_1) (l' := #[rv a1, iv i0, rv a2, iv i0, iv i4, iv i0, .unset]) rfl ?_
 refine g_iload X0 hx (H d16_3) rfl ?_
 refine g_iload X0 hx (H d16_5) rfl ?_
 refine g_icmpNo X0 hx (H d16_7) (tlt (by decide : (i0 < i4))).2.1 ?_
 refine g_aloadN X0 hx (H d16_10) rfl rfl ?_
 refine g_iloadN X0 hx (H d16_11) rfl ?_
 obtain ⟨clq3, Arq3, caq3, saq3, naq3, haq3, gaq3⟩ := id V_a1
 have inq3 : ¬ (i0 < 0 ∨ clq3.slots.size ≤ (i0).toNatClampNeg) := inb_of saq3 ⟨by decide, by decide⟩
 have atq3 : clq3.slots[(i0).toNatClampNeg]? = some (.int v0) := haq3.at inq3 rfl
 refine g_caload X0 hx hZ e0 Arq3 inq3 atq3 (H d16_12) ?_
 refine g_istore X0 hx (H d16_13) (l' := #[rv a1, iv i0, rv a2, iv i0, iv i4, iv i0, iv v0]) rfl ?_
 refine g_iload X0 hx (H d16_15) rfl ?_
 refine g_sipush X0 hx i255 (H d16_17) rfl ?_
 refine g_icmpYes X0 hx 26 (H d16_20) (flt hd1).2.2.2 (by decide) (by decide) ?_
 refine g_aloadN X0 hx (H d16_26) rfl rfl ?_
 refine g_iloadN X0 hx (H d16_27) rfl ?_
 refine g_iload X0 hx (H d16_28) rfl ?_
 refine g_i2b X0 hx (H d16_30) ?_
 obtain ⟨clq4, Arq4, caq4, saq4, naq4, haq4, gaq4⟩ := id V_a2
 have inq4 : ¬ (i0 < 0 ∨ clq4.slots.size ≤ (i0).toNatClampNeg) := inb_of saq4 ⟨by decide, by decide⟩
 refine g_stB X0 hx hZ e0 Arq4 inq4 (H d16_31) fun T5 h5 X5 e5 W5 => ?_
 have K5 : Keep h0 h5 [a2] := (Keep.refl h0 [a2]).wr W5 (Or.inl (List.mem_of_getElem? (i := 0) rfl))
 have V5 : Arv Z h5 a2 kb .byte i4 [(.int (nar .byte (v0.toInt8.toInt32))), (.int i0), (.int i0), (.int i0)] (.int i0) := Arv.set Arq4 caq4 saq4 naq4 haq4 gaq4 (fits_nar_byte _) W5 0 rfl (Nat.le_of_ble_eq_true rfl)
 have N5 := Fr.snoc X5 N0 g_a2
 refine g_iinc X5 hx (H d16_32) rfl (l' := #[rv a1, iv i1, rv a2, iv i0, iv i4, iv i0, iv v0]) rfl ?_
 refine g_iinc X5 hx (H d16_35) rfl (l' := #[rv a1, iv i1, rv a2, iv i1, iv i4, iv i0, iv v0]) rfl ?_
 refine g_iinc X5 hx (H d16_38) rfl (l' := #[rv a1, iv i1, rv a2, iv i1, iv i4, iv i1, iv v0]) rfl ?_
 refine g_goto X5 hx 3 (H d16_41) (by decide) (by decide) ?_
 refine g_iload X5 hx (H d16_3) rfl ?_
 refine g_iload X5 hx (H d16_5) rfl ?_
 refine g_icmpNo X5 hx (H d16_7) (tlt (by decide : (i1 < i4))).2.1 ?_
 refine g_aloadN X5 hx (H d16_10) rfl rfl ?_
 refine g_iloadN X5 hx (H d16_11) rfl ?_
 have f_6 := (V_a1.keep K5 (ninS hne_a1_a2 nin0))
 obtain ⟨clq7, Arq7, caq7, saq7, naq7, haq7, gaq7⟩ := id f_6
 have inq7 : ¬ (i1 < 0 ∨ clq7.slots.size ≤ (i1).toNatClampNeg) := inb_of saq7 ⟨by decide, by decide⟩
 have atq7 : clq7.slots[(i1).toNatClampNeg]? = some (.int v1) := haq7.at inq7 rfl
 refine g_caload X5 hx hZ e5 Arq7 inq7 atq7 (H d16_12) ?_
 refine g_istore X5 hx (H d16_13) (l' := #[rv a1, iv i1, rv a2, iv i1, iv i4, iv i1, iv v1]) rfl ?_
 refine g_iload X5 hx (H d16_15) rfl ?_
 refine g_sipush X5 hx i255 (H d16_17) rfl ?_
 refine g_icmpYes X5 hx 26 (H d16_20) (flt hd2).2.2.2 (by decide) (by decide) ?_
 refine g_aloadN X5 hx (H d16_26) rfl rfl ?_
 refine g_iloadN X5 hx (H d16_27) rfl ?_
 refine g_iload X5 hx (H d16_28) rfl ?_
 refine g_i2b X5 hx (H d16_30) ?_
 obtain ⟨clq8, Arq8, caq8, saq8, naq8, haq8, gaq8⟩ := id V5
 have inq8 : ¬ (i1 < 0 ∨ clq8.slots.size ≤ (i1).toNatClampNeg) := inb_of saq8 ⟨by decide, by decide⟩
 refine g_stB X5 hx hZ e5 Arq8 inq8 (H d16_31) fun T9 h9 X9 e9 W9 => ?_
 have K9 : Keep h0 h9 [a2] := K5.wr W9 (Or.inl (List.mem_of_getElem? (i := 0) rfl))
 have V9 : Arv Z h9 a2 kb .byte i4 [(.int (nar .byte (v0.toInt8.toInt32))), (.int (nar .byte (v1.toInt8.toInt32))), (.int i0), (.int i0)] (.int i0) := Arv.set Arq8 caq8 saq8 naq8 haq8 gaq8 (fits_nar_byte _) W9 1 rfl (Nat.le_of_ble_eq_true rfl)
 have N9 := Fr.snoc X9 N5 g_a2
 refine g_iinc X9 hx (H d16_32) rfl (l' := #[rv a1, iv i2, rv a2, iv i1, iv i4, iv i1, iv v1]) rfl ?_
 refine g_iinc X9 hx (H d16_35) rfl (l' := #[rv a1, iv i2, rv a2, iv i2, iv i4, iv i1, iv v1]) rfl ?_
 refine g_iinc X9 hx (H d16_38) rfl (l' := #[rv a1, iv i2, rv a2, iv i2, iv i4, iv i2, iv v1]) rfl ?_
 refine g_goto X9 hx 3 (H d16_41) (by decide) (by decide) ?_
 refine g_iload X9 hx (H d16_3) rfl ?_
 refine g_iload X9 hx (H d16_5) rfl ?_
 refine g_icmpNo X9 hx (H d16_7) (tlt (by decide : (i2 < i4))).2.1 ?_
 refine g_aloadN X9 hx (H d16_10) rfl rfl ?_
 refine g_iloadN X9 hx (H d16_11) rfl ?_
 have f_10 := (f_6.other W9 hne_a1_a2)
 obtain ⟨clq11, Arq11, caq11, saq11, naq11, haq11, gaq11⟩ := id f_10
 have inq11 : ¬ (i2 < 0 ∨ clq11.slots.size ≤ (i2).toNatClampNeg) := inb_of saq11 ⟨by decide, by decide⟩
 have atq11 : clq11.slots[(i2).toNatClampNeg]? = some (.int v2) := haq11.at inq11 rfl
 refine g_caload X9 hx hZ e9 Arq11 inq11 atq11 (H d16_12) ?_
 refine g_istore X9 hx (H d16_13) (l' := #[rv a1, iv i2, rv a2, iv i2, iv i4, iv i2, iv v2]) rfl ?_
 refine g_iload X9 hx (H d16_15) rfl ?_
 refine g_sipush X9 hx i255 (H d16_17) rfl ?_
 refine g_icmpNo X9 hx (H d16_20) (tlt hd3).2.2.2 ?_
 refine g_iload X9 hx (H d16_23) rfl ?_
 exact Go.ret (Q := Qm164_fft Z a1 a2 v0 v1 v2 v3 kc kb h0 n0) X9 (v := some (.int i2)) (fun h => by rw [hret] at h; cases h) hlk (fun fs hr => retOut X9 hx hret rfl (Or.inl ⟨rfl, Or.inl rfl, _, rfl⟩) (H d16_25) hr) e9 ⟨rfl, N9, K9, (Arv.arn V9)⟩ (by decide) (by decide)
def Qm164_ffft (Z : State) (a1 : Addr) (a2 : Addr) (v0 : Int32) (v1 : Int32) (v2 : Int32) (v3 : Int32) (kc : ClassId) (kb : ClassId) (h0 : Heap) (n0 : Nat) (v : Option Value) (h : Heap) (L : List Loc) : Prop := v = some (.int i3) ∧ Fr n0 L ∧ Keep h0 h [a2] ∧ Arn Z h a2 .byte i4
theorem rm164_ffft (l : Launch) (Z : State) (a0 : Array Value) (hw : Hw a0 Z) (a1 : Addr) (a2 : Addr) (v0 : Int32) (v1 : Int32) (v2 : Int32) (v3 : Int32) (kc : ClassId) (kb : ClassId) (h0 : Heap) (n0 : Nat) (Z0 : n0 ≤ h0.size) (V_a1 : Arv Z h0 a1 kc .char i4 [(.int v0), (.int v1), (.int v2), (.int v3)] (.int i0)) (hb0 : 0 ≤ v0.toInt ∧ v0.toInt ≤ 65535) (hb1 : 0 ≤ v1.toInt ∧ v1.toInt ≤ 65535) (hb2 : 0 ≤ v2.toInt ∧ v2.toInt ≤ 65535) (hb3 : 0 ≤ v3.toInt ∧ v3.toInt ≤ 65535) (V_a2 : Arv Z h0 a2 kb .byte i4 [(.int i0), (.int i0), (.int i0), (.int i0)] (.int i0)) (g_a2 : n0 ≤ a2) (hne_a1_a2 : ¬ (a1 = a2)) (hd1 : ¬ (i255 < v0)) (hd2 : ¬ (i255 < v1)) (hd3 : ¬ (i255 < v2)) (hd4 : i255 < v3) :
  Met l Z h0 yy12 jdk_52_method_21_code 7 (some .int) (rmk 0 0 0 0) #[(.ref a1), (.int i0), (.ref a2), (.int i0), (.int i4)] (Qm164_ffft Z a1 a2 v0 v1 v2 v3 kc kb h0 n0) := by
 refine enter (plainFor_of_name pn_16) (fun m => ef_16 m a1 i0 a2 i0 i4) fun p e s m below meth c s₁ hx hby hml hown hnm hZ X0 e0 hret hlk => ?_
 have N0 := Fr.nil n0; have H := @hb c _ hby
 refine g_iconst X0 hx i0 (H d16_0) rfl ?_
 refine g_istore X0 hx (H d16_1) (l' := #[rv a1, iv i0, rv a2, iv i0, iv i4, iv i0, .unset]) rfl ?_
 refine g_iload X0 hx (H d16_3) rfl ?_
 refine g_iload X0 hx (H d16_5) rfl ?_
 refine g_icmpNo X0 hx (H d16_7) (tlt (by decide : (i0 < i4))).2.1 ?_
 refine g_aloadN X0 hx (H d16_10) rfl rfl ?_
 refine g_iloadN X0 hx (H d16_11) rfl ?_
 obtain ⟨clq3, Arq3, caq3, saq3, naq3, haq3, gaq3⟩ := id V_a1
 have inq3 : ¬ (i0 < 0 ∨ clq3.slots.size ≤ (i0).toNatClampNeg) := inb_of saq3 ⟨by decide, by decide⟩
 have atq3 : clq3.slots[(i0).toNatClampNeg]? = some (.int v0) := haq3.at inq3 rfl
 refine g_caload X0 hx hZ e0 Arq3 inq3 atq3 (H d16_12) ?_
 refine g_istore X0 hx (H d16_13) (l' := #[rv a1, iv i0, rv a2, iv i0, iv i4, iv i0, iv v0]) rfl ?_
 refine g_iload X0 hx (H d16_15) rfl ?_
 refine g_sipush X0 hx i255 (H d16_17) rfl ?_
 refine g_icmpYes X0 hx 26 (H d16_20) (flt hd1).2.2.2 (by decide) (by decide) ?_
 refine g_aloadN X0 hx (H d16_26) rfl rfl ?_
 refine g_iloadN X0 hx (H d16_27) rfl ?_
 refine g_iload X0 hx (H d16_28) rfl ?_
 refine g_i2b X0 hx (H d16_30) ?_
 obtain ⟨clq4, Arq4, caq4, saq4, naq4, haq4, gaq4⟩ := id V_a2
 have inq4 : ¬ (i0 < 0 ∨ clq4.slots.size ≤ (i0).toNatClampNeg) := inb_of saq4 ⟨by decide, by decide⟩
 refine g_stB X0 hx hZ e0 Arq4 inq4 (H d16_31) fun T5 h5 X5 e5 W5 => ?_
 have K5 : Keep h0 h5 [a2] := (Keep.refl h0 [a2]).wr W5 (Or.inl (List.mem_of_getElem? (i := 0) rfl))
 have V5 : Arv Z h5 a2 kb .byte i4 [(.int (nar .byte (v0.toInt8.toInt32))), (.int i0), (.int i0), (.int i0)] (.int i0) := Arv.set Arq4 caq4 saq4 naq4 haq4 gaq4 (fits_nar_byte _) W5 0 rfl (Nat.le_of_ble_eq_true rfl)
 have N5 := Fr.snoc X5 N0 g_a2
 refine g_iinc X5 hx (H d16_32) rfl (l' := #[rv a1, iv i1, rv a2, iv i0, iv i4, iv i0, iv v0]) rfl ?_
 refine g_iinc X5 hx (H d16_35) rfl (l' := #[rv a1, iv i1, rv a2, iv i1, iv i4, iv i0, iv v0]) rfl ?_
 refine g_iinc X5 hx (H d16_38) rfl (l' := #[rv a1, iv i1, rv a2, iv i1, iv i4, iv i1, iv v0]) rfl ?_
 refine g_goto X5 hx 3 (H d16_41) (by decide) (by decide) ?_
 refine g_iload X5 hx (H d16_3) rfl ?_
 refine g_iload X5 hx (H d16_5) rfl ?_
 refine g_icmpNo X5 hx (H d16_7) (tlt (by decide : (i1 < i4))).2.1 ?_
 refine g_aloadN X5 hx (H d16_10) rfl rfl ?_
 refine g_iloadN X5 hx (H d16_11) rfl ?_
 have f_6 := (V_a1.keep K5 (ninS hne_a1_a2 nin0))
 obtain ⟨clq7, Arq7, caq7, saq7, naq7, haq7, gaq7⟩ := id f_6
 have inq7 : ¬ (i1 < 0 ∨ clq7.slots.size ≤ (i1).toNatClampNeg) := inb_of saq7 ⟨by decide, by decide⟩
 have atq7 : clq7.slots[(i1).toNatClampNeg]? = some (.int v1) := haq7.at inq7 rfl
 refine g_caload X5 hx hZ e5 Arq7 inq7 atq7 (H d16_12) ?_
 refine g_istore X5 hx (H d16_13) (l' := #[rv a1, iv i1, rv a2, iv i1, iv i4, iv i1, iv v1]) rfl ?_
 refine g_iload X5 hx (H d16_15) rfl ?_
 refine g_sipush X5 hx i255 (H d16_17) rfl ?_
 refine g_icmpYes X5 hx 26 (H d16_20) (flt hd2).2.2.2 (by decide) (by decide) ?_
 refine g_aloadN X5 hx (H d16_26) rfl rfl ?_
 refine g_iloadN X5 hx (H d16_27) rfl ?_
 refine g_iload X5 hx (H d16_28) rfl ?_
 refine g_i2b X5 hx (H d16_30) ?_
 obtain ⟨clq8, Arq8, caq8, saq8, naq8, haq8, gaq8⟩ := id V5
 have inq8 : ¬ (i1 < 0 ∨ clq8.slots.size ≤ (i1).toNatClampNeg) := inb_of saq8 ⟨by decide, by decide⟩
 refine g_stB X5 hx hZ e5 Arq8 inq8 (H d16_31) fun T9 h9 X9 e9 W9 => ?_
 have K9 : Keep h0 h9 [a2] := K5.wr W9 (Or.inl (List.mem_of_getElem? (i := 0) rfl))
 have V9 : Arv Z h9 a2 kb .byte i4 [(.int (nar .byte (v0.toInt8.toInt32))), (.int (nar .byte (v1.toInt8.toInt32))), (.int i0), (.int i0)] (.int i0) := Arv.set Arq8 caq8 saq8 naq8 haq8 gaq8 (fits_nar_byte _) W9 1 rfl (Nat.le_of_ble_eq_true rfl)
 have N9 := Fr.snoc X9 N5 g_a2
 refine g_iinc X9 hx (H d16_32) rfl (l' := #[rv a1, iv i2, rv a2, iv i1, iv i4, iv i1, iv v1]) rfl ?_
 refine g_iinc X9 hx (H d16_35) rfl (l' := #[rv a1, iv i2, rv a2, iv i2, iv i4, iv i1, iv v1]) rfl ?_
 refine g_iinc X9 hx (H d16_38) rfl (l' := #[rv a1, iv i2, rv a2, iv i2, iv i4, iv i2, iv v1]) rfl ?_
 refine g_goto X9 hx 3 (H d16_41) (by decide) (by decide) ?_
 refine g_iload X9 hx (H d16_3) rfl ?_
 refine g_iload X9 hx (H d16_5) rfl ?_
 refine g_icmpNo X9 hx (H d16_7) (tlt (by decide : (i2 < i4))).2.1 ?_
 refine g_aloadN X9 hx (H d16_10) rfl rfl ?_
 refine g_iloadN X9 hx (H d16_11) rfl ?_
 have f_10 := (f_6.other W9 hne_a1_a2)
 obtain ⟨clq11, Arq11, caq11, saq11, naq11, haq11, gaq11⟩ := id f_10
 have inq11 : ¬ (i2 < 0 ∨ clq11.slots.size ≤ (i2).toNatClampNeg) := inb_of saq11 ⟨by decide, by decide⟩
 have atq11 : clq11.slots[(i2).toNatClampNeg]? = some (.int v2) := haq11.at inq11 rfl
 refine g_caload X9 hx hZ e9 Arq11 inq11 atq11 (H d16_12) ?_
 refine g_istore X9 hx (H d16_13) (l' := #[rv a1, iv i2, rv a2, iv i2, iv i4, iv i2, iv v2]) rfl ?_
 refine g_iload X9 hx (H d16_15) rfl ?_
 refine g_sipush X9 hx i255 (H d16_17) rfl ?_
 refine g_icmpYes X9 hx 26 (H d16_20) (flt hd3).2.2.2 (by decide) (by decide) ?_
 refine g_aloadN X9 hx (H d16_26) rfl rfl ?_
 refine g_iloadN X9 hx (H d16_27) rfl ?_
 refine g_iload X9 hx (H d16_28) rfl ?_
 refine g_i2b X9 hx (H d16_30) ?_
 obtain ⟨clq12, Arq12, caq12, saq12, naq12, haq12, gaq12⟩ := id V9
 have inq12 : ¬ (i2 < 0 ∨ clq12.slots.size ≤ (i2).toNatClampNeg) := inb_of saq12 ⟨by decide, by decide⟩
 refine g_stB X9 hx hZ e9 Arq12 inq12 (H d16_31) fun T13 h13 X13 e13 W13 => ?_
 have K13 : Keep h0 h13 [a2] := K9.wr W13 (Or.inl (List.mem_of_getElem? (i := 0) rfl))
 have V13 : Arv Z h13 a2 kb .byte i4 [(.int (nar .byte (v0.toInt8.toInt32))), (.int (nar .byte (v1.toInt8.toInt32))), (.int (nar .byte (v2.toInt8.toInt32))), (.int i0)] (.int i0) := Arv.set Arq12 caq12 saq12 naq12 haq12 gaq12 (fits_nar_byte _) W13 2 rfl (Nat.le_of_ble_eq_true rfl)
 have N13 := Fr.snoc X13 N9 g_a2
 refine g_iinc X13 hx (H d16_32) rfl (l' := #[rv a1, iv i3, rv a2, iv i2, iv i4, iv i2, iv v2]) rfl ?_
 refine g_iinc X13 hx (H d16_35) rfl (l' := #[rv a1, iv i3, rv a2, iv i3, iv i4, iv i2, iv v2]) rfl ?_
 refine g_iinc X13 hx (H d16_38) rfl (l' := #[rv a1, iv i3, rv a2, iv i3, iv i4, iv i3, iv v2]) rfl ?_
 refine g_goto X13 hx 3 (H d16_41) (by decide) (by decide) ?_
 refine g_iload X13 hx (H d16_3) rfl ?_
 refine g_iload X13 hx (H d16_5) rfl ?_
 refine g_icmpNo X13 hx (H d16_7) (tlt (by decide : (i3 < i4))).2.1 ?_
 refine g_aloadN X13 hx (H d16_10) rfl rfl ?_
 refine g_iloadN X13 hx (H d16_11) rfl ?_
 have f_14 := (f_10.other W13 hne_a1_a2)
 obtain ⟨clq15, Arq15, caq15, saq15, naq15, haq15, gaq15⟩ := id f_14
 have inq15 : ¬ (i3 < 0 ∨ clq15.slots.size ≤ (i3).toNatClampNeg) := inb_of saq15 ⟨by decide, by decide⟩
 have atq15 : clq15.slots[(i3).toNatClampNeg]? = some (.int v3) := haq15.at inq15 rfl
 refine g_caload X13 hx hZ e13 Arq15 inq15 atq15 (H d16_12) ?_
 refine g_istore X13 hx (H d16_13) (l' := #[rv a1, iv i3, rv a2, iv i3, iv i4, iv i3, iv v3]) rfl ?_
 refine g_iload X13 hx (H d16_15) rfl ?_
 refine g_sipush X13 hx i255 (H d16_17) rfl ?_
 refine g_icmpNo X13 hx (H d16_20) (tlt hd4).2.2.2 ?_
 refine g_iload X13 hx (H d16_23) rfl ?_
 exact Go.ret (Q := Qm164_ffft Z a1 a2 v0 v1 v2 v3 kc kb h0 n0) X13 (v := some (.int i3)) (fun h => by rw [hret] at h; cases h) hlk (fun fs hr => retOut X13 hx hret rfl (Or.inl ⟨rfl, Or.inl rfl, _, rfl⟩) (H d16_25) hr) e13 ⟨rfl, N13, K13, (Arv.arn V13)⟩ (by decide) (by decide)
def Qm164_ffff (Z : State) (a1 : Addr) (a2 : Addr) (v0 : Int32) (v1 : Int32) (v2 : Int32) (v3 : Int32) (kc : ClassId) (kb : ClassId) (h0 : Heap) (n0 : Nat) (v : Option Value) (h : Heap) (L : List Loc) : Prop := v = some (.int i4) ∧ Fr n0 L ∧ Keep h0 h [a2] ∧ Arv Z h a2 kb .byte i4 [(.int (nar .byte (v0.toInt8.toInt32))), (.int (nar .byte (v1.toInt8.toInt32))), (.int (nar .byte (v2.toInt8.toInt32))), (.int (nar .byte (v3.toInt8.toInt32)))] (.int i0)
theorem rm164_ffff (l : Launch) (Z : State) (a0 : Array Value) (hw : Hw a0 Z) (a1 : Addr) (a2 : Addr) (v0 : Int32) (v1 : Int32) (v2 : Int32) (v3 : Int32) (kc : ClassId) (kb : ClassId) (h0 : Heap) (n0 : Nat) (Z0 : n0 ≤ h0.size) (V_a1 : Arv Z h0 a1 kc .char i4 [(.int v0), (.int v1), (.int v2), (.int v3)] (.int i0)) (hb0 : 0 ≤ v0.toInt ∧ v0.toInt ≤ 65535) (hb1 : 0 ≤ v1.toInt ∧ v1.toInt ≤ 65535) (hb2 : 0 ≤ v2.toInt ∧ v2.toInt ≤ 65535) (hb3 : 0 ≤ v3.toInt ∧ v3.toInt ≤ 65535) (V_a2 : Arv Z h0 a2 kb .byte i4 [(.int i0), (.int i0), (.int i0), (.int i0)] (.int i0)) (g_a2 : n0 ≤ a2) (hne_a1_a2 : ¬ (a1 = a2)) (hd1 : ¬ (i255 < v0)) (hd2 : ¬ (i255 < v1)) (hd3 : ¬ (i255 < v2)) (hd4 : ¬ (i255 < v3)) :
  Met l Z h0 yy12 jdk_52_method_21_code 7 (some .int) (rmk 0 0 0 0) #[(.ref a1), (.int i0), (.ref a2), (.int i0), (.int i4)] (Qm164_ffff Z a1 a2 v0 v1 v2 v3 kc kb h0 n0) := by
 refine enter (plainFor_of_name pn_16) (fun m => ef_16 m a1 i0 a2 i0 i4) fun p e s m below meth c s₁ hx hby hml hown hnm hZ X0 e0 hret hlk => ?_
 have N0 := Fr.nil n0; have H := @hb c _ hby
 refine g_iconst X0 hx i0 (H d16_0) rfl ?_
 refine g_istore X0 hx (H d16_1) (l' := #[rv a1, iv i0, rv a2, iv i0, iv i4, iv i0, .unset]) rfl ?_
 refine g_iload X0 hx (H d16_3) rfl ?_
 refine g_iload X0 hx (H d16_5) rfl ?_
 refine g_icmpNo X0 hx (H d16_7) (tlt (by decide : (i0 < i4))).2.1 ?_
 refine g_aloadN X0 hx (H d16_10) rfl rfl ?_
 refine g_iloadN X0 hx (H d16_11) rfl ?_
 obtain ⟨clq3, Arq3, caq3, saq3, naq3, haq3, gaq3⟩ := id V_a1
 have inq3 : ¬ (i0 < 0 ∨ clq3.slots.size ≤ (i0).toNatClampNeg) := inb_of saq3 ⟨by decide, by decide⟩
 have atq3 : clq3.slots[(i0).toNatClampNeg]? = some (.int v0) := haq3.at inq3 rfl
 refine g_caload X0 hx hZ e0 Arq3 inq3 atq3 (H d16_12) ?_
 refine g_istore X0 hx (H d16_13) (l' := #[rv a1, iv i0, rv a2, iv i0, iv i4, iv i0, iv v0]) rfl ?_
 refine g_iload X0 hx (H d16_15) rfl ?_
 refine g_sipush X0 hx i255 (H d16_17) rfl ?_
 refine g_icmpYes X0 hx 26 (H d16_20) (flt hd1).2.2.2 (by decide) (by decide) ?_
 refine g_aloadN X0 hx (H d16_26) rfl rfl ?_
 refine g_iloadN X0 hx (H d16_27) rfl ?_
 refine g_iload X0 hx (H d16_28) rfl ?_
 refine g_i2b X0 hx (H d16_30) ?_
 obtain ⟨clq4, Arq4, caq4, saq4, naq4, haq4, gaq4⟩ := id V_a2
 have inq4 : ¬ (i0 < 0 ∨ clq4.slots.size ≤ (i0).toNatClampNeg) := inb_of saq4 ⟨by decide, by decide⟩
 refine g_stB X0 hx hZ e0 Arq4 inq4 (H d16_31) fun T5 h5 X5 e5 W5 => ?_
 have K5 : Keep h0 h5 [a2] := (Keep.refl h0 [a2]).wr W5 (Or.inl (List.mem_of_getElem? (i := 0) rfl))
 have V5 : Arv Z h5 a2 kb .byte i4 [(.int (nar .byte (v0.toInt8.toInt32))), (.int i0), (.int i0), (.int i0)] (.int i0) := Arv.set Arq4 caq4 saq4 naq4 haq4 gaq4 (fits_nar_byte _) W5 0 rfl (Nat.le_of_ble_eq_true rfl)
 have N5 := Fr.snoc X5 N0 g_a2
 refine g_iinc X5 hx (H d16_32) rfl (l' := #[rv a1, iv i1, rv a2, iv i0, iv i4, iv i0, iv v0]) rfl ?_
 refine g_iinc X5 hx (H d16_35) rfl (l' := #[rv a1, iv i1, rv a2, iv i1, iv i4, iv i0, iv v0]) rfl ?_
 refine g_iinc X5 hx (H d16_38) rfl (l' := #[rv a1, iv i1, rv a2, iv i1, iv i4, iv i1, iv v0]) rfl ?_
 refine g_goto X5 hx 3 (H d16_41) (by decide) (by decide) ?_
 refine g_iload X5 hx (H d16_3) rfl ?_
 refine g_iload X5 hx (H d16_5) rfl ?_
 refine g_icmpNo X5 hx (H d16_7) (tlt (by decide : (i1 < i4))).2.1 ?_
 refine g_aloadN X5 hx (H d16_10) rfl rfl ?_
 refine g_iloadN X5 hx (H d16_11) rfl ?_
 have f_6 := (V_a1.keep K5 (ninS hne_a1_a2 nin0))
 obtain ⟨clq7, Arq7, caq7, saq7, naq7, haq7, gaq7⟩ := id f_6
 have inq7 : ¬ (i1 < 0 ∨ clq7.slots.size ≤ (i1).toNatClampNeg) := inb_of saq7 ⟨by decide, by decide⟩
 have atq7 : clq7.slots[(i1).toNatClampNeg]? = some (.int v1) := haq7.at inq7 rfl
 refine g_caload X5 hx hZ e5 Arq7 inq7 atq7 (H d16_12) ?_
 refine g_istore X5 hx (H d16_13) (l' := #[rv a1, iv i1, rv a2, iv i1, iv i4, iv i1, iv v1]) rfl ?_
 refine g_iload X5 hx (H d16_15) rfl ?_
 refine g_sipush X5 hx i255 (H d16_17) rfl ?_
 refine g_icmpYes X5 hx 26 (H d16_20) (flt hd2).2.2.2 (by decide) (by decide) ?_
 refine g_aloadN X5 hx (H d16_26) rfl rfl ?_
 refine g_iloadN X5 hx (H d16_27) rfl ?_
 refine g_iload X5 hx (H d16_28) rfl ?_
 refine g_i2b X5 hx (H d16_30) ?_
 obtain ⟨clq8, Arq8, caq8, saq8, naq8, haq8, gaq8⟩ := id V5
 have inq8 : ¬ (i1 < 0 ∨ clq8.slots.size ≤ (i1).toNatClampNeg) := inb_of saq8 ⟨by decide, by decide⟩
 refine g_stB X5 hx hZ e5 Arq8 inq8 (H d16_31) fun T9 h9 X9 e9 W9 => ?_
 have K9 : Keep h0 h9 [a2] := K5.wr W9 (Or.inl (List.mem_of_getElem? (i := 0) rfl))
 have V9 : Arv Z h9 a2 kb .byte i4 [(.int (nar .byte (v0.toInt8.toInt32))), (.int (nar .byte (v1.toInt8.toInt32))), (.int i0), (.int i0)] (.int i0) := Arv.set Arq8 caq8 saq8 naq8 haq8 gaq8 (fits_nar_byte _) W9 1 rfl (Nat.le_of_ble_eq_true rfl)
 have N9 := Fr.snoc X9 N5 g_a2
 refine g_iinc X9 hx (H d16_32) rfl (l' := #[rv a1, iv i2, rv a2, iv i1, iv i4, iv i1, iv v1]) rfl ?_
 refine g_iinc X9 hx (H d16_35) rfl (l' := #[rv a1, iv i2, rv a2, iv i2, iv i4, iv i1, iv v1]) rfl ?_
 refine g_iinc X9 hx (H d16_38) rfl (l' := #[rv a1, iv i2, rv a2, iv i2, iv i4, iv i2, iv v1]) rfl ?_
 refine g_goto X9 hx 3 (H d16_41) (by decide) (by decide) ?_
 refine g_iload X9 hx (H d16_3) rfl ?_
 refine g_iload X9 hx (H d16_5) rfl ?_
 refine g_icmpNo X9 hx (H d16_7) (tlt (by decide : (i2 < i4))).2.1 ?_
 refine g_aloadN X9 hx (H d16_10) rfl rfl ?_
 refine g_iloadN X9 hx (H d16_11) rfl ?_
 have f_10 := (f_6.other W9 hne_a1_a2)
 obtain ⟨clq11, Arq11, caq11, saq11, naq11, haq11, gaq11⟩ := id f_10
 have inq11 : ¬ (i2 < 0 ∨ clq11.slots.size ≤ (i2).toNatClampNeg) := inb_of saq11 ⟨by decide, by decide⟩
 have atq11 : clq11.slots[(i2).toNatClampNeg]? = some (.int v2) := haq11.at inq11 rfl
 refine g_caload X9 hx hZ e9 Arq11 inq11 atq11 (H d16_12) ?_
 refine g_istore X9 hx (H d16_13) (l' := #[rv a1, iv i2, rv a2, iv i2, iv i4, iv i2, iv v2]) rfl ?_
 refine g_iload X9 hx (H d16_15) rfl ?_
 refine g_sipush X9 hx i255 (H d16_17) rfl ?_
 refine g_icmpYes X9 hx 26 (H d16_20) (flt hd3).2.2.2 (by decide) (by decide) ?_
 refine g_aloadN X9 hx (H d16_26) rfl rfl ?_
 refine g_iloadN X9 hx (H d16_27) rfl ?_
 refine g_iload X9 hx (H d16_28) rfl ?_
 refine g_i2b X9 hx (H d16_30) ?_
 obtain ⟨clq12, Arq12, caq12, saq12, naq12, haq12, gaq12⟩ := id V9
 have inq12 : ¬ (i2 < 0 ∨ clq12.slots.size ≤ (i2).toNatClampNeg) := inb_of saq12 ⟨by decide, by decide⟩
 refine g_stB X9 hx hZ e9 Arq12 inq12 (H d16_31) fun T13 h13 X13 e13 W13 => ?_
 have K13 : Keep h0 h13 [a2] := K9.wr W13 (Or.inl (List.mem_of_getElem? (i := 0) rfl))
 have V13 : Arv Z h13 a2 kb .byte i4 [(.int (nar .byte (v0.toInt8.toInt32))), (.int (nar .byte (v1.toInt8.toInt32))), (.int (nar .byte (v2.toInt8.toInt32))), (.int i0)] (.int i0) := Arv.set Arq12 caq12 saq12 naq12 haq12 gaq12 (fits_nar_byte _) W13 2 rfl (Nat.le_of_ble_eq_true rfl)
 have N13 := Fr.snoc X13 N9 g_a2
 refine g_iinc X13 hx (H d16_32) rfl (l' := #[rv a1, iv i3, rv a2, iv i2, iv i4, iv i2, iv v2]) rfl ?_
 refine g_iinc X13 hx (H d16_35) rfl (l' := #[rv a1, iv i3, rv a2, iv i3, iv i4, iv i2, iv v2]) rfl ?_
 refine g_iinc X13 hx (H d16_38) rfl (l' := #[rv a1, iv i3, rv a2, iv i3, iv i4, iv i3, iv v2]) rfl ?_
 refine g_goto X13 hx 3 (H d16_41) (by decide) (by decide) ?_
 refine g_iload X13 hx (H d16_3) rfl ?_
 refine g_iload X13 hx (H d16_5) rfl ?_
 refine g_icmpNo X13 hx (H d16_7) (tlt (by decide : (i3 < i4))).2.1 ?_
 refine g_aloadN X13 hx (H d16_10) rfl rfl ?_
 refine g_iloadN X13 hx (H d16_11) rfl ?_
 have f_14 := (f_10.other W13 hne_a1_a2)
 obtain ⟨clq15, Arq15, caq15, saq15, naq15, haq15, gaq15⟩ := id f_14
 have inq15 : ¬ (i3 < 0 ∨ clq15.slots.size ≤ (i3).toNatClampNeg) := inb_of saq15 ⟨by decide, by decide⟩
 have atq15 : clq15.slots[(i3).toNatClampNeg]? = some (.int v3) := haq15.at inq15 rfl
 refine g_caload X13 hx hZ e13 Arq15 inq15 atq15 (H d16_12) ?_
 refine g_istore X13 hx (H d16_13) (l' := #[rv a1, iv i3, rv a2, iv i3, iv i4, iv i3, iv v3]) rfl ?_
 refine g_iload X13 hx (H d16_15) rfl ?_
 refine g_sipush X13 hx i255 (H d16_17) rfl ?_
 refine g_icmpYes X13 hx 26 (H d16_20) (flt hd4).2.2.2 (by decide) (by decide) ?_
 refine g_aloadN X13 hx (H d16_26) rfl rfl ?_
 refine g_iloadN X13 hx (H d16_27) rfl ?_
 refine g_iload X13 hx (H d16_28) rfl ?_
 refine g_i2b X13 hx (H d16_30) ?_
 obtain ⟨clq16, Arq16, caq16, saq16, naq16, haq16, gaq16⟩ := id V13
 have inq16 : ¬ (i3 < 0 ∨ clq16.slots.size ≤ (i3).toNatClampNeg) := inb_of saq16 ⟨by decide, by decide⟩
 refine g_stB X13 hx hZ e13 Arq16 inq16 (H d16_31) fun T17 h17 X17 e17 W17 => ?_
 have K17 : Keep h0 h17 [a2] := K13.wr W17 (Or.inl (List.mem_of_getElem? (i := 0) rfl))
 have V17 : Arv Z h17 a2 kb .byte i4 [(.int (nar .byte (v0.toInt8.toInt32))), (.int (nar .byte (v1.toInt8.toInt32))), (.int (nar .byte (v2.toInt8.toInt32))), (.int (nar .byte (v3.toInt8.toInt32)))] (.int i0) := Arv.set Arq16 caq16 saq16 naq16 haq16 gaq16 (fits_nar_byte _) W17 3 rfl (Nat.le_of_ble_eq_true rfl)
 have N17 := Fr.snoc X17 N13 g_a2
 refine g_iinc X17 hx (H d16_32) rfl (l' := #[rv a1, iv i4, rv a2, iv i3, iv i4, iv i3, iv v3]) rfl ?_
 refine g_iinc X17 hx (H d16_35) rfl (l' := #[rv a1, iv i4, rv a2, iv i4, iv i4, iv i3, iv v3]) rfl ?_
 refine g_iinc X17 hx (H d16_38) rfl (l' := #[rv a1, iv i4, rv a2, iv i4, iv i4, iv i4, iv v3]) rfl ?_
 refine g_goto X17 hx 3 (H d16_41) (by decide) (by decide) ?_
 refine g_iload X17 hx (H d16_3) rfl ?_
 refine g_iload X17 hx (H d16_5) rfl ?_
 refine g_icmpYes X17 hx 44 (H d16_7) (flt (by decide : ¬ (i4 < i4))).2.1 (by decide) (by decide) ?_
 refine g_iload X17 hx (H d16_44) rfl ?_
 exact Go.ret (Q := Qm164_ffff Z a1 a2 v0 v1 v2 v3 kc kb h0 n0) X17 (v := some (.int i4)) (fun h => by rw [hret] at h; cases h) hlk (fun fs hr => retOut X17 hx hret rfl (Or.inl ⟨rfl, Or.inl rfl, _, rfl⟩) (H d16_46) hr) e17 ⟨rfl, N17, K17, V17⟩ (by decide) (by decide)
def Qm154_t (Z : State) (a1 : Addr) (v0 : Int32) (v1 : Int32) (v2 : Int32) (v3 : Int32) (kc : ClassId) (h0 : Heap) (n0 : Nat) (v : Option Value) (h : Heap) (L : List Loc) : Prop := ∃ (b2_2_8 : Addr) (k2_2_8 : ClassId), v = some (.ref b2_2_8) ∧ Fr n0 L ∧ Keep h0 h [] ∧ n0 ≤ b2_2_8 ∧ h0.size ≤ b2_2_8 ∧ Arv Z h b2_2_8 k2_2_8 .byte i8 [(.int (nar .byte ((v0 >>> (i0 &&& 31)).toInt8.toInt32))), (.int (nar .byte ((v0 >>> (i8 &&& 31)).toInt8.toInt32))), (.int (nar .byte ((v1 >>> (i0 &&& 31)).toInt8.toInt32))), (.int (nar .byte ((v1 >>> (i8 &&& 31)).toInt8.toInt32))), (.int (nar .byte ((v2 >>> (i0 &&& 31)).toInt8.toInt32))), (.int (nar .byte ((v2 >>> (i8 &&& 31)).toInt8.toInt32))), (.int (nar .byte ((v3 >>> (i0 &&& 31)).toInt8.toInt32))), (.int (nar .byte ((v3 >>> (i8 &&& 31)).toInt8.toInt32)))] (.int i0)
theorem rm154_t (l : Launch) (Z : State) (a0 : Array Value) (hw : Hw a0 Z) (a1 : Addr) (v0 : Int32) (v1 : Int32) (v2 : Int32) (v3 : Int32) (kc : ClassId) (h0 : Heap) (n0 : Nat) (Z0 : n0 ≤ h0.size) (V_a1 : Arv Z h0 a1 kc .char i4 [(.int v0), (.int v1), (.int v2), (.int v3)] (.int i0)) (hb0 : 0 ≤ v0.toInt ∧ v0.toInt ≤ 65535) (hb1 : 0 ≤ v1.toInt ∧ v1.toInt ≤ 65535) (hb2 : 0 ≤ v2.toInt ∧ v2.toInt ≤ 65535) (hb3 : 0 ≤ v3.toInt ∧ v3.toInt ≤ 65535) (S__assertionsDisabled : Sta Z h0 s1_ s2_ "Z" (.int i1)) (S_HI_BYTE_SHIFT : Sta Z h0 s1_ s3_ "I" (.int i0)) (S_LO_BYTE_SHIFT : Sta Z h0 s1_ s4_ "I" (.int i8)) (hd0 : i255 < v0) :
  Met l Z h0 yy13 jdk_52_method_16_code 6 (some (.array .byte)) (rmk 3 2 12 40) #[(.ref a1), (.int i0), (.int i4)] (Qm154_t Z a1 v0 v1 v2 v3 kc h0 n0) := by
 refine enter (plainFor_of_name pn_15) (fun m => ef_15 m a1 i0 i4) fun p e s m below meth c s₁ hx hby hml hown hnm hZ X0 e0 hret hlk => ?_
 have N0 := Fr.nil n0; have H := @hb c _ hby
 refine g_iloadN X0 hx (H d15_0) rfl ?_
 refine g_newP X0 hx hZ (H d15_1) (tw21 hw) e0 (by decide) 4 (by decide) (by decide) (by decide) (by decide) fun b2 T2 h2 k2 g2 X2 e2 E2 A2 => ?_
 have g_b2 : n0 ≤ b2 := Nat.le_trans Z0 (Nat.le_of_eq g2.symm)
 have sz_b2 : h0.size ≤ b2 := Nat.le_of_eq g2.symm
 have K2 : Keep h0 h2 [] := (Keep.refl h0 []).ext E2
 have V_b2 : Arv Z h2 b2 k2 .byte i4 [(.int i0), (.int i0), (.int i0), (.int i0)] (.int i0) := (Arv.new A2 (by decide)).pad (pad_rep [] (.int i0) 4)
 refine g_astoreN X2 hx (H d15_3) rfl (l' := #[rv a1, iv i0, iv i4, rv b2, .unset, .unset]) rfl ?_
 refine g_aloadN X2 hx (H d15_4) rfl rfl ?_
 refine g_iloadN X2 hx (H d15_5) rfl ?_
 refine g_aloadN X2 hx (H d15_6) rfl rfl ?_
 refine g_iconst X2 hx i0 (H d15_7) rfl ?_
 refine g_iloadN X2 hx (H d15_8) rfl ?_
 have f_3 := (V_a1.keep K2 nin0)
 refine g_static X2 hx hZ (rm164_t l Z a0 hw a1 b2 v0 v1 v2 v3 kc k2 h2 n0 (Nat.le_trans Z0 K2.1) f_3 hb0 hb1 hb2 hb3 V_b2 g_b2 (Nat.ne_of_lt (Nat.lt_of_lt_of_le V_a1.lt sz_b2)) hd0) hown (tw76 hw) (tw77 hw) (tw74 hw) (tw78 hw) (by decide) 0 (by decide) (by decide) (by rw [hml]; rfl) [(.ref a1), (.int i0), (.ref b2), (.int i0), (.int i4)] [] (lenOf pd_3 rfl) (Nat.le_of_eq rfl) e2 (by decide) (by decide) rfl rfl (H d15_9) fun v4 T4 Lc4 X4 hQ4 => ?_
 obtain ⟨rfl, N4q, eq4⟩ := hQ4
 have N4 := Fr.app N0 N4q
 show Gs p e below _ T4 m 12 #[rv a1, iv i0, iv i4, rv b2, .unset, .unset] [(.int i0)]
 refine g_istore X4 hx (H d15_12) (l' := #[rv a1, iv i0, iv i4, rv b2, iv i0, .unset]) rfl ?_
 refine g_iload X4 hx (H d15_14) rfl ?_
 refine g_iloadN X4 hx (H d15_16) rfl ?_
 refine g_icmpNo X4 hx (H d15_17) (feq (by decide : ¬ (i0 = i4))).1 ?_
 refine g_aloadN X4 hx (H d15_20) rfl rfl ?_
 refine g_iloadN X4 hx (H d15_21) rfl ?_
 refine g_iloadN X4 hx (H d15_22) rfl ?_
 have f_5 := (staKeep0 S__assertionsDisabled K2)
 have f_6 := (staKeep0 S_HI_BYTE_SHIFT K2)
 have f_7 := (staKeep0 S_LO_BYTE_SHIFT K2)
 refine g_static X4 hx hZ (rm204_o l Z a0 hw a1 v0 v1 v2 v3 kc h2 n0 (Nat.le_trans Z0 K2.1) f_3 hb0 hb1 hb2 hb3 f_5 f_6 f_7) hown (tw88 hw) (tw89 hw) (tw74 hw) (tw90 hw) (by decide) 0 (by decide) (by decide) (by rw [hml]; rfl) [(.ref a1), (.int i0), (.int i4)] [] (lenOf pd_4 rfl) (Nat.le_of_eq rfl) eq4 (by decide) (by decide) rfl rfl (H d15_23) fun v8 T8 Lc8 X8 hQ8 => ?_
 obtain ⟨b2_2_8, k2_2_8, rfl, N8q, Kc8, P8_0, P8_1, P8_2⟩ := hQ8
 have K8 : Keep h0 T8.heap [] := K2.trans Kc8 all0
 have g_b2_2_8 := P8_0
 have sz_b2_2_8 : h0.size ≤ b2_2_8 := Nat.le_trans K2.1 P8_1
 have lt_b2_b2_2_8 : b2 < b2_2_8 := Nat.lt_of_lt_of_le V_b2.lt P8_1
 have N8 := Fr.app N4 N8q
 show Gs p e below _ T8 m 26 #[rv a1, iv i0, iv i4, rv b2, iv i0, .unset] [(.ref b2_2_8)]
 refine g_astore X8 hx (H d15_26) rfl (l' := #[rv a1, iv i0, iv i4, rv b2, iv i0, rv b2_2_8]) rfl ?_
 refine g_aload X8 hx (H d15_28) rfl rfl ?_
 refine g_iload X8 hx (H d15_30) rfl ?_
 have f_9 := (staKeep0 f_5 Kc8)
 have f_10 := (staKeep0 f_6 Kc8)
 have f_11 := (staKeep0 f_7 Kc8)
 refine g_static X8 hx hZ (rm2440_o l Z a0 hw b2_2_8 (nar .byte ((v0 >>> (i0 &&& 31)).toInt8.toInt32)) (nar .byte ((v0 >>> (i8 &&& 31)).toInt8.toInt32)) (nar .byte ((v1 >>> (i0 &&& 31)).toInt8.toInt32)) (nar .byte ((v1 >>> (i8 &&& 31)).toInt8.toInt32)) (nar .byte ((v2 >>> (i0 &&& 31)).toInt8.toInt32)) (nar .byte ((v2 >>> (i8 &&& 31)).toInt8.toInt32)) (nar .byte ((v3 >>> (i0 &&& 31)).toInt8.toInt32)) (nar .byte ((v3 >>> (i8 &&& 31)).toInt8.toInt32)) k2_2_8 T8.heap n0 (Nat.le_trans Z0 K8.1) P8_2 f_9 f_10 f_11) hown (tw104 hw) (tw105 hw) (tw74 hw) (tw106 hw) (by decide) 0 (by decide) (by decide) (by rw [hml]; rfl) [(.ref b2_2_8), (.int i0)] [] (lenOf pd_5 rfl) (Nat.le_of_eq rfl) rfl (by decide) (by decide) rfl rfl (H d15_32) fun v12 T12 Lc12 X12 hQ12 => ?_
 obtain ⟨rfl, N12q, eq12⟩ := hQ12
 have N12 := Fr.app N8 N12q
 show Gs p e below _ T12 m 35 #[rv a1, iv i0, iv i4, rv b2, iv i0, rv b2_2_8] [(.int (nar .char (((((nar .byte ((v0 >>> (i0 &&& 31)).toInt8.toInt32)) &&& i255) <<< (i0 &&& 31)) ||| (((nar .byte ((v0 >>> (i8 &&& 31)).toInt8.toInt32)) &&& i255) <<< (i8 &&& 31))).toUInt32.toUInt16.toUInt32.toInt32)))]
 refine g_sipush X12 hx i255 (H d15_35) rfl ?_
 refine g_icmpYes X12 hx 54 (H d15_38) (tlt (own_gt hb0 hd0)).2.2.1 (by decide) (by decide) ?_
 refine g_aload X12 hx (H d15_54) rfl rfl ?_
 exact Go.ret (Q := Qm154_t Z a1 v0 v1 v2 v3 kc h0 n0) X12 (v := some (.ref b2_2_8)) (fun h => by rw [hret] at h; cases h) hlk (fun fs hr => retOut X12 hx hret rfl (Or.inr (Or.inr (Or.inr (Or.inr ⟨rfl, rfl, rfl⟩)))) (H d15_56) hr) eq12 ⟨b2_2_8, k2_2_8, rfl, N12, K8, g_b2_2_8, sz_b2_2_8, P8_2⟩ (by decide) (by decide)
def Qm154_ft (Z : State) (a1 : Addr) (v0 : Int32) (v1 : Int32) (v2 : Int32) (v3 : Int32) (kc : ClassId) (h0 : Heap) (n0 : Nat) (v : Option Value) (h : Heap) (L : List Loc) : Prop := ∃ (b2_2_9 : Addr) (k2_2_9 : ClassId), v = some (.ref b2_2_9) ∧ Fr n0 L ∧ Keep h0 h [] ∧ n0 ≤ b2_2_9 ∧ h0.size ≤ b2_2_9 ∧ Arv Z h b2_2_9 k2_2_9 .byte i8 [(.int (nar .byte ((v0 >>> (i0 &&& 31)).toInt8.toInt32))), (.int (nar .byte ((v0 >>> (i8 &&& 31)).toInt8.toInt32))), (.int (nar .byte ((v1 >>> (i0 &&& 31)).toInt8.toInt32))), (.int (nar .byte ((v1 >>> (i8 &&& 31)).toInt8.toInt32))), (.int (nar .byte ((v2 >>> (i0 &&& 31)).toInt8.toInt32))), (.int (nar .byte ((v2 >>> (i8 &&& 31)).toInt8.toInt32))), (.int (nar .byte ((v3 >>> (i0 &&& 31)).toInt8.toInt32))), (.int (nar .byte ((v3 >>> (i8 &&& 31)).toInt8.toInt32)))] (.int i0)
theorem rm154_ft (l : Launch) (Z : State) (a0 : Array Value) (hw : Hw a0 Z) (a1 : Addr) (v0 : Int32) (v1 : Int32) (v2 : Int32) (v3 : Int32) (kc : ClassId) (h0 : Heap) (n0 : Nat) (Z0 : n0 ≤ h0.size) (V_a1 : Arv Z h0 a1 kc .char i4 [(.int v0), (.int v1), (.int v2), (.int v3)] (.int i0)) (hb0 : 0 ≤ v0.toInt ∧ v0.toInt ≤ 65535) (hb1 : 0 ≤ v1.toInt ∧ v1.toInt ≤ 65535) (hb2 : 0 ≤ v2.toInt ∧ v2.toInt ≤ 65535) (hb3 : 0 ≤ v3.toInt ∧ v3.toInt ≤ 65535) (S__assertionsDisabled : Sta Z h0 s1_ s2_ "Z" (.int i1)) (S_HI_BYTE_SHIFT : Sta Z h0 s1_ s3_ "I" (.int i0)) (S_LO_BYTE_SHIFT : Sta Z h0 s1_ s4_ "I" (.int i8)) (hd0 : ¬ (i255 < v0)) (hd1 : i255 < v1) :
  Met l Z h0 yy13 jdk_52_method_16_code 6 (some (.array .byte)) (rmk 3 2 12 40) #[(.ref a1), (.int i0), (.int i4)] (Qm154_ft Z a1 v0 v1 v2 v3 kc h0 n0) := by
 refine enter (plainFor_of_name pn_15) (fun m => ef_15 m a1 i0 i4) fun p e s m below meth c s₁ hx hby hml hown hnm hZ X0 e0 hret hlk => ?_
 have N0 := Fr.nil n0; have H := @hb c _ hby
 refine g_iloadN X0 hx (H d15_0) rfl ?_
 refine g_newP X0 hx hZ (H d15_1) (tw21 hw) e0 (by decide) 4 (by decide) (by decide) (by decide) (by decide) fun b2 T2 h2 k2 g2 X2 e2 E2 A2 => ?_
 have g_b2 : n0 ≤ b2 := Nat.le_trans Z0 (Nat.le_of_eq g2.symm)
 have sz_b2 : h0.size ≤ b2 := Nat.le_of_eq g2.symm
 have K2 : Keep h0 h2 [] := (Keep.refl h0 []).ext E2
 have V_b2 : Arv Z h2 b2 k2 .byte i4 [(.int i0), (.int i0), (.int i0), (.int i0)] (.int i0) := (Arv.new A2 (by decide)).pad (pad_rep [] (.int i0) 4)
 refine g_astoreN X2 hx (H d15_3) rfl (l' := #[rv a1, iv i0, iv i4, rv b2, .unset, .unset]) rfl ?_
 refine g_aloadN X2 hx (H d15_4) rfl rfl ?_
 refine g_iloadN X2 hx (H d15_5) rfl ?_
 refine g_aloadN X2 hx (H d15_6) rfl rfl ?_
 refine g_iconst X2 hx i0 (H d15_7) rfl ?_
 refine g_iloadN X2 hx (H d15_8) rfl ?_
 have f_3 := (V_a1.keep K2 nin0)
 refine g_static X2 hx hZ (rm164_ft l Z a0 hw a1 b2 v0 v1 v2 v3 kc k2 h2 n0 (Nat.le_trans Z0 K2.1) f_3 hb0 hb1 hb2 hb3 V_b2 g_b2 (Nat.ne_of_lt (Nat.lt_of_lt_of_le V_a1.lt sz_b2)) hd0 hd1) hown (tw76 hw) (tw77 hw) (tw74 hw) (tw78 hw) (by decide) 0 (by decide) (by decide) (by rw [hml]; rfl) [(.ref a1), (.int i0), (.ref b2), (.int i0), (.int i4)] [] (lenOf pd_3 rfl) (Nat.le_of_eq rfl) e2 (by decide) (by decide) rfl rfl (H d15_9) fun v4 T4 Lc4 X4 hQ4 => ?_
 obtain ⟨rfl, N4q, Kc4, P4_0⟩ := hQ4
 have K4 : Keep h0 T4.heap [] := K2.trans Kc4 (allS (Or.inr sz_b2) all0)
 have N4 := Fr.app N0 N4q
 show Gs p e below _ T4 m 12 #[rv a1, iv i0, iv i4, rv b2, .unset, .unset] [(.int i1)]
 refine g_istore X4 hx (H d15_12) (l' := #[rv a1, iv i0, iv i4, rv b2, iv i1, .unset]) rfl ?_
 refine g_iload X4 hx (H d15_14) rfl ?_
 refine g_iloadN X4 hx (H d15_16) rfl ?_
 refine g_icmpNo X4 hx (H d15_17) (feq (by decide : ¬ (i1 = i4))).1 ?_
 refine g_aloadN X4 hx (H d15_20) rfl rfl ?_
 refine g_iloadN X4 hx (H d15_21) rfl ?_
 refine g_iloadN X4 hx (H d15_22) rfl ?_
 have f_5 := (f_3.keep Kc4 (ninS (Nat.ne_of_lt (Nat.lt_of_lt_of_le V_a1.lt sz_b2)) nin0))
 have f_6 := (staKeep0 S__assertionsDisabled K4)
 have f_7 := (staKeep0 S_HI_BYTE_SHIFT K4)
 have f_8 := (staKeep0 S_LO_BYTE_SHIFT K4)
 refine g_static X4 hx hZ (rm204_o l Z a0 hw a1 v0 v1 v2 v3 kc T4.heap n0 (Nat.le_trans Z0 K4.1) f_5 hb0 hb1 hb2 hb3 f_6 f_7 f_8) hown (tw88 hw) (tw89 hw) (tw74 hw) (tw90 hw) (by decide) 0 (by decide) (by decide) (by rw [hml]; rfl) [(.ref a1), (.int i0), (.int i4)] [] (lenOf pd_4 rfl) (Nat.le_of_eq rfl) rfl (by decide) (by decide) rfl rfl (H d15_23) fun v9 T9 Lc9 X9 hQ9 => ?_
 obtain ⟨b2_2_9, k2_2_9, rfl, N9q, Kc9, P9_0, P9_1, P9_2⟩ := hQ9
 have K9 : Keep h0 T9.heap [] := K4.trans Kc9 all0
 have g_b2_2_9 := P9_0
 have sz_b2_2_9 : h0.size ≤ b2_2_9 := Nat.le_trans K4.1 P9_1
 have lt_b2_b2_2_9 : b2 < b2_2_9 := Nat.lt_of_lt_of_le P4_0.lt P9_1
 have N9 := Fr.app N4 N9q
 show Gs p e below _ T9 m 26 #[rv a1, iv i0, iv i4, rv b2, iv i1, .unset] [(.ref b2_2_9)]
 refine g_astore X9 hx (H d15_26) rfl (l' := #[rv a1, iv i0, iv i4, rv b2, iv i1, rv b2_2_9]) rfl ?_
 refine g_aload X9 hx (H d15_28) rfl rfl ?_
 refine g_iload X9 hx (H d15_30) rfl ?_
 have f_10 := (staKeep0 f_6 Kc9)
 have f_11 := (staKeep0 f_7 Kc9)
 have f_12 := (staKeep0 f_8 Kc9)
 refine g_static X9 hx hZ (rm2441_o l Z a0 hw b2_2_9 (nar .byte ((v0 >>> (i0 &&& 31)).toInt8.toInt32)) (nar .byte ((v0 >>> (i8 &&& 31)).toInt8.toInt32)) (nar .byte ((v1 >>> (i0 &&& 31)).toInt8.toInt32)) (nar .byte ((v1 >>> (i8 &&& 31)).toInt8.toInt32)) (nar .byte ((v2 >>> (i0 &&& 31)).toInt8.toInt32)) (nar .byte ((v2 >>> (i8 &&& 31)).toInt8.toInt32)) (nar .byte ((v3 >>> (i0 &&& 31)).toInt8.toInt32)) (nar .byte ((v3 >>> (i8 &&& 31)).toInt8.toInt32)) k2_2_9 T9.heap n0 (Nat.le_trans Z0 K9.1) P9_2 f_10 f_11 f_12) hown (tw104 hw) (tw105 hw) (tw74 hw) (tw106 hw) (by decide) 0 (by decide) (by decide) (by rw [hml]; rfl) [(.ref b2_2_9), (.int i1)] [] (lenOf pd_5 rfl) (Nat.le_of_eq rfl) rfl (by decide) (by decide) rfl rfl (H d15_32) fun v13 T13 Lc13 X13 hQ13 => ?_
 obtain ⟨rfl, N13q, eq13⟩ := hQ13
 have N13 := Fr.app N9 N13q
 show Gs p e below _ T13 m 35 #[rv a1, iv i0, iv i4, rv b2, iv i1, rv b2_2_9] [(.int (nar .char (((((nar .byte ((v1 >>> (i0 &&& 31)).toInt8.toInt32)) &&& i255) <<< (i0 &&& 31)) ||| (((nar .byte ((v1 >>> (i8 &&& 31)).toInt8.toInt32)) &&& i255) <<< (i8 &&& 31))).toUInt32.toUInt16.toUInt32.toInt32)))]
 refine g_sipush X13 hx i255 (H d15_35) rfl ?_
 refine g_icmpYes X13 hx 54 (H d15_38) (tlt (own_gt hb1 hd1)).2.2.1 (by decide) (by decide) ?_
 refine g_aload X13 hx (H d15_54) rfl rfl ?_
 exact Go.ret (Q := Qm154_ft Z a1 v0 v1 v2 v3 kc h0 n0) X13 (v := some (.ref b2_2_9)) (fun h => by rw [hret] at h; cases h) hlk (fun fs hr => retOut X13 hx hret rfl (Or.inr (Or.inr (Or.inr (Or.inr ⟨rfl, rfl, rfl⟩)))) (H d15_56) hr) eq13 ⟨b2_2_9, k2_2_9, rfl, N13, K9, g_b2_2_9, sz_b2_2_9, P9_2⟩ (by decide) (by decide)
def Qm154_fft (Z : State) (a1 : Addr) (v0 : Int32) (v1 : Int32) (v2 : Int32) (v3 : Int32) (kc : ClassId) (h0 : Heap) (n0 : Nat) (v : Option Value) (h : Heap) (L : List Loc) : Prop := ∃ (b2_2_9 : Addr) (k2_2_9 : ClassId), v = some (.ref b2_2_9) ∧ Fr n0 L ∧ Keep h0 h [] ∧ n0 ≤ b2_2_9 ∧ h0.size ≤ b2_2_9 ∧ Arv Z h b2_2_9 k2_2_9 .byte i8 [(.int (nar .byte ((v0 >>> (i0 &&& 31)).toInt8.toInt32))), (.int (nar .byte ((v0 >>> (i8 &&& 31)).toInt8.toInt32))), (.int (nar .byte ((v1 >>> (i0 &&& 31)).toInt8.toInt32))), (.int (nar .byte ((v1 >>> (i8 &&& 31)).toInt8.toInt32))), (.int (nar .byte ((v2 >>> (i0 &&& 31)).toInt8.toInt32))), (.int (nar .byte ((v2 >>> (i8 &&& 31)).toInt8.toInt32))), (.int (nar .byte ((v3 >>> (i0 &&& 31)).toInt8.toInt32))), (.int (nar .byte ((v3 >>> (i8 &&& 31)).toInt8.toInt32)))] (.int i0)
theorem rm154_fft (l : Launch) (Z : State) (a0 : Array Value) (hw : Hw a0 Z) (a1 : Addr) (v0 : Int32) (v1 : Int32) (v2 : Int32) (v3 : Int32) (kc : ClassId) (h0 : Heap) (n0 : Nat) (Z0 : n0 ≤ h0.size) (V_a1 : Arv Z h0 a1 kc .char i4 [(.int v0), (.int v1), (.int v2), (.int v3)] (.int i0)) (hb0 : 0 ≤ v0.toInt ∧ v0.toInt ≤ 65535) (hb1 : 0 ≤ v1.toInt ∧ v1.toInt ≤ 65535) (hb2 : 0 ≤ v2.toInt ∧ v2.toInt ≤ 65535) (hb3 : 0 ≤ v3.toInt ∧ v3.toInt ≤ 65535) (S__assertionsDisabled : Sta Z h0 s1_ s2_ "Z" (.int i1)) (S_HI_BYTE_SHIFT : Sta Z h0 s1_ s3_ "I" (.int i0)) (S_LO_BYTE_SHIFT : Sta Z h0 s1_ s4_ "I" (.int i8)) (hd0 : ¬ (i255 < v0)) (hd1 : ¬ (i255 < v1)) (hd2 : i255 < v2) :
  Met l Z h0 yy13 jdk_52_method_16_code 6 (some (.array .byte)) (rmk 3 2 12 40) #[(.ref a1), (.int i0), (.int i4)] (Qm154_fft Z a1 v0 v1 v2 v3 kc h0 n0) := by
 refine enter (plainFor_of_name pn_15) (fun m => ef_15 m a1 i0 i4) fun p e s m below meth c s₁ hx hby hml hown hnm hZ X0 e0 hret hlk => ?_
 have N0 := Fr.nil n0; have H := @hb c _ hby
 refine g_iloadN X0 hx (H d15_0) rfl ?_
 refine g_newP X0 hx hZ (H d15_1) (tw21 hw) e0 (by decide) 4 (by decide) (by decide) (by decide) (by decide) fun b2 T2 h2 k2 g2 X2 e2 E2 A2 => ?_
 have g_b2 : n0 ≤ b2 := Nat.le_trans Z0 (Nat.le_of_eq g2.symm)
 have sz_b2 : h0.size ≤ b2 := Nat.le_of_eq g2.symm
 have K2 : Keep h0 h2 [] := (Keep.refl h0 []).ext E2
 have V_b2 : Arv Z h2 b2 k2 .byte i4 [(.int i0), (.int i0), (.int i0), (.int i0)] (.int i0) := (Arv.new A2 (by decide)).pad (pad_rep [] (.int i0) 4)
 refine g_astoreN X2 hx (H d15_3) rfl (l' := #[rv a1, iv i0, iv i4, rv b2, .unset, .unset]) rfl ?_
 refine g_aloadN X2 hx (H d15_4) rfl rfl ?_
 refine g_iloadN X2 hx (H d15_5) rfl ?_
 refine g_aloadN X2 hx (H d15_6) rfl rfl ?_
 refine g_iconst X2 hx i0 (H d15_7) rfl ?_
 refine g_iloadN X2 hx (H d15_8) rfl ?_
 have f_3 := (V_a1.keep K2 nin0)
 refine g_static X2 hx hZ (rm164_fft l Z a0 hw a1 b2 v0 v1 v2 v3 kc k2 h2 n0 (Nat.le_trans Z0 K2.1) f_3 hb0 hb1 hb2 hb3 V_b2 g_b2 (Nat.ne_of_lt (Nat.lt_of_lt_of_le V_a1.lt sz_b2)) hd0 hd1 hd2) hown (tw76 hw) (tw77 hw) (tw74 hw) (tw78 hw) (by decide) 0 (by decide) (by decide) (by rw [hml]; rfl) [(.ref a1), (.int i0), (.ref b2), (.int i0), (.int i4)] [] (lenOf pd_3 rfl) (Nat.le_of_eq rfl) e2 (by decide) (by decide) rfl rfl (H d15_9) fun v4 T4 Lc4 X4 hQ4 => ?_
 obtain ⟨rfl, N4q, Kc4, P4_0⟩ := hQ4
 have K4 : Keep h0 T4.heap [] := K2.trans Kc4 (allS (Or.inr sz_b2) all0)
 have N4 := Fr.app N0 N4q
 show Gs p e below _ T4 m 12 #[rv a1, iv i0, iv i4, rv b2, .unset, .unset] [(.int i2)]
 refine g_istore X4 hx (H d15_12) (l' := #[rv a1, iv i0, iv i4, rv b2, iv i2, .unset]) rfl ?_
 refine g_iload X4 hx (H d15_14) rfl ?_
 refine g_iloadN X4 hx (H d15_16) rfl ?_
 refine g_icmpNo X4 hx (H d15_17) (feq (by decide : ¬ (i2 = i4))).1 ?_
 refine g_aloadN X4 hx (H d15_20) rfl rfl ?_
 refine g_iloadN X4 hx (H d15_21) rfl ?_
 refine g_iloadN X4 hx (H d15_22) rfl ?_
 have f_5 := (f_3.keep Kc4 (ninS (Nat.ne_of_lt (Nat.lt_of_lt_of_le V_a1.lt sz_b2)) nin0))
 have f_6 := (staKeep0 S__assertionsDisabled K4)
 have f_7 := (staKeep0 S_HI_BYTE_SHIFT K4)
 have f_8 := (staKeep0 S_LO_BYTE_SHIFT K4)
 refine g_static X4 hx hZ (rm204_o l Z a0 hw a1 v0 v1 v2 v3 kc T4.heap n0 (Nat.le_trans Z0 K4.1) f_5 hb0 hb1 hb2 hb3 f_6 f_7 f_8) hown (tw88 hw) (tw89 hw) (tw74 hw) (tw90 hw) (by decide) 0 (by decide) (by decide) (by rw [hml]; rfl) [(.ref a1), (.int i0), (.int i4)] [] (lenOf pd_4 rfl) (Nat.le_of_eq rfl) rfl (by decide) (by decide) rfl rfl (H d15_23) fun v9 T9 Lc9 X9 hQ9 => ?_
 obtain ⟨b2_2_9, k2_2_9, rfl, N9q, Kc9, P9_0, P9_1, P9_2⟩ := hQ9
 have K9 : Keep h0 T9.heap [] := K4.trans Kc9 all0
 have g_b2_2_9 := P9_0
 have sz_b2_2_9 : h0.size ≤ b2_2_9 := Nat.le_trans K4.1 P9_1
 have lt_b2_b2_2_9 : b2 < b2_2_9 := Nat.lt_of_lt_of_le P4_0.lt P9_1
 have N9 := Fr.app N4 N9q
 show Gs p e below _ T9 m 26 #[rv a1, iv i0, iv i4, rv b2, iv i2, .unset] [(.ref b2_2_9)]
 refine g_astore X9 hx (H d15_26) rfl (l' := #[rv a1, iv i0, iv i4, rv b2, iv i2, rv b2_2_9]) rfl ?_
 refine g_aload X9 hx (H d15_28) rfl rfl ?_
 refine g_iload X9 hx (H d15_30) rfl ?_
 have f_10 := (staKeep0 f_6 Kc9)
 have f_11 := (staKeep0 f_7 Kc9)
 have f_12 := (staKeep0 f_8 Kc9)
 refine g_static X9 hx hZ (rm2442_o l Z a0 hw b2_2_9 (nar .byte ((v0 >>> (i0 &&& 31)).toInt8.toInt32)) (nar .byte ((v0 >>> (i8 &&& 31)).toInt8.toInt32)) (nar .byte ((v1 >>> (i0 &&& 31)).toInt8.toInt32)) (nar .byte ((v1 >>> (i8 &&& 31)).toInt8.toInt32)) (nar .byte ((v2 >>> (i0 &&& 31)).toInt8.toInt32)) (nar .byte ((v2 >>> (i8 &&& 31)).toInt8.toInt32)) (nar .byte ((v3 >>> (i0 &&& 31)).toInt8.toInt32)) (nar .byte ((v3 >>> (i8 &&& 31)).toInt8.toInt32)) k2_2_9 T9.heap n0 (Nat.le_trans Z0 K9.1) P9_2 f_10 f_11 f_12) hown (tw104 hw) (tw105 hw) (tw74 hw) (tw106 hw) (by decide) 0 (by decide) (by decide) (by rw [hml]; rfl) [(.ref b2_2_9), (.int i2)] [] (lenOf pd_5 rfl) (Nat.le_of_eq rfl) rfl (by decide) (by decide) rfl rfl (H d15_32) fun v13 T13 Lc13 X13 hQ13 => ?_
 obtain ⟨rfl, N13q, eq13⟩ := hQ13
 have N13 := Fr.app N9 N13q
 show Gs p e below _ T13 m 35 #[rv a1, iv i0, iv i4, rv b2, iv i2, rv b2_2_9] [(.int (nar .char (((((nar .byte ((v2 >>> (i0 &&& 31)).toInt8.toInt32)) &&& i255) <<< (i0 &&& 31)) ||| (((nar .byte ((v2 >>> (i8 &&& 31)).toInt8.toInt32)) &&& i255) <<< (i8 &&& 31))).toUInt32.toUInt16.toUInt32.toInt32)))]
 refine g_sipush X13 hx i255 (H d15_35) rfl ?_
 refine g_icmpYes X13 hx 54 (H d15_38) (tlt (own_gt hb2 hd2)).2.2.1 (by decide) (by decide) ?_
 refine g_aload X13 hx (H d15_54) rfl rfl ?_
 exact Go.ret (Q := Qm154_fft Z a1 v0 v1 v2 v3 kc h0 n0) X13 (v := some (.ref b2_2_9)) (fun h => by rw [hret] at h; cases h) hlk (fun fs hr => retOut X13 hx hret rfl (Or.inr (Or.inr (Or.inr (Or.inr ⟨rfl, rfl, rfl⟩)))) (H d15_56) hr) eq13 ⟨b2_2_9, k2_2_9, rfl, N13, K9, g_b2_2_9, sz_b2_2_9, P9_2⟩ (by decide) (by decide)
def Qm154_ffft (Z : State) (a1 : Addr) (v0 : Int32) (v1 : Int32) (v2 : Int32) (v3 : Int32) (kc : ClassId) (h0 : Heap) (n0 : Nat) (v : Option Value) (h : Heap) (L : List Loc) : Prop := ∃ (b2_2_9 : Addr) (k2_2_9 : ClassId), v = some (.ref b2_2_9) ∧ Fr n0 L ∧ Keep h0 h [] ∧ n0 ≤ b2_2_9 ∧ h0.size ≤ b2_2_9 ∧ Arv Z h b2_2_9 k2_2_9 .byte i8 [(.int (nar .byte ((v0 >>> (i0 &&& 31)).toInt8.toInt32))), (.int (nar .byte ((v0 >>> (i8 &&& 31)).toInt8.toInt32))), (.int (nar .byte ((v1 >>> (i0 &&& 31)).toInt8.toInt32))), (.int (nar .byte ((v1 >>> (i8 &&& 31)).toInt8.toInt32))), (.int (nar .byte ((v2 >>> (i0 &&& 31)).toInt8.toInt32))), (.int (nar .byte ((v2 >>> (i8 &&& 31)).toInt8.toInt32))), (.int (nar .byte ((v3 >>> (i0 &&& 31)).toInt8.toInt32))), (.int (nar .byte ((v3 >>> (i8 &&& 31)).toInt8.toInt32)))] (.int i0)
theorem rm154_ffft (l : Launch) (Z : State) (a0 : Array Value) (hw : Hw a0 Z) (a1 : Addr) (v0 : Int32) (v1 : Int32) (v2 : Int32) (v3 : Int32) (kc : ClassId) (h0 : Heap) (n0 : Nat) (Z0 : n0 ≤ h0.size) (V_a1 : Arv Z h0 a1 kc .char i4 [(.int v0), (.int v1), (.int v2), (.int v3)] (.int i0)) (hb0 : 0 ≤ v0.toInt ∧ v0.toInt ≤ 65535) (hb1 : 0 ≤ v1.toInt ∧ v1.toInt ≤ 65535) (hb2 : 0 ≤ v2.toInt ∧ v2.toInt ≤ 65535) (hb3 : 0 ≤ v3.toInt ∧ v3.toInt ≤ 65535) (S__assertionsDisabled : Sta Z h0 s1_ s2_ "Z" (.int i1)) (S_HI_BYTE_SHIFT : Sta Z h0 s1_ s3_ "I" (.int i0)) (S_LO_BYTE_SHIFT : Sta Z h0 s1_ s4_ "I" (.int i8)) (hd0 : ¬ (i255 < v0)) (hd1 : ¬ (i255 < v1)) (hd2 : ¬ (i255 < v2)) (hd3 : i255 < v3) :
  Met l Z h0 yy13 jdk_52_method_16_code 6 (some (.array .byte)) (rmk 3 2 12 40) #[(.ref a1), (.int i0), (.int i4)] (Qm154_ffft Z a1 v0 v1 v2 v3 kc h0 n0) := by
 refine enter (plainFor_of_name pn_15) (fun m => ef_15 m a1 i0 i4) fun p e s m below meth c s₁ hx hby hml hown hnm hZ X0 e0 hret hlk => ?_
 have N0 := Fr.nil n0; have H := @hb c _ hby
 refine g_iloadN X0 hx (H d15_0) rfl ?_
 refine g_newP X0 hx hZ (H d15_1) (tw21 hw) e0 (by decide) 4 (by decide) (by decide) (by decide) (by decide) fun b2 T2 h2 k2 g2 X2 e2 E2 A2 => ?_
 have g_b2 : n0 ≤ b2 := Nat.le_trans Z0 (Nat.le_of_eq g2.symm)
 have sz_b2 : h0.size ≤ b2 := Nat.le_of_eq g2.symm
 have K2 : Keep h0 h2 [] := (Keep.refl h0 []).ext E2
 have V_b2 : Arv Z h2 b2 k2 .byte i4 [(.int i0), (.int i0), (.int i0), (.int i0)] (.int i0) := (Arv.new A2 (by decide)).pad (pad_rep [] (.int i0) 4)
 refine g_astoreN X2 hx (H d15_3) rfl (l' := #[rv a1, iv i0, iv i4, rv b2, .unset, .unset]) rfl ?_
 refine g_aloadN X2 hx (H d15_4) rfl rfl ?_
 refine g_iloadN X2 hx (H d15_5) rfl ?_
 refine g_aloadN X2 hx (H d15_6) rfl rfl ?_
 refine g_iconst X2 hx i0 (H d15_7) rfl ?_
 refine g_iloadN X2 hx (H d15_8) rfl ?_
 have f_3 := (V_a1.keep K2 nin0)
 refine g_static X2 hx hZ (rm164_ffft l Z a0 hw a1 b2 v0 v1 v2 v3 kc k2 h2 n0 (Nat.le_trans Z0 K2.1) f_3 hb0 hb1 hb2 hb3 V_b2 g_b2 (Nat.ne_of_lt (Nat.lt_of_lt_of_le V_a1.lt sz_b2)) hd0 hd1 hd2 hd3) hown (tw76 hw) (tw77 hw) (tw74 hw) (tw78 hw) (by decide) 0 (by decide) (by decide) (by rw [hml]; rfl) [(.ref a1), (.int i0), (.ref b2), (.int i0), (.int i4)] [] (lenOf pd_3 rfl) (Nat.le_of_eq rfl) e2 (by decide) (by decide) rfl rfl (H d15_9) fun v4 T4 Lc4 X4 hQ4 => ?_
 obtain ⟨rfl, N4q, Kc4, P4_0⟩ := hQ4
 have K4 : Keep h0 T4.heap [] := K2.trans Kc4 (allS (Or.inr sz_b2) all0)
 have N4 := Fr.app N0 N4q
 show Gs p e below _ T4 m 12 #[rv a1, iv i0, iv i4, rv b2, .unset, .unset] [(.int i3)]
 refine g_istore X4 hx (H d15_12) (l' := #[rv a1, iv i0, iv i4, rv b2, iv i3, .unset]) rfl ?_
 refine g_iload X4 hx (H d15_14) rfl ?_
 refine g_iloadN X4 hx (H d15_16) rfl ?_
 refine g_icmpNo X4 hx (H d15_17) (feq (by decide : ¬ (i3 = i4))).1 ?_
 refine g_aloadN X4 hx (H d15_20) rfl rfl ?_
 refine g_iloadN X4 hx (H d15_21) rfl ?_
 refine g_iloadN X4 hx (H d15_22) rfl ?_
 have f_5 := (f_3.keep Kc4 (ninS (Nat.ne_of_lt (Nat.lt_of_lt_of_le V_a1.lt sz_b2)) nin0))
 have f_6 := (staKeep0 S__assertionsDisabled K4)
 have f_7 := (staKeep0 S_HI_BYTE_SHIFT K4)
 have f_8 := (staKeep0 S_LO_BYTE_SHIFT K4)
 refine g_static X4 hx hZ (rm204_o l Z a0 hw a1 v0 v1 v2 v3 kc T4.heap n0 (Nat.le_trans Z0 K4.1) f_5 hb0 hb1 hb2 hb3 f_6 f_7 f_8) hown (tw88 hw) (tw89 hw) (tw74 hw) (tw90 hw) (by decide) 0 (by decide) (by decide) (by rw [hml]; rfl) [(.ref a1), (.int i0), (.int i4)] [] (lenOf pd_4 rfl) (Nat.le_of_eq rfl) rfl (by decide) (by decide) rfl rfl (H d15_23) fun v9 T9 Lc9 X9 hQ9 => ?_
 obtain ⟨b2_2_9, k2_2_9, rfl, N9q, Kc9, P9_0, P9_1, P9_2⟩ := hQ9
 have K9 : Keep h0 T9.heap [] := K4.trans Kc9 all0
 have g_b2_2_9 := P9_0
 have sz_b2_2_9 : h0.size ≤ b2_2_9 := Nat.le_trans K4.1 P9_1
 have lt_b2_b2_2_9 : b2 < b2_2_9 := Nat.lt_of_lt_of_le P4_0.lt P9_1
 have N9 := Fr.app N4 N9q
 show Gs p e below _ T9 m 26 #[rv a1, iv i0, iv i4, rv b2, iv i3, .unset] [(.ref b2_2_9)]
 refine g_astore X9 hx (H d15_26) rfl (l' := #[rv a1, iv i0, iv i4, rv b2, iv i3, rv b2_2_9]) rfl ?_
 refine g_aload X9 hx (H d15_28) rfl rfl ?_
 refine g_iload X9 hx (H d15_30) rfl ?_
 have f_10 := (staKeep0 f_6 Kc9)
 have f_11 := (staKeep0 f_7 Kc9)
 have f_12 := (staKeep0 f_8 Kc9)
 refine g_static X9 hx hZ (rm2443_o l Z a0 hw b2_2_9 (nar .byte ((v0 >>> (i0 &&& 31)).toInt8.toInt32)) (nar .byte ((v0 >>> (i8 &&& 31)).toInt8.toInt32)) (nar .byte ((v1 >>> (i0 &&& 31)).toInt8.toInt32)) (nar .byte ((v1 >>> (i8 &&& 31)).toInt8.toInt32)) (nar .byte ((v2 >>> (i0 &&& 31)).toInt8.toInt32)) (nar .byte ((v2 >>> (i8 &&& 31)).toInt8.toInt32)) (nar .byte ((v3 >>> (i0 &&& 31)).toInt8.toInt32)) (nar .byte ((v3 >>> (i8 &&& 31)).toInt8.toInt32)) k2_2_9 T9.heap n0 (Nat.le_trans Z0 K9.1) P9_2 f_10 f_11 f_12) hown (tw104 hw) (tw105 hw) (tw74 hw) (tw106 hw) (by decide) 0 (by decide) (by decide) (by rw [hml]; rfl) [(.ref b2_2_9), (.int i3)] [] (lenOf pd_5 rfl) (Nat.le_of_eq rfl) rfl (by decide) (by decide) rfl rfl (H d15_32) fun v13 T13 Lc13 X13 hQ13 => ?_
 obtain ⟨rfl, N13q, eq13⟩ := hQ13
 have N13 := Fr.app N9 N13q
 show Gs p e below _ T13 m 35 #[rv a1, iv i0, iv i4, rv b2, iv i3, rv b2_2_9] [(.int (nar .char (((((nar .byte ((v3 >>> (i0 &&& 31)).toInt8.toInt32)) &&& i255) <<< (i0 &&& 31)) ||| (((nar .byte ((v3 >>> (i8 &&& 31)).toInt8.toInt32)) &&& i255) <<< (i8 &&& 31))).toUInt32.toUInt16.toUInt32.toInt32)))]
 refine g_sipush X13 hx i255 (H d15_35) rfl ?_
 refine g_icmpYes X13 hx 54 (H d15_38) (tlt (own_gt hb3 hd3)).2.2.1 (by decide) (by decide) ?_
 refine g_aload X13 hx (H d15_54) rfl rfl ?_
 exact Go.ret (Q := Qm154_ffft Z a1 v0 v1 v2 v3 kc h0 n0) X13 (v := some (.ref b2_2_9)) (fun h => by rw [hret] at h; cases h) hlk (fun fs hr => retOut X13 hx hret rfl (Or.inr (Or.inr (Or.inr (Or.inr ⟨rfl, rfl, rfl⟩)))) (H d15_56) hr) eq13 ⟨b2_2_9, k2_2_9, rfl, N13, K9, g_b2_2_9, sz_b2_2_9, P9_2⟩ (by decide) (by decide)
def Qm154_ffff (Z : State) (a1 : Addr) (v0 : Int32) (v1 : Int32) (v2 : Int32) (v3 : Int32) (kc : ClassId) (h0 : Heap) (n0 : Nat) (v : Option Value) (h : Heap) (L : List Loc) : Prop := ∃ (b2 : Addr) (k2 : ClassId), v = some (.ref b2) ∧ Fr n0 L ∧ Keep h0 h [] ∧ n0 ≤ b2 ∧ h0.size ≤ b2 ∧ Arv Z h b2 k2 .byte i4 [(.int (nar .byte (v0.toInt8.toInt32))), (.int (nar .byte (v1.toInt8.toInt32))), (.int (nar .byte (v2.toInt8.toInt32))), (.int (nar .byte (v3.toInt8.toInt32)))] (.int i0)
theorem rm154_ffff (l : Launch) (Z : State) (a0 : Array Value) (hw : Hw a0 Z) (a1 : Addr) (v0 : Int32) (v1 : Int32) (v2 : Int32) (v3 : Int32) (kc : ClassId) (h0 : Heap) (n0 : Nat) (Z0 : n0 ≤ h0.size) (V_a1 : Arv Z h0 a1 kc .char i4 [(.int v0), (.int v1), (.int v2), (.int v3)] (.int i0)) (hb0 : 0 ≤ v0.toInt ∧ v0.toInt ≤ 65535) (hb1 : 0 ≤ v1.toInt ∧ v1.toInt ≤ 65535) (hb2 : 0 ≤ v2.toInt ∧ v2.toInt ≤ 65535) (hb3 : 0 ≤ v3.toInt ∧ v3.toInt ≤ 65535) (S__assertionsDisabled : Sta Z h0 s1_ s2_ "Z" (.int i1)) (S_HI_BYTE_SHIFT : Sta Z h0 s1_ s3_ "I" (.int i0)) (S_LO_BYTE_SHIFT : Sta Z h0 s1_ s4_ "I" (.int i8)) (hd0 : ¬ (i255 < v0)) (hd1 : ¬ (i255 < v1)) (hd2 : ¬ (i255 < v2)) (hd3 : ¬ (i255 < v3)) :
  Met l Z h0 yy13 jdk_52_method_16_code 6 (some (.array .byte)) (rmk 1 1 4 18) #[(.ref a1), (.int i0), (.int i4)] (Qm154_ffff Z a1 v0 v1 v2 v3 kc h0 n0) := by
 refine enter (plainFor_of_name pn_15) (fun m => ef_15 m a1 i0 i4) fun p e s m below meth c s₁ hx hby hml hown hnm hZ X0 e0 hret hlk => ?_
 have N0 := Fr.nil n0; have H := @hb c _ hby
 refine g_iloadN X0 hx (H d15_0) rfl ?_
 refine g_newP X0 hx hZ (H d15_1) (tw21 hw) e0 (by decide) 4 (by decide) (by decide) (by decide) (by decide) fun b2 T2 h2 k2 g2 X2 e2 E2 A2 => ?_
 have g_b2 : n0 ≤ b2 := Nat.le_trans Z0 (Nat.le_of_eq g2.symm)
 have sz_b2 : h0.size ≤ b2 := Nat.le_of_eq g2.symm
 have K2 : Keep h0 h2 [] := (Keep.refl h0 []).ext E2
 have V_b2 : Arv Z h2 b2 k2 .byte i4 [(.int i0), (.int i0), (.int i0), (.int i0)] (.int i0) := (Arv.new A2 (by decide)).pad (pad_rep [] (.int i0) 4)
 refine g_astoreN X2 hx (H d15_3) rfl (l' := #[rv a1, iv i0, iv i4, rv b2, .unset, .unset]) rfl ?_
 refine g_aloadN X2 hx (H d15_4) rfl rfl ?_
 refine g_iloadN X2 hx (H d15_5) rfl ?_
 refine g_aloadN X2 hx (H d15_6) rfl rfl ?_
 refine g_iconst X2 hx i0 (H d15_7) rfl ?_
 refine g_iloadN X2 hx (H d15_8) rfl ?_
 have f_3 := (V_a1.keep K2 nin0)
 refine g_static X2 hx hZ (rm164_ffff l Z a0 hw a1 b2 v0 v1 v2 v3 kc k2 h2 n0 (Nat.le_trans Z0 K2.1) f_3 hb0 hb1 hb2 hb3 V_b2 g_b2 (Nat.ne_of_lt (Nat.lt_of_lt_of_le V_a1.lt sz_b2)) hd0 hd1 hd2 hd3) hown (tw76 hw) (tw77 hw) (tw74 hw) (tw78 hw) (by decide) 0 (by decide) (by decide) (by rw [hml]; rfl) [(.ref a1), (.int i0), (.ref b2), (.int i0), (.int i4)] [] (lenOf pd_3 rfl) (Nat.le_of_eq rfl) e2 (by decide) (by decide) rfl rfl (H d15_9) fun v4 T4 Lc4 X4 hQ4 => ?_
 obtain ⟨rfl, N4q, Kc4, P4_0⟩ := hQ4
 have K4 : Keep h0 T4.heap [] := K2.trans Kc4 (allS (Or.inr sz_b2) all0)
 have N4 := Fr.app N0 N4q
 show Gs p e below _ T4 m 12 #[rv a1, iv i0, iv i4, rv b2, .unset, .unset] [(.int i4)]
 refine g_istore X4 hx (H d15_12) (l' := #[rv a1, iv i0, iv i4, rv b2, iv i4, .unset]) rfl ?_
 refine g_iload X4 hx (H d15_14) rfl ?_
 refine g_iloadN X4 hx (H d15_16) rfl ?_
 refine g_icmpYes X4 hx 57 (H d15_17) (teq (by decide : (i4 = i4))).1 (by decide) (by decide) ?_
 refine g_aloadN X4 hx (H d15_57) rfl rfl ?_
 exact Go.ret (Q := Qm154_ffff Z a1 v0 v1 v2 v3 kc h0 n0) X4 (v := some (.ref b2)) (fun h => by rw [hret] at h; cases h) hlk (fun fs hr => retOut X4 hx hret rfl (Or.inr (Or.inr (Or.inr (Or.inr ⟨rfl, rfl, rfl⟩)))) (H d15_58) hr) rfl ⟨b2, k2, rfl, N4, K4, g_b2, sz_b2, P4_0⟩ (by decide) (by decide)
theorem rm154U (l : Launch) (Z : State) (a0 : Array Value) (hw : Hw a0 Z) (a1 : Addr) (v0 : Int32) (v1 : Int32) (v2 : Int32) (v3 : Int32) (kc : ClassId) (h0 : Heap) (n0 : Nat) (Z0 : n0 ≤ h0.size) (V_a1 : Arv Z h0 a1 kc .char i4 [(.int v0), (.int v1), (.int v2), (.int v3)] (.int i0)) (hb0 : 0 ≤ v0.toInt ∧ v0.toInt ≤ 65535) (hb1 : 0 ≤ v1.toInt ∧ v1.toInt ≤ 65535) (hb2 : 0 ≤ v2.toInt ∧ v2.toInt ≤ 65535) (hb3 : 0 ≤ v3.toInt ∧ v3.toInt ≤ 65535) (S__assertionsDisabled : Sta Z h0 s1_ s2_ "Z" (.int i1)) (S_HI_BYTE_SHIFT : Sta Z h0 s1_ s3_ "I" (.int i0)) (S_LO_BYTE_SHIFT : Sta Z h0 s1_ s4_ "I" (.int i8)) (hU : i255 < v0 ∨ i255 < v1 ∨ i255 < v2 ∨ i255 < v3) :
  Met l Z h0 yy13 jdk_52_method_16_code 6 (some (.array .byte)) (rmk 3 2 12 40) #[(.ref a1), (.int i0), (.int i4)] (Qm154_t Z a1 v0 v1 v2 v3 kc h0 n0) := by
 by_cases hk0 : i255 < v0
 · exact rm154_t l Z a0 hw a1 v0 v1 v2 v3 kc h0 n0 Z0 V_a1 hb0 hb1 hb2 hb3 S__assertionsDisabled S_HI_BYTE_SHIFT S_LO_BYTE_SHIFT hk0
 by_cases hk1 : i255 < v1
 · exact rm154_ft l Z a0 hw a1 v0 v1 v2 v3 kc h0 n0 Z0 V_a1 hb0 hb1 hb2 hb3 S__assertionsDisabled S_HI_BYTE_SHIFT S_LO_BYTE_SHIFT hk0 hk1
 by_cases hk2 : i255 < v2
 · exact rm154_fft l Z a0 hw a1 v0 v1 v2 v3 kc h0 n0 Z0 V_a1 hb0 hb1 hb2 hb3 S__assertionsDisabled S_HI_BYTE_SHIFT S_LO_BYTE_SHIFT hk0 hk1 hk2
 by_cases hk3 : i255 < v3
 · exact rm154_ffft l Z a0 hw a1 v0 v1 v2 v3 kc h0 n0 Z0 V_a1 hb0 hb1 hb2 hb3 S__assertionsDisabled S_HI_BYTE_SHIFT S_LO_BYTE_SHIFT hk0 hk1 hk2 hk3
 exact (fun q => q.elim (fun q => absurd q hk0) (fun q => q.elim (fun q => absurd q hk1) (fun q => q.elim (fun q => absurd q hk2) (fun q => absurd q hk3)))) hU
def Qm174_o (Z : State) (a1 : Addr) (h0 : Heap) (n0 : Nat) (v : Option Value) (h : Heap) (L : List Loc) : Prop := v = some (.int i0) ∧ Fr n0 L ∧ h = h0
theorem rm174_o (l : Launch) (Z : State) (a0 : Array Value) (hw : Hw a0 Z) (a1 : Addr) (h0 : Heap) (n0 : Nat) (Z0 : n0 ≤ h0.size) (V_a1 : Arn Z h0 a1 .byte i4) :
  Met l Z h0 yy14 jdk_52_method_15_code 2 (some .byte) (rmk 0 0 0 0) #[(.ref a1), (.int i4)] (Qm174_o Z a1 h0 n0) := by
 refine enter (plainFor_of_name pn_17) (fun m => ef_17 m a1 i4) fun p e s m below meth c s₁ hx hby hml hown hnm hZ X0 e0 hret hlk => ?_
 have N0 := Fr.nil n0; have H := @hb c _ hby
 refine g_iloadN X0 hx (H d17_0) rfl ?_
 refine g_aloadN X0 hx (H d17_1) rfl rfl ?_
 obtain ⟨clq2, Arq2, saq2, naq2⟩ := id V_a1
 refine g_len X0 hx hZ e0 Arq2 saq2 naq2 (H d17_2) ?_
 refine g_isub X0 hx (H d17_3) ?_
 rw [show (i4 - i4) = i0 from by decide]
 show Gs p e below _ s₁ m 4 #[rv a1, iv i4] [(.int i0)]
 refine g_bipush X0 hx i31 (H d17_4) rfl ?_
 refine g_iushr X0 hx (H d17_6) ?_
 rw [show ((i0.toUInt32 >>> (i31 &&& 31).toUInt32).toInt32) = i0 from by decide]
 show Gs p e below _ s₁ m 7 #[rv a1, iv i4] [(.int i0)]
 refine g_i2b X0 hx (H d17_7) ?_
 rw [show (i0.toInt8.toInt32) = i0 from by decide]
 show Gs p e below _ s₁ m 8 #[rv a1, iv i4] [(.int i0)]
 exact Go.ret (Q := Qm174_o Z a1 h0 n0) X0 (v := some (.int i0)) (fun h => by rw [hret] at h; cases h) hlk (fun fs hr => retN X0 hx (t := .byte) hret (by simp) (H d17_8) hr) e0 ⟨rfl, N0, rfl⟩ (by decide) (by decide)
def Qm174u_o (Z : State) (a1 : Addr) (h0 : Heap) (n0 : Nat) (v : Option Value) (h : Heap) (L : List Loc) : Prop := v = some (.int i1) ∧ Fr n0 L ∧ h = h0
theorem rm174u_o (l : Launch) (Z : State) (a0 : Array Value) (hw : Hw a0 Z) (a1 : Addr) (h0 : Heap) (n0 : Nat) (Z0 : n0 ≤ h0.size) (V_a1 : Arn Z h0 a1 .byte i8) :
  Met l Z h0 yy14 jdk_52_method_15_code 2 (some .byte) (rmk 0 0 0 0) #[(.ref a1), (.int i4)] (Qm174u_o Z a1 h0 n0) := by
 refine enter (plainFor_of_name pn_17) (fun m => ef_17 m a1 i4) fun p e s m below meth c s₁ hx hby hml hown hnm hZ X0 e0 hret hlk => ?_
 have N0 := Fr.nil n0; have H := @hb c _ hby
 refine g_iloadN X0 hx (H d17_0) rfl ?_
 refine g_aloadN X0 hx (H d17_1) rfl rfl ?_
 obtain ⟨clq2, Arq2, saq2, naq2⟩ := id V_a1
 refine g_len X0 hx hZ e0 Arq2 saq2 naq2 (H d17_2) ?_
 refine g_isub X0 hx (H d17_3) ?_
 rw [show (i4 - i8) = im4 from by decide]
 show Gs p e below _ s₁ m 4 #[rv a1, iv i4] [(.int im4)]
 refine g_bipush X0 hx i31 (H d17_4) rfl ?_
 refine g_iushr X0 hx (H d17_6) ?_
 rw [show ((im4.toUInt32 >>> (i31 &&& 31).toUInt32).toInt32) = i1 from by decide]
 show Gs p e below _ s₁ m 7 #[rv a1, iv i4] [(.int i1)]
 refine g_i2b X0 hx (H d17_7) ?_
 rw [show (i1.toInt8.toInt32) = i1 from by decide]
 show Gs p e below _ s₁ m 8 #[rv a1, iv i4] [(.int i1)]
 exact Go.ret (Q := Qm174u_o Z a1 h0 n0) X0 (v := some (.int i1)) (fun h => by rw [hret] at h; cases h) hlk (fun fs hr => retN X0 hx (t := .byte) hret (by simp) (H d17_8) hr) e0 ⟨rfl, N0, rfl⟩ (by decide) (by decide)
def Qm34U_f (Z : State) (a1 : Addr) (a2 : Addr) (v0 : Int32) (v1 : Int32) (v2 : Int32) (v3 : Int32) (kc : ClassId) (u_coder_a1 : Value) (u_value_a1 : Value) (w4 : Int32) (h0 : Heap) (n0 : Nat) (v : Option Value) (h : Heap) (L : List Loc) : Prop := ∃ (b2_2_8_6 : Addr) (k2_2_8_6 : ClassId), v = none ∧ Fr n0 L ∧ Keep h0 h [a1] ∧ Exa Z h a1 s0_ ∧ Fld Z h a1 s0_ "coder" "B" (.int i1) ∧ Fld Z h a1 s0_ "value" "[B" (.ref b2_2_8_6) ∧ Arv Z h b2_2_8_6 k2_2_8_6 .byte i8 [(.int (nar .byte ((v0 >>> (i0 &&& 31)).toInt8.toInt32))), (.int (nar .byte ((v0 >>> (i8 &&& 31)).toInt8.toInt32))), (.int (nar .byte ((v1 >>> (i0 &&& 31)).toInt8.toInt32))), (.int (nar .byte ((v1 >>> (i8 &&& 31)).toInt8.toInt32))), (.int (nar .byte ((v2 >>> (i0 &&& 31)).toInt8.toInt32))), (.int (nar .byte ((v2 >>> (i8 &&& 31)).toInt8.toInt32))), (.int (nar .byte ((v3 >>> (i0 &&& 31)).toInt8.toInt32))), (.int (nar .byte ((v3 >>> (i8 &&& 31)).toInt8.toInt32)))] (.int i0)
theorem rm34U_f (l : Launch) (Z : State) (a0 : Array Value) (hw : Hw a0 Z) (a1 : Addr) (a2 : Addr) (v0 : Int32) (v1 : Int32) (v2 : Int32) (v3 : Int32) (kc : ClassId) (u_coder_a1 : Value) (u_value_a1 : Value) (w4 : Int32) (h0 : Heap) (n0 : Nat) (Z0 : n0 ≤ h0.size) (E_a1 : Exa Z h0 a1 s0_) (V_a2 : Arv Z h0 a2 kc .char i4 [(.int v0), (.int v1), (.int v2), (.int v3)] (.int i0)) (hb0 : 0 ≤ v0.toInt ∧ v0.toInt ≤ 65535) (hb1 : 0 ≤ v1.toInt ∧ v1.toInt ≤ 65535) (hb2 : 0 ≤ v2.toInt ∧ v2.toInt ≤ 65535) (hb3 : 0 ≤ v3.toInt ∧ v3.toInt ≤ 65535) (S__assertionsDisabled : Sta Z h0 s1_ s2_ "Z" (.int i1)) (S_HI_BYTE_SHIFT : Sta Z h0 s1_ s3_ "I" (.int i0)) (S_LO_BYTE_SHIFT : Sta Z h0 s1_ s4_ "I" (.int i8)) (F_coder_a1 : Fld Z h0 a1 s0_ "coder" "B" u_coder_a1) (F_value_a1 : Fld Z h0 a1 s0_ "value" "[B" u_value_a1) (g_a1 : n0 ≤ a1) (hne_a2_a1 : ¬ (a2 = a1)) (hU : i255 < v0 ∨ i255 < v1 ∨ i255 < v2 ∨ i255 < v3) (S_COMPACT_STRINGS : Sta Z h0 s0_ s5_ "Z" (.int w4)) (hd1 : ¬ (w4 = i0)) :
  Met l Z h0 yy15 jdk_42_method_149_code 6 none (rmk 4 2 12 57) #[(.ref a1), (.ref a2), (.int i0), (.int i4), .null] (Qm34U_f Z a1 a2 v0 v1 v2 v3 kc u_coder_a1 u_value_a1 w4 h0 n0) := by
 refine enter (plainFor_of_name pn_3) (fun m => ef_34U m a1 a2 i0 i4) fun p e s m below meth c s₁ hx hby hml hown hnm hZ X0 e0 hret hlk => ?_
 have N0 := Fr.nil n0; have H := @hb c _ hby
 refine g_aloadN X0 hx (H d3_0) rfl rfl ?_
 refine g_initO X0 hx hZ hown (tw17 hw) (tw18 hw) (tw19 hw) e0 (by rw [hml]; rfl) (H d3_1) (by decide) 0 (Nat.le_of_eq rfl) (by decide) fun T3 X3 e3 => ?_
 refine g_iloadN X3 hx (H d3_4) rfl ?_
 refine g_ifYes X3 hx 27 (H d3_5) (feq (by decide : ¬ (i4 = i0))).2 (by decide) (by decide) ?_
 refine g_getS X3 hx hZ hown (tw47 hw) e3 S_COMPACT_STRINGS (H d3_27) fun T5 X5 e5 => ?_
 refine g_ifNo X5 hx (H d3_30) (feq hd1).1 ?_
 refine g_aloadN X5 hx (H d3_33) rfl rfl ?_
 refine g_iloadN X5 hx (H d3_34) rfl ?_
 refine g_iloadN X5 hx (H d3_35) rfl ?_
 refine g_static X5 hx hZ (rm154U l Z a0 hw a2 v0 v1 v2 v3 kc h0 n0 Z0 V_a2 hb0 hb1 hb2 hb3 S__assertionsDisabled S_HI_BYTE_SHIFT S_LO_BYTE_SHIFT hU) hown (tw72 hw) (tw73 hw) (tw74 hw) (tw75 hw) (by decide) 0 (by decide) (by decide) (by rw [hml]; rfl) [(.ref a2), (.int i0), (.int i4)] [] (lenOf pd_4 rfl) (Nat.le_of_eq rfl) e5 (by decide) (by decide) rfl rfl (H d3_36) fun v6 T6 Lc6 X6 hQ6 => ?_
 obtain ⟨b2_2_8_6, k2_2_8_6, rfl, N6q, Kc6, P6_0, P6_1, P6_2⟩ := hQ6
 have K6 : Keep h0 T6.heap [a1] := (Keep.refl h0 [a1]).trans Kc6 all0
 have g_b2_2_8_6 := P6_0
 have sz_b2_2_8_6 : h0.size ≤ b2_2_8_6 := P6_1
 have N6 := Fr.app N0 N6q
 show Gs p e below _ T6 m 39 #[rv a1, rv a2, iv i0, iv i4, .val .null, .unset] [(.ref b2_2_8_6)]
 refine g_astore X6 hx (H d3_39) rfl (l' := #[rv a1, rv a2, iv i0, iv i4, .val .null, rv b2_2_8_6]) rfl ?_
 refine g_aloadN X6 hx (H d3_41) rfl rfl ?_
 refine g_aload X6 hx (H d3_42) rfl rfl ?_
 refine g_iloadN X6 hx (H d3_44) rfl ?_
 refine g_static X6 hx hZ (rm174u_o l Z a0 hw b2_2_8_6 T6.heap n0 (Nat.le_trans Z0 K6.1) (Arv.arn P6_2)) hown (tw79 hw) (tw80 hw) (tw74 hw) (tw81 hw) (by decide) 1 (by decide) (by decide) (by rw [hml]; rfl) [(.ref b2_2_8_6), (.int i4)] [(.ref a1)] (lenOf pd_6 rfl) (Nat.le_of_eq rfl) rfl (by decide) (by decide) rfl rfl (H d3_45) fun v7 T7 Lc7 X7 hQ7 => ?_
 obtain ⟨rfl, N7q, eq7⟩ := hQ7
 have N7 := Fr.app N6 N7q
 show Gs p e below _ T7 m 48 #[rv a1, rv a2, iv i0, iv i4, .val .null, rv b2_2_8_6] [(.int i1), (.ref a1)]
 have f_8 := (E_a1.keep Kc6)
 have f_9 := (F_coder_a1.keep Kc6 nin0)
 refine g_putFN X7 hx hZ hown (tw27 hw) Via.refl eq7 f_9 f_8 (Or.inr ⟨(tw23 hw), rfl, hnm⟩) (tw7 hw) (ty := .byte) (v' := (.int i1)) (by decide) rfl (fits_nar_byte i1) (H d3_48) fun T10 h10 X10 e10 W10 => ?_
 have Fw10 : Fld Z h10 a1 s0_ "coder" "B" (.int i1) := Fld.same W10 f_9
 have K10 : Keep h0 h10 [a1] := K6.wr W10 (Or.inl (List.mem_of_getElem? (i := 0) rfl))
 have N10 := Fr.snoc X10 N7 g_a1
 refine g_aloadN X10 hx (H d3_51) rfl rfl ?_
 refine g_aload X10 hx (H d3_52) rfl rfl ?_
 have f_11 := (Exa.wr W10 f_8)
 have f_12 := (Fld.other W10 (F_value_a1.keep Kc6 nin0) (Or.inr (slot_ne (Or.inr (tw22 hw)) (Or.inr (tw23 hw)) (by decide) (t := (.array .byte)) (t' := .byte) (by decide) (by decide))))
 refine g_putF X10 hx hZ hown (tw26 hw) Via.refl e10 f_12 f_11 (Or.inr ⟨(tw22 hw), rfl, hnm⟩) (tw7 hw) (ty := (.array .byte)) (by decide) rfl rfl (H d3_54) fun T13 h13 X13 e13 W13 => ?_
 have Fw13 : Fld Z h13 a1 s0_ "value" "[B" (.ref b2_2_8_6) := Fld.same W13 f_12
 have K13 : Keep h0 h13 [a1] := K10.wr W13 (Or.inl (List.mem_of_getElem? (i := 0) rfl))
 have N13 := Fr.snoc X13 N10 g_a1
 have f_14 := (Exa.wr W13 f_11)
 have f_15 := (Fld.other W13 Fw10 (Or.inr (slot_ne (Or.inr (tw23 hw)) (Or.inr (tw22 hw)) (by decide) (t := .byte) (t' := (.array .byte)) (by decide) (by decide))))
 have f_16 := ((P6_2.other W10 (Ne.symm (Nat.ne_of_lt (Nat.lt_of_lt_of_le E_a1.lt sz_b2_2_8_6)))).other W13 (Ne.symm (Nat.ne_of_lt (Nat.lt_of_lt_of_le E_a1.lt sz_b2_2_8_6))))
 exact Go.ret (Q := Qm34U_f Z a1 a2 v0 v1 v2 v3 kc u_coder_a1 u_value_a1 w4 h0 n0) X13 (v := none) (fun _ => rfl) hlk (fun fs hr => X13.returnOut hx hret (H d3_57) hr) e13 ⟨b2_2_8_6, k2_2_8_6, rfl, N13, K13, f_14, f_15, Fw13, f_16⟩ (by decide) (by decide)
def Qm34L_f (Z : State) (a1 : Addr) (a2 : Addr) (v0 : Int32) (v1 : Int32) (v2 : Int32) (v3 : Int32) (kc : ClassId) (u_coder_a1 : Value) (u_value_a1 : Value) (w4 : Int32) (h0 : Heap) (n0 : Nat) (v : Option Value) (h : Heap) (L : List Loc) : Prop := ∃ (b2_6 : Addr) (k2_6 : ClassId), v = none ∧ Fr n0 L ∧ Keep h0 h [a1] ∧ Exa Z h a1 s0_ ∧ Fld Z h a1 s0_ "coder" "B" (.int i0) ∧ Fld Z h a1 s0_ "value" "[B" (.ref b2_6) ∧ Arv Z h b2_6 k2_6 .byte i4 [(.int (nar .byte (v0.toInt8.toInt32))), (.int (nar .byte (v1.toInt8.toInt32))), (.int (nar .byte (v2.toInt8.toInt32))), (.int (nar .byte (v3.toInt8.toInt32)))] (.int i0)
theorem rm34L_f (l : Launch) (Z : State) (a0 : Array Value) (hw : Hw a0 Z) (a1 : Addr) (a2 : Addr) (v0 : Int32) (v1 : Int32) (v2 : Int32) (v3 : Int32) (kc : ClassId) (u_coder_a1 : Value) (u_value_a1 : Value) (w4 : Int32) (h0 : Heap) (n0 : Nat) (Z0 : n0 ≤ h0.size) (E_a1 : Exa Z h0 a1 s0_) (V_a2 : Arv Z h0 a2 kc .char i4 [(.int v0), (.int v1), (.int v2), (.int v3)] (.int i0)) (hb0 : 0 ≤ v0.toInt ∧ v0.toInt ≤ 65535) (hb1 : 0 ≤ v1.toInt ∧ v1.toInt ≤ 65535) (hb2 : 0 ≤ v2.toInt ∧ v2.toInt ≤ 65535) (hb3 : 0 ≤ v3.toInt ∧ v3.toInt ≤ 65535) (S__assertionsDisabled : Sta Z h0 s1_ s2_ "Z" (.int i1)) (S_HI_BYTE_SHIFT : Sta Z h0 s1_ s3_ "I" (.int i0)) (S_LO_BYTE_SHIFT : Sta Z h0 s1_ s4_ "I" (.int i8)) (F_coder_a1 : Fld Z h0 a1 s0_ "coder" "B" u_coder_a1) (F_value_a1 : Fld Z h0 a1 s0_ "value" "[B" u_value_a1) (g_a1 : n0 ≤ a1) (hne_a2_a1 : ¬ (a2 = a1)) (hv0 : ¬ (i255 < v0)) (hv1 : ¬ (i255 < v1)) (hv2 : ¬ (i255 < v2)) (hv3 : ¬ (i255 < v3)) (S_COMPACT_STRINGS : Sta Z h0 s0_ s5_ "Z" (.int w4)) (hd5 : ¬ (w4 = i0)) :
  Met l Z h0 yy15 jdk_42_method_149_code 6 none (rmk 2 1 4 35) #[(.ref a1), (.ref a2), (.int i0), (.int i4), .null] (Qm34L_f Z a1 a2 v0 v1 v2 v3 kc u_coder_a1 u_value_a1 w4 h0 n0) := by
 refine enter (plainFor_of_name pn_3) (fun m => ef_34L m a1 a2 i0 i4) fun p e s m below meth c s₁ hx hby hml hown hnm hZ X0 e0 hret hlk => ?_
 have N0 := Fr.nil n0; have H := @hb c _ hby
 refine g_aloadN X0 hx (H d3_0) rfl rfl ?_
 refine g_initO X0 hx hZ hown (tw17 hw) (tw18 hw) (tw19 hw) e0 (by rw [hml]; rfl) (H d3_1) (by decide) 0 (Nat.le_of_eq rfl) (by decide) fun T3 X3 e3 => ?_
 refine g_iloadN X3 hx (H d3_4) rfl ?_
 refine g_ifYes X3 hx 27 (H d3_5) (feq (by decide : ¬ (i4 = i0))).2 (by decide) (by decide) ?_
 refine g_getS X3 hx hZ hown (tw47 hw) e3 S_COMPACT_STRINGS (H d3_27) fun T5 X5 e5 => ?_
 refine g_ifNo X5 hx (H d3_30) (feq hd5).1 ?_
 refine g_aloadN X5 hx (H d3_33) rfl rfl ?_
 refine g_iloadN X5 hx (H d3_34) rfl ?_
 refine g_iloadN X5 hx (H d3_35) rfl ?_
 refine g_static X5 hx hZ (rm154_ffff l Z a0 hw a2 v0 v1 v2 v3 kc h0 n0 Z0 V_a2 hb0 hb1 hb2 hb3 S__assertionsDisabled S_HI_BYTE_SHIFT S_LO_BYTE_SHIFT hv0 hv1 hv2 hv3) hown (tw72 hw) (tw73 hw) (tw74 hw) (tw75 hw) (by decide) 0 (by decide) (by decide) (by rw [hml]; rfl) [(.ref a2), (.int i0), (.int i4)] [] (lenOf pd_4 rfl) (Nat.le_of_eq rfl) e5 (by decide) (by decide) rfl rfl (H d3_36) fun v6 T6 Lc6 X6 hQ6 => ?_
 obtain ⟨b2_6, k2_6, rfl, N6q, Kc6, P6_0, P6_1, P6_2⟩ := hQ6
 have K6 : Keep h0 T6.heap [a1] := (Keep.refl h0 [a1]).trans Kc6 all0
 have g_b2_6 := P6_0
 have sz_b2_6 : h0.size ≤ b2_6 := P6_1
 have N6 := Fr.app N0 N6q
 show Gs p e below _ T6 m 39 #[rv a1, rv a2, iv i0, iv i4, .val .null, .unset] [(.ref b2_6)]
 refine g_astore X6 hx (H d3_39) rfl (l' := #[rv a1, rv a2, iv i0, iv i4, .val .null, rv b2_6]) rfl ?_
 refine g_aloadN X6 hx (H d3_41) rfl rfl ?_
 refine g_aload X6 hx (H d3_42) rfl rfl ?_
 refine g_iloadN X6 hx (H d3_44) rfl ?_
 refine g_static X6 hx hZ (rm174_o l Z a0 hw b2_6 T6.heap n0 (Nat.le_trans Z0 K6.1) (Arv.arn P6_2)) hown (tw79 hw) (tw80 hw) (tw74 hw) (tw81 hw) (by decide) 1 (by decide) (by decide) (by rw [hml]; rfl) [(.ref b2_6), (.int i4)] [(.ref a1)] (lenOf pd_6 rfl) (Nat.le_of_eq rfl) rfl (by decide) (by decide) rfl rfl (H d3_45) fun v7 T7 Lc7 X7 hQ7 => ?_
 obtain ⟨rfl, N7q, eq7⟩ := hQ7
 have N7 := Fr.app N6 N7q
 show Gs p e below _ T7 m 48 #[rv a1, rv a2, iv i0, iv i4, .val .null, rv b2_6] [(.int i0), (.ref a1)]
 have f_8 := (E_a1.keep Kc6)
 have f_9 := (F_coder_a1.keep Kc6 nin0)
 refine g_putFN X7 hx hZ hown (tw27 hw) Via.refl eq7 f_9 f_8 (Or.inr ⟨(tw23 hw), rfl, hnm⟩) (tw7 hw) (ty := .byte) (v' := (.int i0)) (by decide) rfl (fits_nar_byte i0) (H d3_48) fun T10 h10 X10 e10 W10 => ?_
 have Fw10 : Fld Z h10 a1 s0_ "coder" "B" (.int i0) := Fld.same W10 f_9
 have K10 : Keep h0 h10 [a1] := K6.wr W10 (Or.inl (List.mem_of_getElem? (i := 0) rfl))
 have N10 := Fr.snoc X10 N7 g_a1
 refine g_aloadN X10 hx (H d3_51) rfl rfl ?_
 refine g_aload X10 hx (H d3_52) rfl rfl ?_
 have f_11 := (Exa.wr W10 f_8)
 have f_12 := (Fld.other W10 (F_value_a1.keep Kc6 nin0) (Or.inr (slot_ne (Or.inr (tw22 hw)) (Or.inr (tw23 hw)) (by decide) (t := (.array .byte)) (t' := .byte) (by decide) (by decide))))
 refine g_putF X10 hx hZ hown (tw26 hw) Via.refl e10 f_12 f_11 (Or.inr ⟨(tw22 hw), rfl, hnm⟩) (tw7 hw) (ty := (.array .byte)) (by decide) rfl rfl (H d3_54) fun T13 h13 X13 e13 W13 => ?_
 have Fw13 : Fld Z h13 a1 s0_ "value" "[B" (.ref b2_6) := Fld.same W13 f_12
 have K13 : Keep h0 h13 [a1] := K10.wr W13 (Or.inl (List.mem_of_getElem? (i := 0) rfl))
 have N13 := Fr.snoc X13 N10 g_a1
 have f_14 := (Exa.wr W13 f_11)
 have f_15 := (Fld.other W13 Fw10 (Or.inr (slot_ne (Or.inr (tw23 hw)) (Or.inr (tw22 hw)) (by decide) (t := .byte) (t' := (.array .byte)) (by decide) (by decide))))
 have f_16 := ((P6_2.other W10 (Ne.symm (Nat.ne_of_lt (Nat.lt_of_lt_of_le E_a1.lt sz_b2_6)))).other W13 (Ne.symm (Nat.ne_of_lt (Nat.lt_of_lt_of_le E_a1.lt sz_b2_6))))
 exact Go.ret (Q := Qm34L_f Z a1 a2 v0 v1 v2 v3 kc u_coder_a1 u_value_a1 w4 h0 n0) X13 (v := none) (fun _ => rfl) hlk (fun fs hr => X13.returnOut hx hret (H d3_57) hr) e13 ⟨b2_6, k2_6, rfl, N13, K13, f_14, f_15, Fw13, f_16⟩ (by decide) (by decide)
def Qm24U_f (Z : State) (a1 : Addr) (a2 : Addr) (v0 : Int32) (v1 : Int32) (v2 : Int32) (v3 : Int32) (kc : ClassId) (u_coder_a1 : Value) (u_value_a1 : Value) (w4 : Int32) (h0 : Heap) (n0 : Nat) (v : Option Value) (h : Heap) (L : List Loc) : Prop := ∃ (b2_2_8_6_5 : Addr) (k2_2_8_6_5 : ClassId), v = none ∧ Fr n0 L ∧ Keep h0 h [a1] ∧ Exa Z h a1 s0_ ∧ Fld Z h a1 s0_ "coder" "B" (.int i1) ∧ Fld Z h a1 s0_ "value" "[B" (.ref b2_2_8_6_5) ∧ Arv Z h b2_2_8_6_5 k2_2_8_6_5 .byte i8 [(.int (nar .byte ((v0 >>> (i0 &&& 31)).toInt8.toInt32))), (.int (nar .byte ((v0 >>> (i8 &&& 31)).toInt8.toInt32))), (.int (nar .byte ((v1 >>> (i0 &&& 31)).toInt8.toInt32))), (.int (nar .byte ((v1 >>> (i8 &&& 31)).toInt8.toInt32))), (.int (nar .byte ((v2 >>> (i0 &&& 31)).toInt8.toInt32))), (.int (nar .byte ((v2 >>> (i8 &&& 31)).toInt8.toInt32))), (.int (nar .byte ((v3 >>> (i0 &&& 31)).toInt8.toInt32))), (.int (nar .byte ((v3 >>> (i8 &&& 31)).toInt8.toInt32)))] (.int i0)
theorem rm24U_f (l : Launch) (Z : State) (a0 : Array Value) (hw : Hw a0 Z) (a1 : Addr) (a2 : Addr) (v0 : Int32) (v1 : Int32) (v2 : Int32) (v3 : Int32) (kc : ClassId) (u_coder_a1 : Value) (u_value_a1 : Value) (w4 : Int32) (h0 : Heap) (n0 : Nat) (Z0 : n0 ≤ h0.size) (E_a1 : Exa Z h0 a1 s0_) (V_a2 : Arv Z h0 a2 kc .char i4 [(.int v0), (.int v1), (.int v2), (.int v3)] (.int i0)) (hb0 : 0 ≤ v0.toInt ∧ v0.toInt ≤ 65535) (hb1 : 0 ≤ v1.toInt ∧ v1.toInt ≤ 65535) (hb2 : 0 ≤ v2.toInt ∧ v2.toInt ≤ 65535) (hb3 : 0 ≤ v3.toInt ∧ v3.toInt ≤ 65535) (S__assertionsDisabled : Sta Z h0 s1_ s2_ "Z" (.int i1)) (S_HI_BYTE_SHIFT : Sta Z h0 s1_ s3_ "I" (.int i0)) (S_LO_BYTE_SHIFT : Sta Z h0 s1_ s4_ "I" (.int i8)) (F_coder_a1 : Fld Z h0 a1 s0_ "coder" "B" u_coder_a1) (F_value_a1 : Fld Z h0 a1 s0_ "value" "[B" u_value_a1) (g_a1 : n0 ≤ a1) (hne_a2_a1 : ¬ (a2 = a1)) (hU : i255 < v0 ∨ i255 < v1 ∨ i255 < v2 ∨ i255 < v3) (hd1 : ¬ (w4 = i0)) (S_COMPACT_STRINGS : Sta Z h0 s0_ s5_ "Z" (.int w4)) :
  Met l Z h0 yy16 jdk_42_method_3_code 2 none (rmk 5 2 12 74) #[(.ref a1), (.ref a2)] (Qm24U_f Z a1 a2 v0 v1 v2 v3 kc u_coder_a1 u_value_a1 w4 h0 n0) := by
 refine enter (plainFor_of_name pn_2) (fun m => ef_2 m a1 a2) fun p e s m below meth c s₁ hx hby hml hown hnm hZ X0 e0 hret hlk => ?_
 have N0 := Fr.nil n0; have H := @hb c _ hby
 refine g_aloadN X0 hx (H d2_0) rfl rfl ?_
 refine g_aloadN X0 hx (H d2_1) rfl rfl ?_
 refine g_iconst X0 hx i0 (H d2_2) rfl ?_
 refine g_aloadN X0 hx (H d2_3) rfl rfl ?_
 obtain ⟨clq3, Arq3, caq3, saq3, naq3, haq3, gaq3⟩ := id V_a2
 refine g_len X0 hx hZ e0 Arq3 saq3 naq3 (H d2_4) ?_
 refine g_aconstNull X0 hx (H d2_5) ?_
 refine g_special X0 hx hZ (rm34U_f l Z a0 hw a1 a2 v0 v1 v2 v3 kc u_coder_a1 u_value_a1 w4 h0 n0 Z0 E_a1 V_a2 hb0 hb1 hb2 hb3 S__assertionsDisabled S_HI_BYTE_SHIFT S_LO_BYTE_SHIFT F_coder_a1 F_value_a1 g_a1 hne_a2_a1 hU S_COMPACT_STRINGS hd1) rfl rfl hown (tw13 hw) (tw14 hw) (tw8 hw) (tw16 hw) (by decide) 0 (by decide) (by decide) (by rw [hml]; rfl) [(.ref a2), (.int i0), (.int i4), .null] [] (lenOf pd_7 rfl) (Nat.le_of_eq rfl) e0 (by decide) (by decide) rfl rfl (H d2_6) fun v5 T5 Lc5 X5 hQ5 => ?_
 obtain ⟨b2_2_8_6_5, k2_2_8_6_5, rfl, N5q, Kc5, P5_0, P5_1, P5_2, P5_3⟩ := hQ5
 have K5 : Keep h0 T5.heap [a1] := (Keep.refl h0 [a1]).trans Kc5 (allS (Or.inl (List.mem_of_getElem? (i := 0) rfl)) all0)
 have N5 := Fr.app N0 N5q
 show Gs p e below _ T5 m 9 #[rv a1, rv a2] []
 exact Go.ret (Q := Qm24U_f Z a1 a2 v0 v1 v2 v3 kc u_coder_a1 u_value_a1 w4 h0 n0) X5 (v := none) (fun _ => rfl) hlk (fun fs hr => X5.returnOut hx hret (H d2_9) hr) rfl ⟨b2_2_8_6_5, k2_2_8_6_5, rfl, N5, K5, P5_0, P5_1, P5_2, P5_3⟩ (by decide) (by decide)
def Qm24L_f (Z : State) (a1 : Addr) (a2 : Addr) (v0 : Int32) (v1 : Int32) (v2 : Int32) (v3 : Int32) (kc : ClassId) (u_coder_a1 : Value) (u_value_a1 : Value) (w4 : Int32) (h0 : Heap) (n0 : Nat) (v : Option Value) (h : Heap) (L : List Loc) : Prop := ∃ (b2_6_5 : Addr) (k2_6_5 : ClassId), v = none ∧ Fr n0 L ∧ Keep h0 h [a1] ∧ Exa Z h a1 s0_ ∧ Fld Z h a1 s0_ "coder" "B" (.int i0) ∧ Fld Z h a1 s0_ "value" "[B" (.ref b2_6_5) ∧ Arv Z h b2_6_5 k2_6_5 .byte i4 [(.int (nar .byte (v0.toInt8.toInt32))), (.int (nar .byte (v1.toInt8.toInt32))), (.int (nar .byte (v2.toInt8.toInt32))), (.int (nar .byte (v3.toInt8.toInt32)))] (.int i0)
theorem rm24L_f (l : Launch) (Z : State) (a0 : Array Value) (hw : Hw a0 Z) (a1 : Addr) (a2 : Addr) (v0 : Int32) (v1 : Int32) (v2 : Int32) (v3 : Int32) (kc : ClassId) (u_coder_a1 : Value) (u_value_a1 : Value) (w4 : Int32) (h0 : Heap) (n0 : Nat) (Z0 : n0 ≤ h0.size) (E_a1 : Exa Z h0 a1 s0_) (V_a2 : Arv Z h0 a2 kc .char i4 [(.int v0), (.int v1), (.int v2), (.int v3)] (.int i0)) (hb0 : 0 ≤ v0.toInt ∧ v0.toInt ≤ 65535) (hb1 : 0 ≤ v1.toInt ∧ v1.toInt ≤ 65535) (hb2 : 0 ≤ v2.toInt ∧ v2.toInt ≤ 65535) (hb3 : 0 ≤ v3.toInt ∧ v3.toInt ≤ 65535) (S__assertionsDisabled : Sta Z h0 s1_ s2_ "Z" (.int i1)) (S_HI_BYTE_SHIFT : Sta Z h0 s1_ s3_ "I" (.int i0)) (S_LO_BYTE_SHIFT : Sta Z h0 s1_ s4_ "I" (.int i8)) (F_coder_a1 : Fld Z h0 a1 s0_ "coder" "B" u_coder_a1) (F_value_a1 : Fld Z h0 a1 s0_ "value" "[B" u_value_a1) (g_a1 : n0 ≤ a1) (hne_a2_a1 : ¬ (a2 = a1)) (hv0 : ¬ (i255 < v0)) (hv1 : ¬ (i255 < v1)) (hv2 : ¬ (i255 < v2)) (hv3 : ¬ (i255 < v3)) (hd5 : ¬ (w4 = i0)) (S_COMPACT_STRINGS : Sta Z h0 s0_ s5_ "Z" (.int w4)) :
  Met l Z h0 yy16 jdk_42_method_3_code 2 none (rmk 3 1 4 52) #[(.ref a1), (.ref a2)] (Qm24L_f Z a1 a2 v0 v1 v2 v3 kc u_coder_a1 u_value_a1 w4 h0 n0) := by
 refine enter (plainFor_of_name pn_2) (fun m => ef_2 m a1 a2) fun p e s m below meth c s₁ hx hby hml hown hnm hZ X0 e0 hret hlk => ?_
 have N0 := Fr.nil n0; have H := @hb c _ hby
 refine g_aloadN X0 hx (H d2_0) rfl rfl ?_
 refine g_aloadN X0 hx (H d2_1) rfl rfl ?_
 refine g_iconst X0 hx i0 (H d2_2) rfl ?_
 refine g_aloadN X0 hx (H d2_3) rfl rfl ?_
 obtain ⟨clq3, Arq3, caq3, saq3, naq3, haq3, gaq3⟩ := id V_a2
 refine g_len X0 hx hZ e0 Arq3 saq3 naq3 (H d2_4) ?_
 refine g_aconstNull X0 hx (H d2_5) ?_
 refine g_special X0 hx hZ (rm34L_f l Z a0 hw a1 a2 v0 v1 v2 v3 kc u_coder_a1 u_value_a1 w4 h0 n0 Z0 E_a1 V_a2 hb0 hb1 hb2 hb3 S__assertionsDisabled S_HI_BYTE_SHIFT S_LO_BYTE_SHIFT F_coder_a1 F_value_a1 g_a1 hne_a2_a1 hv0 hv1 hv2 hv3 S_COMPACT_STRINGS hd5) rfl rfl hown (tw13 hw) (tw14 hw) (tw8 hw) (tw16 hw) (by decide) 0 (by decide) (by decide) (by rw [hml]; rfl) [(.ref a2), (.int i0), (.int i4), .null] [] (lenOf pd_7 rfl) (Nat.le_of_eq rfl) e0 (by decide) (by decide) rfl rfl (H d2_6) fun v5 T5 Lc5 X5 hQ5 => ?_
 obtain ⟨b2_6_5, k2_6_5, rfl, N5q, Kc5, P5_0, P5_1, P5_2, P5_3⟩ := hQ5
 have K5 : Keep h0 T5.heap [a1] := (Keep.refl h0 [a1]).trans Kc5 (allS (Or.inl (List.mem_of_getElem? (i := 0) rfl)) all0)
 have N5 := Fr.app N0 N5q
 show Gs p e below _ T5 m 9 #[rv a1, rv a2] []
 exact Go.ret (Q := Qm24L_f Z a1 a2 v0 v1 v2 v3 kc u_coder_a1 u_value_a1 w4 h0 n0) X5 (v := none) (fun _ => rfl) hlk (fun fs hr => X5.returnOut hx hret (H d2_9) hr) rfl ⟨b2_6_5, k2_6_5, rfl, N5, K5, P5_0, P5_1, P5_2, P5_3⟩ (by decide) (by decide)
def Qm3e_o (Z : State) (a1 : Addr) (a2 : Addr) (u_coder_a1 : Value) (u_value_a1 : Value) (h0 : Heap) (n0 : Nat) (v : Option Value) (h : Heap) (L : List Loc) : Prop := ∃ (b4 : Addr) (kb4 : ClassId), v = none ∧ Fr n0 L ∧ Keep h0 h [a1] ∧ Exa Z h a1 s0_ ∧ Fld Z h a1 s0_ "coder" "B" (.int i0) ∧ Fld Z h a1 s0_ "value" "[B" (.ref b4) ∧ Arv Z h b4 kb4 .byte i0 [] (.int i0)
theorem rm3e_o (l : Launch) (Z : State) (a0 : Array Value) (hw : Hw a0 Z) (ws : List Jvm.Cond) (a1 : Addr) (a2 : Addr) (u_coder_a1 : Value) (u_value_a1 : Value) (h0 : Heap) (n0 : Nat) (Z0 : n0 ≤ h0.size) (E_a1 : Exa Z h0 a1 s0_) (F_coder_a1 : Fld Z h0 a1 s0_ "coder" "B" u_coder_a1) (F_value_a1 : Fld Z h0 a1 s0_ "value" "[B" u_value_a1) (g_a1 : n0 ≤ a1) :
  MetFree l yy15 (head1 (Jvm.Cond.code yy15 jdk_42_method_149_code 6 none :: ws) ({ frames := 1, cells := 2, slots := 4, locals := 12 } : Room)) (fun a U => a = #[(.ref a1), (.ref a2), (.int i0), (.int i0), .null] ∧ Z.Warmed39 U.vm ∧ U.heap = h0 ∧ CHv Z own_EL U.vm h0) (fun _ _ _ _ _ => True) (fun _ U o U' => ∃ v L, o = .returned v ∧ Qm3e_o Z a1 a2 u_coder_a1 u_value_a1 h0 n0 v U'.heap L ∧ ReturnedEndW U o U' L ({ frames := 1, cells := 2, slots := 4, locals := 12 } : Room).cells ({ frames := 1, cells := 2, slots := 4, locals := 12 } : Room).slots) := by
 refine MetFree.of_bodySF (plainFor_of_name pn_3) hisR ?_
 intro p e s m args below meth c s₁ Bd hml0 hP hK
 obtain ⟨rfl, hZ, hh, hH⟩ := hP
 have hx := Bd.exec
 have hby := Bd.bytes
 have hml : c.maxLocals = 6 := hml0
 have hown : s.vm.findClass s0_ = some m.cls := findClass_of_methodNamed Bd.named
 have hnm := (name_of_methodNamed Bd.named Bd.method).1
 have X0 : Stand p l e ({ frames := 1, cells := 2, slots := 4, locals := 12 } : Room) (s.setVm s.vm) m #[(.ref a1), (.ref a2), (.int i0), (.int i0), .null] below meth c s₁ [] 0 0 := Stand.of_body Bd
 have hS : s.Since s.vm 0 := State.WarmedH.since (State.WarmedH.refl s) 0
 have hk : 0 ≤ h0.size := Nat.zero_le _
 have own_wS0 : ∀ a ∈ Bundle.stringAtoms, a.before a0 Z = true := own_wS hw
 have e0 : s₁.heap = h0 := by rw [← hh, Bd.state]; rfl
 have N0 := Fr.nil n0; have H := @hb c _ hby
 refine Go.en (ef_3e m a1 a2 i0 i0) ?_
 show Gs p e below _ s₁ m 0 #[rv a1, rv a2, iv i0, iv i0, .val .null, .unset] []
 refine g_aloadN X0 hx (H d3_0) rfl rfl ?_
 refine g_initO X0 hx hZ hown (tw17 hw) (tw18 hw) (tw19 hw) e0 (by rw [hml]; rfl) (H d3_1) (by decide) 0 (Nat.le_of_eq rfl) (by decide) fun T3 X3 e3 => ?_
 refine g_iloadN X3 hx (H d3_4) rfl ?_
 refine g_ifNo X3 hx (H d3_5) (teq (by decide : (i0 = i0))).2 ?_
 refine g_aloadN X3 hx (H d3_8) rfl rfl ?_
 obtain ⟨a4, T4, h4, k4, b4, kb4, X4, e4, E4, hS, hk, hZ, hown, Q4, C4, V4, B4, -, -, -, L4, -, st4⟩ := ldcCH X3 hx hZ hown (tw20 hw) own_wS0 e3 hS hk (own_EW hw) (own_mem) hH (vs := []) (z := i0) ⟨by decide, rfl⟩ (by decide) rfl (g := (mkF m 9 #[rv a1, rv a2, iv i0, iv i0, .val .null, .unset] [(.ref a1)])) rfl (H d3_9) (n := 0) (by decide) (by decide) (by decide) (by decide)
 refine Go.st st4 ?_
 have K4 : Keep h0 h4 [a1] := (Keep.refl h0 [a1]).ext E4
 have f_5 := (Exa.ext E4 E_a1)
 have hnb4 : b4 ≠ a1 := Ne.symm (Exa.neArv f_5 B4 (tw7 hw))
 show Gs p e below _ T4 m 11 #[rv a1, rv a2, iv i0, iv i0, .val .null, .unset] [(.ref a4), (.ref a1)]
 refine g_getF X4 hx hZ hown (tw26 hw) Via.refl e4 V4 (H d3_11) fun T6 X6 e6 => ?_
 have f_7 := (Fld.ext E4 F_value_a1)
 refine g_putF X6 hx hZ hown (tw26 hw) Via.refl e6 f_7 f_5 (Or.inr ⟨(tw22 hw), rfl, hnm⟩) (tw7 hw) (ty := (.array .byte)) (by decide) rfl rfl (H d3_14) fun T8 h8 X8 e8 W8 => ?_
 have Fw8 : Fld Z h8 a1 s0_ "value" "[B" (.ref b4) := Fld.same W8 f_7
 have K8 : Keep h0 h8 [a1] := K4.wr W8 (Or.inl (List.mem_of_getElem? (i := 0) rfl))
 have N8 := Fr.snoc X8 N0 g_a1
 refine g_aloadN X8 hx (H d3_17) rfl rfl ?_
 refine Go.st (ldcAgain X8 hx hZ hown (tw20 hw) L4 (g := (mkF m 18 #[rv a1, rv a2, iv i0, iv i0, .val .null, .unset] [(.ref a1)])) rfl (H d3_18)) ?_
 show Gs p e below _ T8 m 20 #[rv a1, rv a2, iv i0, iv i0, .val .null, .unset] [(.ref a4), (.ref a1)]
 have f_9 := (Fld.other W8 C4 (Or.inr (slot_ne (Or.inr (tw23 hw)) (Or.inr (tw22 hw)) (by decide) (t := .byte) (t' := (.array .byte)) (by decide) (by decide))))
 refine g_getF X8 hx hZ hown (tw27 hw) Via.refl e8 f_9 (H d3_20) fun T10 X10 e10 => ?_
 have f_11 := (Exa.wr W8 f_5)
 have f_12 := (Fld.other W8 (Fld.ext E4 F_coder_a1) (Or.inr (slot_ne (Or.inr (tw23 hw)) (Or.inr (tw22 hw)) (by decide) (t := .byte) (t' := (.array .byte)) (by decide) (by decide))))
 refine g_putFN X10 hx hZ hown (tw27 hw) Via.refl e10 f_12 f_11 (Or.inr ⟨(tw23 hw), rfl, hnm⟩) (tw7 hw) (ty := .byte) (v' := (.int i0)) (by decide) rfl (fits_nar_byte i0) (H d3_23) fun T13 h13 X13 e13 W13 => ?_
 have Fw13 : Fld Z h13 a1 s0_ "coder" "B" (.int i0) := Fld.same W13 f_12
 have K13 : Keep h0 h13 [a1] := K8.wr W13 (Or.inl (List.mem_of_getElem? (i := 0) rfl))
 have N13 := Fr.snoc X13 N8 g_a1
 have hk := (Nat.le_trans (Nat.le_trans hk (Nat.le_of_eq (Wr.size W8).symm)) (Nat.le_of_eq (Wr.size W13).symm))
 have f_14 := (Exa.wr W13 f_11)
 have f_15 := (Fld.other W13 Fw8 (Or.inr (slot_ne (Or.inr (tw22 hw)) (Or.inr (tw23 hw)) (by decide) (t := (.array .byte)) (t' := .byte) (by decide) (by decide))))
 have f_16 := ((B4.other W8 hnb4).other W13 hnb4)
 exact Go.retW (Q := Qm3e_o Z a1 a2 u_coder_a1 u_value_a1 h0 n0) hS (hk) X13 (v := none) (fun _ => rfl) Bd.notSynchronized (fun fs hr => X13.returnOut hx Bd.returns (H d3_26) hr) e13 ⟨b4, kb4, rfl, N13, K13, f_14, Fw13, f_15, f_16⟩ (by decide) (by decide)
def Qm2e_o (Z : State) (a1 : Addr) (a2 : Addr) (u_coder_a1 : Value) (u_value_a1 : Value) (h0 : Heap) (n0 : Nat) (v : Option Value) (h : Heap) (L : List Loc) : Prop := ∃ (b4_4 : Addr) (kb4_4 : ClassId), v = none ∧ Fr n0 L ∧ Keep h0 h [a1] ∧ Exa Z h a1 s0_ ∧ Fld Z h a1 s0_ "coder" "B" (.int i0) ∧ Fld Z h a1 s0_ "value" "[B" (.ref b4_4) ∧ Arv Z h b4_4 kb4_4 .byte i0 [] (.int i0)
theorem rm2e_o (l : Launch) (Z : State) (a0 : Array Value) (hw : Hw a0 Z) (ws : List Jvm.Cond) (a1 : Addr) (a2 : Addr) (u_coder_a1 : Value) (u_value_a1 : Value) (h0 : Heap) (n0 : Nat) (Z0 : n0 ≤ h0.size) (E_a1 : Exa Z h0 a1 s0_) (F_coder_a1 : Fld Z h0 a1 s0_ "coder" "B" u_coder_a1) (F_value_a1 : Fld Z h0 a1 s0_ "value" "[B" u_value_a1) (g_a1 : n0 ≤ a1) (V_a2 : Arn Z h0 a2 .char i0) (hne_a2_a1 : ¬ (a2 = a1)) :
  MetFree l yy16 (head1 (Jvm.Cond.code yy16 jdk_42_method_3_code 2 none :: ws) ({ frames := 2, cells := 2, slots := 4, locals := 29 } : Room)) (fun a U => a = #[(.ref a1), (.ref a2)] ∧ Z.Warmed39 U.vm ∧ U.heap = h0 ∧ CHv Z own_EL U.vm h0) (fun _ _ _ _ _ => True) (fun _ U o U' => ∃ v L, o = .returned v ∧ Qm2e_o Z a1 a2 u_coder_a1 u_value_a1 h0 n0 v U'.heap L ∧ ReturnedEndW U o U' L ({ frames := 2, cells := 2, slots := 4, locals := 29 } : Room).cells ({ frames := 2, cells := 2, slots := 4, locals := 29 } : Room).slots) := by
 refine MetFree.of_bodySF (plainFor_of_name pn_2) hisR ?_
 intro p e s m args below meth c s₁ Bd hml0 hP hK
 obtain ⟨rfl, hZ, hh, hH⟩ := hP
 have hx := Bd.exec
 have hby := Bd.bytes
 have hml : c.maxLocals = 2 := hml0
 have hown : s.vm.findClass s0_ = some m.cls := findClass_of_methodNamed Bd.named
 have hnm := (name_of_methodNamed Bd.named Bd.method).1
 have X0 : Stand p l e ({ frames := 2, cells := 2, slots := 4, locals := 29 } : Room) (s.setVm s.vm) m #[(.ref a1), (.ref a2)] below meth c s₁ [] 0 0 := Stand.of_body Bd
 have hS : s.Since s.vm 0 := State.WarmedH.since (State.WarmedH.refl s) 0
 have hk : 0 ≤ h0.size := Nat.zero_le _
 have own_wS0 : ∀ a ∈ Bundle.stringAtoms, a.before a0 Z = true := own_wS hw
 have e0 : s₁.heap = h0 := by rw [← hh, Bd.state]; rfl
 have N0 := Fr.nil n0; have H := @hb c _ hby
 refine Go.en (ef_2 m a1 a2) ?_
 show Gs p e below _ s₁ m 0 #[rv a1, rv a2] []
 refine g_aloadN X0 hx (H d2_0) rfl rfl ?_
 refine g_aloadN X0 hx (H d2_1) rfl rfl ?_
 refine g_iconst X0 hx i0 (H d2_2) rfl ?_
 refine g_aloadN X0 hx (H d2_3) rfl rfl ?_
 obtain ⟨clq3, Arq3, saq3, naq3⟩ := id V_a2
 refine g_len X0 hx hZ e0 Arq3 saq3 naq3 (H d2_4) ?_
 refine g_aconstNull X0 hx (H d2_5) ?_
 obtain ⟨_, _, ⟨T4, L4, k4, n4⟩, -, X4, hS4, hG4, ⟨Lc4, hQ4, l4, y4, z4⟩, st4⟩ := X0.specialBackS hx (y := yy15) rfl hown (mvT hZ (tw13 hw)) (mvT hZ (tw14 hw)) (mvT hZ (tw16 hw)) (by decide) (backOfSC (W := 0) (rm3e_o l Z a0 hw [] a1 a2 u_coder_a1 u_value_a1 h0 n0 Z0 E_a1 F_coder_a1 F_value_a1 g_a1) hZ (tw16 hw) (tw8 hw) (by decide) (by decide) (own_EW hw) hH) (g := (mkF m 6 #[rv a1, rv a2] [.null, (.int i0), (.int i0), (.ref a2), (.ref a1)])) rfl (by rw [hml]; rfl) (Steps.refl _) (a := a1) (argsL := [(.ref a2), (.int i0), (.int i0), .null]) (rest := []) (lenOf pd_7 rfl) rfl (by show 2 * 0 + _ ≤ _; exact Nat.le_of_eq rfl) (H d2_6) (fun _ _ => ⟨rfl, e0, (by decide : 0 + 2 ≤ _), (by decide : 0 + 4 ≤ _)⟩)
 dsimp only [Pt.U, Pt.locs, Pt.cells, Pt.slots] at X4 l4 y4 z4 st4 hQ4 hS4 hG4
 subst l4 y4 z4
 obtain ⟨X4, hS, hZ, hown⟩ := rebS hS (by rw [e0]; exact hk) X4 hS4 hG4 hZ hown
 have hk := Nat.le_refl T4.heap.size
 obtain ⟨b4_4, kb4_4, rfl, N4q, Kc4, P4_0, P4_1, P4_2, P4_3⟩ := hQ4
 have K4 : Keep h0 T4.heap [a1] := (Keep.refl h0 [a1]).trans Kc4 (allS (Or.inl (List.mem_of_getElem? (i := 0) rfl)) all0)
 have N4 := Fr.app N0 N4q
 refine Go.tr st4 ?_
 show Gs p e below _ T4 m 9 #[rv a1, rv a2] []
 exact Go.retW (Q := Qm2e_o Z a1 a2 u_coder_a1 u_value_a1 h0 n0) hS (hk) X4 (v := none) (fun _ => rfl) Bd.notSynchronized (fun fs hr => X4.returnOut hx Bd.returns (H d2_9) hr) rfl ⟨b4_4, kb4_4, rfl, N4, K4, P4_0, P4_1, P4_2, P4_3⟩ (by decide) (by decide)
def Qm110 (Z : State) (a1 : Addr) (p2 : Int32) (kb : ClassId) (h0 : Heap) (n0 : Nat) (v : Option Value) (h : Heap) (L : List Loc) : Prop := ∃ (r0 : Int32), v = some (.int r0) ∧ ((r0 < 0) ↔ (True)) ∧ Fr n0 L ∧ h = h0
theorem rm110 (l : Launch) (Z : State) (a0 : Array Value) (hw : Hw a0 Z) (a1 : Addr) (p2 : Int32) (kb : ClassId) (h0 : Heap) (n0 : Nat) (Z0 : n0 ≤ h0.size) (V_a1 : Arv Z h0 a1 kb .byte i0 [] (.int i0)) (hch : 0 ≤ p2.toInt ∧ p2.toInt ≤ 127) :
  Met l Z h0 yy17 jdk_43_method_22_code 4 (some .int) (rmk 1 0 0 13) #[(.ref a1), (.int p2), (.int i0), (.int i0)] (Qm110 Z a1 p2 kb h0 n0) := by
 refine enter (plainFor_of_name pn_11) (fun m => ef_11 m a1 p2 i0 i0) fun p e s m below meth c s₁ hx hby hml hown hnm hZ X0 e0 hret hlk => ?_
 have N0 := Fr.nil n0; have H := @hb c _ hby
 refine g_iloadN X0 hx (H d11_0) rfl ?_
 refine g_static X0 hx hZ (rm12_ff l Z a0 hw p2 h0 n0 Z0 (own_ch0 hch) (own_ch1 hch)) hown (tw62 hw) (tw63 hw) (tw60 hw) (tw64 hw) (by decide) 0 (by decide) (by decide) (by rw [hml]; rfl) [(.int p2)] [] (lenOf pd_8 rfl) (Nat.le_of_eq rfl) e0 (by decide) (by decide) rfl rfl (H d11_1) fun v3 T3 Lc3 X3 hQ3 => ?_
 obtain ⟨rfl, N3q, eq3⟩ := hQ3
 have N3 := Fr.app N0 N3q
 show Gs p e below _ T3 m 4 #[rv a1, iv p2, iv i0, iv i0] [(.int i1)]
 refine g_ifYes X3 hx 9 (H d11_4) (feq (by decide : ¬ (i1 = i0))).2 (by decide) (by decide) ?_
 refine g_iloadN X3 hx (H d11_9) rfl ?_
 refine g_iconst X3 hx i0 (H d11_10) rfl ?_
 refine g_static X3 hx hZ (rm13z_o l Z a0 hw  h0 n0 Z0 ) hown (tw65 hw) (tw66 hw) (tw67 hw) (tw68 hw) (by decide) 0 (by decide) (by decide) (by rw [hml]; rfl) [(.int i0), (.int i0)] [] (lenOf pd_9 rfl) (Nat.le_of_eq rfl) eq3 (by decide) (by decide) rfl rfl (H d11_11) fun v4 T4 Lc4 X4 hQ4 => ?_
 obtain ⟨rfl, N4q, eq4⟩ := hQ4
 have N4 := Fr.app N3 N4q
 show Gs p e below _ T4 m 14 #[rv a1, iv p2, iv i0, iv i0] [(.int i0)]
 refine g_istoreN X4 hx (H d11_14) (l' := #[rv a1, iv p2, iv i0, iv i0]) rfl ?_
 refine g_iloadN X4 hx (H d11_15) rfl ?_
 refine g_aloadN X4 hx (H d11_16) rfl rfl ?_
 obtain ⟨clq5, Arq5, caq5, saq5, naq5, haq5, gaq5⟩ := id V_a1
 refine g_len X4 hx hZ eq4 Arq5 saq5 naq5 (H d11_17) ?_
 refine g_static X4 hx hZ (rm140_o l Z a0 hw  h0 n0 Z0 ) hown (tw69 hw) (tw70 hw) (tw67 hw) (tw71 hw) (by decide) 0 (by decide) (by decide) (by rw [hml]; rfl) [(.int i0), (.int i0)] [] (lenOf pd_9 rfl) (Nat.le_of_eq rfl) eq4 (by decide) (by decide) rfl rfl (H d11_18) fun v6 T6 Lc6 X6 hQ6 => ?_
 obtain ⟨rfl, N6q, eq6⟩ := hQ6
 have N6 := Fr.app N4 N6q
 show Gs p e below _ T6 m 21 #[rv a1, iv p2, iv i0, iv i0] [(.int i0)]
 refine g_istoreN X6 hx (H d11_21) (l' := #[rv a1, iv p2, iv i0, iv i0]) rfl ?_
 refine g_iloadN X6 hx (H d11_22) rfl ?_
 refine g_iloadN X6 hx (H d11_23) rfl ?_
 refine g_icmpNo X6 hx (H d11_24) (flt (by decide : ¬ (i0 < i0))).1 ?_
 refine g_iconst X6 hx im1 (H d11_27) rfl ?_
 exact Go.ret (Q := Qm110 Z a1 p2 kb h0 n0) X6 (v := some (.int im1)) (fun h => by rw [hret] at h; cases h) hlk (fun fs hr => retOut X6 hx hret rfl (Or.inl ⟨rfl, Or.inl rfl, _, rfl⟩) (H d11_28) hr) eq6 ⟨_, rfl, ⟨fun _ => trivial, fun _ => by decide⟩, N6, rfl⟩ (by decide) (by decide)
def Qm191 (Z : State) (a1 : Addr) (p2 : Int32) (v0 : Int32) (kb : ClassId) (h0 : Heap) (n0 : Nat) (v : Option Value) (h : Heap) (L : List Loc) : Prop := ∃ (r0 : Int32), v = some (.int r0) ∧ ((r0 < 0) ↔ (¬ v0 = p2)) ∧ Fr n0 L ∧ h = h0
theorem rm191 (l : Launch) (Z : State) (a0 : Array Value) (hw : Hw a0 Z) (a1 : Addr) (p2 : Int32) (v0 : Int32) (kb : ClassId) (h0 : Heap) (n0 : Nat) (Z0 : n0 ≤ h0.size) (V_a1 : Arv Z h0 a1 kb .byte i1 [(.int (nar .byte (v0.toInt8.toInt32)))] (.int i0)) (hb0 : 0 ≤ v0.toInt ∧ v0.toInt ≤ 65535) (hv0 : ¬ (i255 < v0)) (hch : 0 ≤ p2.toInt ∧ p2.toInt ≤ 127) :
  Met l Z h0 yy18 jdk_43_method_23_code 6 (some .int) (rmk 0 0 0 0) #[(.ref a1), (.int p2), (.int i0), (.int i1)] (Qm191 Z a1 p2 v0 kb h0 n0) := by
 refine enter (plainFor_of_name pn_19) (fun m => ef_19 m a1 p2 i0 i1) fun p e s m below meth c s₁ hx hby hml hown hnm hZ X0 e0 hret hlk => ?_
 have N0 := Fr.nil n0; have H := @hb c _ hby
 refine g_iloadN X0 hx (H d19_0) rfl ?_
 refine g_i2b X0 hx (H d19_1) ?_
 refine g_istore X0 hx (H d19_2) (l' := #[rv a1, iv p2, iv i0, iv i1, .val (.int (p2.toInt8.toInt32)), .unset]) rfl ?_
 refine g_iloadN X0 hx (H d19_4) rfl ?_
 refine g_istore X0 hx (H d19_5) (l' := #[rv a1, iv p2, iv i0, iv i1, .val (.int (p2.toInt8.toInt32)), iv i0]) rfl ?_
 refine g_iload X0 hx (H d19_7) rfl ?_
 refine g_iloadN X0 hx (H d19_9) rfl ?_
 refine g_icmpNo X0 hx (H d19_10) (tlt (by decide : (i0 < i1))).2.1 ?_
 refine g_aloadN X0 hx (H d19_13) rfl rfl ?_
 refine g_iload X0 hx (H d19_14) rfl ?_
 obtain ⟨clq3, Arq3, caq3, saq3, naq3, haq3, gaq3⟩ := id V_a1
 have inq3 : ¬ (i0 < 0 ∨ clq3.slots.size ≤ (i0).toNatClampNeg) := inb_of saq3 ⟨by decide, by decide⟩
 have atq3 : clq3.slots[(i0).toNatClampNeg]? = some (.int (nar .byte (v0.toInt8.toInt32))) := haq3.at inq3 rfl
 refine g_baload X0 hx hZ e0 Arq3 inq3 atq3 (H d19_16) ?_
 refine g_iload X0 hx (H d19_17) rfl ?_
 by_cases hc_3 : (nar .byte (v0.toInt8.toInt32)) = (p2.toInt8.toInt32)
 ·skip
  refine g_icmpNo X0 hx (H d19_19) (teq hc_3).2 ?_
  refine g_iload X0 hx (H d19_22) rfl ?_
  exact Go.ret (Q := Qm191 Z a1 p2 v0 kb h0 n0) X0 (v := some (.int i0)) (fun h => by rw [hret] at h; cases h) hlk (fun fs hr => retOut X0 hx hret rfl (Or.inl ⟨rfl, Or.inl rfl, _, rfl⟩) (H d19_24) hr) e0 ⟨_, rfl, ⟨fun q => absurd q (by decide), fun q => absurd ((own_eqb hb0 hv0 hch).mp hc_3) (q)⟩, N0, rfl⟩ (by decide) (by decide)
 ·skip
  refine g_icmpYes X0 hx 25 (H d19_19) (feq hc_3).2 (by decide) (by decide) ?_
  refine g_iinc X0 hx (H d19_25) rfl (l' := #[rv a1, iv p2, iv i0, iv i1, .val (.int (p2.toInt8.toInt32)), iv i1]) rfl ?_
  refine g_goto X0 hx 7 (H d19_28) (by decide) (by decide) ?_
  refine g_iload X0 hx (H d19_7) rfl ?_
  refine g_iloadN X0 hx (H d19_9) rfl ?_
  refine g_icmpYes X0 hx 31 (H d19_10) (flt (by decide : ¬ (i1 < i1))).2.1 (by decide) (by decide) ?_
  refine g_iconst X0 hx im1 (H d19_31) rfl ?_
  exact Go.ret (Q := Qm191 Z a1 p2 v0 kb h0 n0) X0 (v := some (.int im1)) (fun h => by rw [hret] at h; cases h) hlk (fun fs hr => retOut X0 hx hret rfl (Or.inl ⟨rfl, Or.inl rfl, _, rfl⟩) (H d19_32) hr) e0 ⟨_, rfl, ⟨fun _ => (fun q => hc_3 ((own_eqb hb0 hv0 hch).mpr q)), fun _ => by decide⟩, N0, rfl⟩ (by decide) (by decide)
def Qm111 (Z : State) (a1 : Addr) (p2 : Int32) (v0 : Int32) (kb : ClassId) (h0 : Heap) (n0 : Nat) (v : Option Value) (h : Heap) (L : List Loc) : Prop := ∃ (r0 : Int32), v = some (.int r0) ∧ ((r0 < 0) ↔ (¬ v0 = p2)) ∧ Fr n0 L ∧ h = h0
theorem rm111 (l : Launch) (Z : State) (a0 : Array Value) (hw : Hw a0 Z) (a1 : Addr) (p2 : Int32) (v0 : Int32) (kb : ClassId) (h0 : Heap) (n0 : Nat) (Z0 : n0 ≤ h0.size) (V_a1 : Arv Z h0 a1 kb .byte i1 [(.int (nar .byte (v0.toInt8.toInt32)))] (.int i0)) (hb0 : 0 ≤ v0.toInt ∧ v0.toInt ≤ 65535) (hv0 : ¬ (i255 < v0)) (hch : 0 ≤ p2.toInt ∧ p2.toInt ≤ 127) :
  Met l Z h0 yy17 jdk_43_method_22_code 4 (some .int) (rmk 1 0 0 17) #[(.ref a1), (.int p2), (.int i0), (.int i1)] (Qm111 Z a1 p2 v0 kb h0 n0) := by
 refine enter (plainFor_of_name pn_11) (fun m => ef_11 m a1 p2 i0 i1) fun p e s m below meth c s₁ hx hby hml hown hnm hZ X0 e0 hret hlk => ?_
 have N0 := Fr.nil n0; have H := @hb c _ hby
 refine g_iloadN X0 hx (H d11_0) rfl ?_
 refine g_static X0 hx hZ (rm12_ff l Z a0 hw p2 h0 n0 Z0 (own_ch0 hch) (own_ch1 hch)) hown (tw62 hw) (tw63 hw) (tw60 hw) (tw64 hw) (by decide) 0 (by decide) (by decide) (by rw [hml]; rfl) [(.int p2)] [] (lenOf pd_8 rfl) (Nat.le_of_eq rfl) e0 (by decide) (by decide) rfl rfl (H d11_1) fun v3 T3 Lc3 X3 hQ3 => ?_
 obtain ⟨rfl, N3q, eq3⟩ := hQ3
 have N3 := Fr.app N0 N3q
 show Gs p e below _ T3 m 4 #[rv a1, iv p2, iv i0, iv i1] [(.int i1)]
 refine g_ifYes X3 hx 9 (H d11_4) (feq (by decide : ¬ (i1 = i0))).2 (by decide) (by decide) ?_
 refine g_iloadN X3 hx (H d11_9) rfl ?_
 refine g_iconst X3 hx i0 (H d11_10) rfl ?_
 refine g_static X3 hx hZ (rm13z_o l Z a0 hw  h0 n0 Z0 ) hown (tw65 hw) (tw66 hw) (tw67 hw) (tw68 hw) (by decide) 0 (by decide) (by decide) (by rw [hml]; rfl) [(.int i0), (.int i0)] [] (lenOf pd_9 rfl) (Nat.le_of_eq rfl) eq3 (by decide) (by decide) rfl rfl (H d11_11) fun v4 T4 Lc4 X4 hQ4 => ?_
 obtain ⟨rfl, N4q, eq4⟩ := hQ4
 have N4 := Fr.app N3 N4q
 show Gs p e below _ T4 m 14 #[rv a1, iv p2, iv i0, iv i1] [(.int i0)]
 refine g_istoreN X4 hx (H d11_14) (l' := #[rv a1, iv p2, iv i0, iv i1]) rfl ?_
 refine g_iloadN X4 hx (H d11_15) rfl ?_
 refine g_aloadN X4 hx (H d11_16) rfl rfl ?_
 obtain ⟨clq5, Arq5, caq5, saq5, naq5, haq5, gaq5⟩ := id V_a1
 refine g_len X4 hx hZ eq4 Arq5 saq5 naq5 (H d11_17) ?_
 refine g_static X4 hx hZ (rm141_o l Z a0 hw  h0 n0 Z0 ) hown (tw69 hw) (tw70 hw) (tw67 hw) (tw71 hw) (by decide) 0 (by decide) (by decide) (by rw [hml]; rfl) [(.int i1), (.int i1)] [] (lenOf pd_9 rfl) (Nat.le_of_eq rfl) eq4 (by decide) (by decide) rfl rfl (H d11_18) fun v6 T6 Lc6 X6 hQ6 => ?_
 obtain ⟨rfl, N6q, eq6⟩ := hQ6
 have N6 := Fr.app N4 N6q
 show Gs p e below _ T6 m 21 #[rv a1, iv p2, iv i0, iv i1] [(.int i1)]
 refine g_istoreN X6 hx (H d11_21) (l' := #[rv a1, iv p2, iv i0, iv i1]) rfl ?_
 refine g_iloadN X6 hx (H d11_22) rfl ?_
 refine g_iloadN X6 hx (H d11_23) rfl ?_
 refine g_icmpYes X6 hx 29 (H d11_24) (tlt (by decide : (i0 < i1))).1 (by decide) (by decide) ?_
 refine g_aloadN X6 hx (H d11_29) rfl rfl ?_
 refine g_iloadN X6 hx (H d11_30) rfl ?_
 refine g_iloadN X6 hx (H d11_31) rfl ?_
 refine g_iloadN X6 hx (H d11_32) rfl ?_
 refine g_static X6 hx hZ (rm191 l Z a0 hw a1 p2 v0 kb h0 n0 Z0 V_a1 hb0 hv0 hch) hown (tw85 hw) (tw86 hw) (tw60 hw) (tw87 hw) (by decide) 0 (by decide) (by decide) (by rw [hml]; rfl) [(.ref a1), (.int p2), (.int i0), (.int i1)] [] (lenOf pd_10 rfl) (Nat.le_of_eq rfl) eq6 (by decide) (by decide) rfl rfl (H d11_33) fun v7 T7 Lc7 X7 hQ7 => ?_
 obtain ⟨r0_7, rfl, hp7, N7q, eq7⟩ := hQ7
 have N7 := Fr.app N6 N7q
 show Gs p e below _ T7 m 36 #[rv a1, iv p2, iv i0, iv i1] [(.int r0_7)]
 exact Go.ret (Q := Qm111 Z a1 p2 v0 kb h0 n0) X7 (v := some (.int r0_7)) (fun h => by rw [hret] at h; cases h) hlk (fun fs hr => retOut X7 hx hret rfl (Or.inl ⟨rfl, Or.inl rfl, _, rfl⟩) (H d11_36) hr) eq7 ⟨_, rfl, hp7, N7, rfl⟩ (by decide) (by decide)
def Qm192 (Z : State) (a1 : Addr) (p2 : Int32) (v0 : Int32) (v1 : Int32) (kb : ClassId) (h0 : Heap) (n0 : Nat) (v : Option Value) (h : Heap) (L : List Loc) : Prop := ∃ (r0 : Int32), v = some (.int r0) ∧ ((r0 < 0) ↔ (¬ v0 = p2 ∧ ¬ v1 = p2)) ∧ Fr n0 L ∧ h = h0
theorem rm192 (l : Launch) (Z : State) (a0 : Array Value) (hw : Hw a0 Z) (a1 : Addr) (p2 : Int32) (v0 : Int32) (v1 : Int32) (kb : ClassId) (h0 : Heap) (n0 : Nat) (Z0 : n0 ≤ h0.size) (V_a1 : Arv Z h0 a1 kb .byte i2 [(.int (nar .byte (v0.toInt8.toInt32))), (.int (nar .byte (v1.toInt8.toInt32)))] (.int i0)) (hb0 : 0 ≤ v0.toInt ∧ v0.toInt ≤ 65535) (hb1 : 0 ≤ v1.toInt ∧ v1.toInt ≤ 65535) (hv0 : ¬ (i255 < v0)) (hv1 : ¬ (i255 < v1)) (hch : 0 ≤ p2.toInt ∧ p2.toInt ≤ 127) :
  Met l Z h0 yy18 jdk_43_method_23_code 6 (some .int) (rmk 0 0 0 0) #[(.ref a1), (.int p2), (.int i0), (.int i2)] (Qm192 Z a1 p2 v0 v1 kb h0 n0) := by
 refine enter (plainFor_of_name pn_19) (fun m => ef_19 m a1 p2 i0 i2) fun p e s m below meth c s₁ hx hby hml hown hnm hZ X0 e0 hret hlk => ?_
 have N0 := Fr.nil n0; have H := @hb c _ hby
 refine g_iloadN X0 hx (H d19_0) rfl ?_
 refine g_i2b X0 hx (H d19_1) ?_
 refine g_istore X0 hx (H d19_2) (l' := #[rv a1, iv p2, iv i0, iv i2, .val (.int (p2.toInt8.toInt32)), .unset]) rfl ?_
 refine g_iloadN X0 hx (H d19_4) rfl ?_
 refine g_istore X0 hx (H d19_5) (l' := #[rv a1, iv p2, iv i0, iv i2, .val (.int (p2.toInt8.toInt32)), iv i0]) rfl ?_
 refine g_iload X0 hx (H d19_7) rfl ?_
 refine g_iloadN X0 hx (H d19_9) rfl ?_
 refine g_icmpNo X0 hx (H d19_10) (tlt (by decide : (i0 < i2))).2.1 ?_
 refine g_aloadN X0 hx (H d19_13) rfl rfl ?_
 refine g_iload X0 hx (H d19_14) rfl ?_
 obtain ⟨clq3, Arq3, caq3, saq3, naq3, haq3, gaq3⟩ := id V_a1
 have inq3 : ¬ (i0 < 0 ∨ clq3.slots.size ≤ (i0).toNatClampNeg) := inb_of saq3 ⟨by decide, by decide⟩
 have atq3 : clq3.slots[(i0).toNatClampNeg]? = some (.int (nar .byte (v0.toInt8.toInt32))) := haq3.at inq3 rfl
 refine g_baload X0 hx hZ e0 Arq3 inq3 atq3 (H d19_16) ?_
 refine g_iload X0 hx (H d19_17) rfl ?_
 by_cases hc_4 : (nar .byte (v0.toInt8.toInt32)) = (p2.toInt8.toInt32)
 ·skip
  refine g_icmpNo X0 hx (H d19_19) (teq hc_4).2 ?_
  refine g_iload X0 hx (H d19_22) rfl ?_
  exact Go.ret (Q := Qm192 Z a1 p2 v0 v1 kb h0 n0) X0 (v := some (.int i0)) (fun h => by rw [hret] at h; cases h) hlk (fun fs hr => retOut X0 hx hret rfl (Or.inl ⟨rfl, Or.inl rfl, _, rfl⟩) (H d19_24) hr) e0 ⟨_, rfl, ⟨fun q => absurd q (by decide), fun q => absurd ((own_eqb hb0 hv0 hch).mp hc_4) (q.1)⟩, N0, rfl⟩ (by decide) (by decide)
 ·skip
  refine g_icmpYes X0 hx 25 (H d19_19) (feq hc_4).2 (by decide) (by decide) ?_
  refine g_iinc X0 hx (H d19_25) rfl (l' := #[rv a1, iv p2, iv i0, iv i2, .val (.int (p2.toInt8.toInt32)), iv i1]) rfl ?_
  refine g_goto X0 hx 7 (H d19_28) (by decide) (by decide) ?_
  refine g_iload X0 hx (H d19_7) rfl ?_
  refine g_iloadN X0 hx (H d19_9) rfl ?_
  refine g_icmpNo X0 hx (H d19_10) (tlt (by decide : (i1 < i2))).2.1 ?_
  refine g_aloadN X0 hx (H d19_13) rfl rfl ?_
  refine g_iload X0 hx (H d19_14) rfl ?_
  obtain ⟨clq4, Arq4, caq4, saq4, naq4, haq4, gaq4⟩ := id V_a1
  have inq4 : ¬ (i1 < 0 ∨ clq4.slots.size ≤ (i1).toNatClampNeg) := inb_of saq4 ⟨by decide, by decide⟩
  have atq4 : clq4.slots[(i1).toNatClampNeg]? = some (.int (nar .byte (v1.toInt8.toInt32))) := haq4.at inq4 rfl
  refine g_baload X0 hx hZ e0 Arq4 inq4 atq4 (H d19_16) ?_
  refine g_iload X0 hx (H d19_17) rfl ?_
  by_cases hc_5 : (nar .byte (v1.toInt8.toInt32)) = (p2.toInt8.toInt32)
  ·skip
   refine g_icmpNo X0 hx (H d19_19) (teq hc_5).2 ?_
   refine g_iload X0 hx (H d19_22) rfl ?_
   exact Go.ret (Q := Qm192 Z a1 p2 v0 v1 kb h0 n0) X0 (v := some (.int i1)) (fun h => by rw [hret] at h; cases h) hlk (fun fs hr => retOut X0 hx hret rfl (Or.inl ⟨rfl, Or.inl rfl, _, rfl⟩) (H d19_24) hr) e0 ⟨_, rfl, ⟨fun q => absurd q (by decide), fun q => absurd ((own_eqb hb1 hv1 hch).mp hc_5) (q.2)⟩, N0, rfl⟩ (by decide) (by decide)
  ·skip
   refine g_icmpYes X0 hx 25 (H d19_19) (feq hc_5).2 (by decide) (by decide) ?_
   refine g_iinc X0 hx (H d19_25) rfl (l' := #[rv a1, iv p2, iv i0, iv i2, .val (.int (p2.toInt8.toInt32)), iv i2]) rfl ?_
   refine g_goto X0 hx 7 (H d19_28) (by decide) (by decide) ?_
   refine g_iload X0 hx (H d19_7) rfl ?_
   refine g_iloadN X0 hx (H d19_9) rfl ?_
   refine g_icmpYes X0 hx 31 (H d19_10) (flt (by decide : ¬ (i2 < i2))).2.1 (by decide) (by decide) ?_
   refine g_iconst X0 hx im1 (H d19_31) rfl ?_
   exact Go.ret (Q := Qm192 Z a1 p2 v0 v1 kb h0 n0) X0 (v := some (.int im1)) (fun h => by rw [hret] at h; cases h) hlk (fun fs hr => retOut X0 hx hret rfl (Or.inl ⟨rfl, Or.inl rfl, _, rfl⟩) (H d19_32) hr) e0 ⟨_, rfl, ⟨fun _ => ⟨(fun q => hc_4 ((own_eqb hb0 hv0 hch).mpr q)), (fun q => hc_5 ((own_eqb hb1 hv1 hch).mpr q))⟩, fun _ => by decide⟩, N0, rfl⟩ (by decide) (by decide)
def Qm112 (Z : State) (a1 : Addr) (p2 : Int32) (v0 : Int32) (v1 : Int32) (kb : ClassId) (h0 : Heap) (n0 : Nat) (v : Option Value) (h : Heap) (L : List Loc) : Prop := ∃ (r0 : Int32), v = some (.int r0) ∧ ((r0 < 0) ↔ (¬ v0 = p2 ∧ ¬ v1 = p2)) ∧ Fr n0 L ∧ h = h0
theorem rm112 (l : Launch) (Z : State) (a0 : Array Value) (hw : Hw a0 Z) (a1 : Addr) (p2 : Int32) (v0 : Int32) (v1 : Int32) (kb : ClassId) (h0 : Heap) (n0 : Nat) (Z0 : n0 ≤ h0.size) (V_a1 : Arv Z h0 a1 kb .byte i2 [(.int (nar .byte (v0.toInt8.toInt32))), (.int (nar .byte (v1.toInt8.toInt32)))] (.int i0)) (hb0 : 0 ≤ v0.toInt ∧ v0.toInt ≤ 65535) (hb1 : 0 ≤ v1.toInt ∧ v1.toInt ≤ 65535) (hv0 : ¬ (i255 < v0)) (hv1 : ¬ (i255 < v1)) (hch : 0 ≤ p2.toInt ∧ p2.toInt ≤ 127) :
  Met l Z h0 yy17 jdk_43_method_22_code 4 (some .int) (rmk 1 0 0 17) #[(.ref a1), (.int p2), (.int i0), (.int i2)] (Qm112 Z a1 p2 v0 v1 kb h0 n0) := by
 refine enter (plainFor_of_name pn_11) (fun m => ef_11 m a1 p2 i0 i2) fun p e s m below meth c s₁ hx hby hml hown hnm hZ X0 e0 hret hlk => ?_
 have N0 := Fr.nil n0; have H := @hb c _ hby
 refine g_iloadN X0 hx (H d11_0) rfl ?_
 refine g_static X0 hx hZ (rm12_ff l Z a0 hw p2 h0 n0 Z0 (own_ch0 hch) (own_ch1 hch)) hown (tw62 hw) (tw63 hw) (tw60 hw) (tw64 hw) (by decide) 0 (by decide) (by decide) (by rw [hml]; rfl) [(.int p2)] [] (lenOf pd_8 rfl) (Nat.le_of_eq rfl) e0 (by decide) (by decide) rfl rfl (H d11_1) fun v3 T3 Lc3 X3 hQ3 => ?_
 obtain ⟨rfl, N3q, eq3⟩ := hQ3
 have N3 := Fr.app N0 N3q
 show Gs p e below _ T3 m 4 #[rv a1, iv p2, iv i0, iv i2] [(.int i1)]
 refine g_ifYes X3 hx 9 (H d11_4) (feq (by decide : ¬ (i1 = i0))).2 (by decide) (by decide) ?_
 refine g_iloadN X3 hx (H d11_9) rfl ?_
 refine g_iconst X3 hx i0 (H d11_10) rfl ?_
 refine g_static X3 hx hZ (rm13z_o l Z a0 hw  h0 n0 Z0 ) hown (tw65 hw) (tw66 hw) (tw67 hw) (tw68 hw) (by decide) 0 (by decide) (by decide) (by rw [hml]; rfl) [(.int i0), (.int i0)] [] (lenOf pd_9 rfl) (Nat.le_of_eq rfl) eq3 (by decide) (by decide) rfl rfl (H d11_11) fun v4 T4 Lc4 X4 hQ4 => ?_
 obtain ⟨rfl, N4q, eq4⟩ := hQ4
 have N4 := Fr.app N3 N4q
 show Gs p e below _ T4 m 14 #[rv a1, iv p2, iv i0, iv i2] [(.int i0)]
 refine g_istoreN X4 hx (H d11_14) (l' := #[rv a1, iv p2, iv i0, iv i2]) rfl ?_
 refine g_iloadN X4 hx (H d11_15) rfl ?_
 refine g_aloadN X4 hx (H d11_16) rfl rfl ?_
 obtain ⟨clq5, Arq5, caq5, saq5, naq5, haq5, gaq5⟩ := id V_a1
 refine g_len X4 hx hZ eq4 Arq5 saq5 naq5 (H d11_17) ?_
 refine g_static X4 hx hZ (rm142_o l Z a0 hw  h0 n0 Z0 ) hown (tw69 hw) (tw70 hw) (tw67 hw) (tw71 hw) (by decide) 0 (by decide) (by decide) (by rw [hml]; rfl) [(.int i2), (.int i2)] [] (lenOf pd_9 rfl) (Nat.le_of_eq rfl) eq4 (by decide) (by decide) rfl rfl (H d11_18) fun v6 T6 Lc6 X6 hQ6 => ?_
 obtain ⟨rfl, N6q, eq6⟩ := hQ6
 have N6 := Fr.app N4 N6q
 show Gs p e below _ T6 m 21 #[rv a1, iv p2, iv i0, iv i2] [(.int i2)]
 refine g_istoreN X6 hx (H d11_21) (l' := #[rv a1, iv p2, iv i0, iv i2]) rfl ?_
 refine g_iloadN X6 hx (H d11_22) rfl ?_
 refine g_iloadN X6 hx (H d11_23) rfl ?_
 refine g_icmpYes X6 hx 29 (H d11_24) (tlt (by decide : (i0 < i2))).1 (by decide) (by decide) ?_
 refine g_aloadN X6 hx (H d11_29) rfl rfl ?_
 refine g_iloadN X6 hx (H d11_30) rfl ?_
 refine g_iloadN X6 hx (H d11_31) rfl ?_
 refine g_iloadN X6 hx (H d11_32) rfl ?_
 refine g_static X6 hx hZ (rm192 l Z a0 hw a1 p2 v0 v1 kb h0 n0 Z0 V_a1 hb0 hb1 hv0 hv1 hch) hown (tw85 hw) (tw86 hw) (tw60 hw) (tw87 hw) (by decide) 0 (by decide) (by decide) (by rw [hml]; rfl) [(.ref a1), (.int p2), (.int i0), (.int i2)] [] (lenOf pd_10 rfl) (Nat.le_of_eq rfl) eq6 (by decide) (by decide) rfl rfl (H d11_33) fun v7 T7 Lc7 X7 hQ7 => ?_
 obtain ⟨r0_7, rfl, hp7, N7q, eq7⟩ := hQ7
 have N7 := Fr.app N6 N7q
 show Gs p e below _ T7 m 36 #[rv a1, iv p2, iv i0, iv i2] [(.int r0_7)]
 exact Go.ret (Q := Qm112 Z a1 p2 v0 v1 kb h0 n0) X7 (v := some (.int r0_7)) (fun h => by rw [hret] at h; cases h) hlk (fun fs hr => retOut X7 hx hret rfl (Or.inl ⟨rfl, Or.inl rfl, _, rfl⟩) (H d11_36) hr) eq7 ⟨_, rfl, hp7, N7, rfl⟩ (by decide) (by decide)
def Qm193 (Z : State) (a1 : Addr) (p2 : Int32) (v0 : Int32) (v1 : Int32) (v2 : Int32) (kb : ClassId) (h0 : Heap) (n0 : Nat) (v : Option Value) (h : Heap) (L : List Loc) : Prop := ∃ (r0 : Int32), v = some (.int r0) ∧ ((r0 < 0) ↔ (¬ v0 = p2 ∧ ¬ v1 = p2 ∧ ¬ v2 = p2)) ∧ Fr n0 L ∧ h = h0
theorem rm193 (l : Launch) (Z : State) (a0 : Array Value) (hw : Hw a0 Z) (a1 : Addr) (p2 : Int32) (v0 : Int32) (v1 : Int32) (v2 : Int32) (kb : ClassId) (h0 : Heap) (n0 : Nat) (Z0 : n0 ≤ h0.size) (V_a1 : Arv Z h0 a1 kb .byte i3 [(.int (nar .byte (v0.toInt8.toInt32))), (.int (nar .byte (v1.toInt8.toInt32))), (.int (nar .byte (v2.toInt8.toInt32)))] (.int i0)) (hb0 : 0 ≤ v0.toInt ∧ v0.toInt ≤ 65535) (hb1 : 0 ≤ v1.toInt ∧ v1.toInt ≤ 65535) (hb2 : 0 ≤ v2.toInt ∧ v2.toInt ≤ 65535) (hv0 : ¬ (i255 < v0)) (hv1 : ¬ (i255 < v1)) (hv2 : ¬ (i255 < v2)) (hch : 0 ≤ p2.toInt ∧ p2.toInt ≤ 127) :
  Met l Z h0 yy18 jdk_43_method_23_code 6 (some .int) (rmk 0 0 0 0) #[(.ref a1), (.int p2), (.int i0), (.int i3)] (Qm193 Z a1 p2 v0 v1 v2 kb h0 n0) := by
 refine enter (plainFor_of_name pn_19) (fun m => ef_19 m a1 p2 i0 i3) fun p e s m below meth c s₁ hx hby hml hown hnm hZ X0 e0 hret hlk => ?_
 have N0 := Fr.nil n0; have H := @hb c _ hby
 refine g_iloadN X0 hx (H d19_0) rfl ?_
 refine g_i2b X0 hx (H d19_1) ?_
 refine g_istore X0 hx (H d19_2) (l' := #[rv a1, iv p2, iv i0, iv i3, .val (.int (p2.toInt8.toInt32)), .unset]) rfl ?_
 refine g_iloadN X0 hx (H d19_4) rfl ?_
 refine g_istore X0 hx (H d19_5) (l' := #[rv a1, iv p2, iv i0, iv i3, .val (.int (p2.toInt8.toInt32)), iv i0]) rfl ?_
 refine g_iload X0 hx (H d19_7) rfl ?_
 refine g_iloadN X0 hx (H d19_9) rfl ?_
 refine g_icmpNo X0 hx (H d19_10) (tlt (by decide : (i0 < i3))).2.1 ?_
 refine g_aloadN X0 hx (H d19_13) rfl rfl ?_
 refine g_iload X0 hx (H d19_14) rfl ?_
 obtain ⟨clq3, Arq3, caq3, saq3, naq3, haq3, gaq3⟩ := id V_a1
 have inq3 : ¬ (i0 < 0 ∨ clq3.slots.size ≤ (i0).toNatClampNeg) := inb_of saq3 ⟨by decide, by decide⟩
 have atq3 : clq3.slots[(i0).toNatClampNeg]? = some (.int (nar .byte (v0.toInt8.toInt32))) := haq3.at inq3 rfl
 refine g_baload X0 hx hZ e0 Arq3 inq3 atq3 (H d19_16) ?_
 refine g_iload X0 hx (H d19_17) rfl ?_
 by_cases hc_6 : (nar .byte (v0.toInt8.toInt32)) = (p2.toInt8.toInt32)
 ·skip
  refine g_icmpNo X0 hx (H d19_19) (teq hc_6).2 ?_
  refine g_iload X0 hx (H d19_22) rfl ?_
  exact Go.ret (Q := Qm193 Z a1 p2 v0 v1 v2 kb h0 n0) X0 (v := some (.int i0)) (fun h => by rw [hret] at h; cases h) hlk (fun fs hr => retOut X0 hx hret rfl (Or.inl ⟨rfl, Or.inl rfl, _, rfl⟩) (H d19_24) hr) e0 ⟨_, rfl, ⟨fun q => absurd q (by decide), fun q => absurd ((own_eqb hb0 hv0 hch).mp hc_6) (q.1)⟩, N0, rfl⟩ (by decide) (by decide)
 ·skip
  refine g_icmpYes X0 hx 25 (H d19_19) (feq hc_6).2 (by decide) (by decide) ?_
  refine g_iinc X0 hx (H d19_25) rfl (l' := #[rv a1, iv p2, iv i0, iv i3, .val (.int (p2.toInt8.toInt32)), iv i1]) rfl ?_
  refine g_goto X0 hx 7 (H d19_28) (by decide) (by decide) ?_
  refine g_iload X0 hx (H d19_7) rfl ?_
  refine g_iloadN X0 hx (H d19_9) rfl ?_
  refine g_icmpNo X0 hx (H d19_10) (tlt (by decide : (i1 < i3))).2.1 ?_
  refine g_aloadN X0 hx (H d19_13) rfl rfl ?_
  refine g_iload X0 hx (H d19_14) rfl ?_
  obtain ⟨clq4, Arq4, caq4, saq4, naq4, haq4, gaq4⟩ := id V_a1
  have inq4 : ¬ (i1 < 0 ∨ clq4.slots.size ≤ (i1).toNatClampNeg) := inb_of saq4 ⟨by decide, by decide⟩
  have atq4 : clq4.slots[(i1).toNatClampNeg]? = some (.int (nar .byte (v1.toInt8.toInt32))) := haq4.at inq4 rfl
  refine g_baload X0 hx hZ e0 Arq4 inq4 atq4 (H d19_16) ?_
  refine g_iload X0 hx (H d19_17) rfl ?_
  by_cases hc_7 : (nar .byte (v1.toInt8.toInt32)) = (p2.toInt8.toInt32)
  ·skip
   refine g_icmpNo X0 hx (H d19_19) (teq hc_7).2 ?_
   refine g_iload X0 hx (H d19_22) rfl ?_
   exact Go.ret (Q := Qm193 Z a1 p2 v0 v1 v2 kb h0 n0) X0 (v := some (.int i1)) (fun h => by rw [hret] at h; cases h) hlk (fun fs hr => retOut X0 hx hret rfl (Or.inl ⟨rfl, Or.inl rfl, _, rfl⟩) (H d19_24) hr) e0 ⟨_, rfl, ⟨fun q => absurd q (by decide), fun q => absurd ((own_eqb hb1 hv1 hch).mp hc_7) (q.2.1)⟩, N0, rfl⟩ (by decide) (by decide)
  ·skip
   refine g_icmpYes X0 hx 25 (H d19_19) (feq hc_7).2 (by decide) (by decide) ?_
   refine g_iinc X0 hx (H d19_25) rfl (l' := #[rv a1, iv p2, iv i0, iv i3, .val (.int (p2.toInt8.toInt32)), iv i2]) rfl ?_
   refine g_goto X0 hx 7 (H d19_28) (by decide) (by decide) ?_
   refine g_iload X0 hx (H d19_7) rfl ?_
   refine g_iloadN X0 hx (H d19_9) rfl ?_
   refine g_icmpNo X0 hx (H d19_10) (tlt (by decide : (i2 < i3))).2.1 ?_
   refine g_aloadN X0 hx (H d19_13) rfl rfl ?_
   refine g_iload X0 hx (H d19_14) rfl ?_
   obtain ⟨clq5, Arq5, caq5, saq5, naq5, haq5, gaq5⟩ := id V_a1
   have inq5 : ¬ (i2 < 0 ∨ clq5.slots.size ≤ (i2).toNatClampNeg) := inb_of saq5 ⟨by decide, by decide⟩
   have atq5 : clq5.slots[(i2).toNatClampNeg]? = some (.int (nar .byte (v2.toInt8.toInt32))) := haq5.at inq5 rfl
   refine g_baload X0 hx hZ e0 Arq5 inq5 atq5 (H d19_16) ?_
   refine g_iload X0 hx (H d19_17) rfl ?_
   by_cases hc_8 : (nar .byte (v2.toInt8.toInt32)) = (p2.toInt8.toInt32)
   ·skip
    refine g_icmpNo X0 hx (H d19_19) (teq hc_8).2 ?_
    refine g_iload X0 hx (H d19_22) rfl ?_
    exact Go.ret (Q := Qm193 Z a1 p2 v0 v1 v2 kb h0 n0) X0 (v := some (.int i2)) (fun h => by rw [hret] at h; cases h) hlk (fun fs hr => retOut X0 hx hret rfl (Or.inl ⟨rfl, Or.inl rfl, _, rfl⟩) (H d19_24) hr) e0 ⟨_, rfl, ⟨fun q => absurd q (by decide), fun q => absurd ((own_eqb hb2 hv2 hch).mp hc_8) (q.2.2)⟩, N0, rfl⟩ (by decide) (by decide)
   ·skip
    refine g_icmpYes X0 hx 25 (H d19_19) (feq hc_8).2 (by decide) (by decide) ?_
    refine g_iinc X0 hx (H d19_25) rfl (l' := #[rv a1, iv p2, iv i0, iv i3, .val (.int (p2.toInt8.toInt32)), iv i3]) rfl ?_
    refine g_goto X0 hx 7 (H d19_28) (by decide) (by decide) ?_
    refine g_iload X0 hx (H d19_7) rfl ?_
    refine g_iloadN X0 hx (H d19_9) rfl ?_
    refine g_icmpYes X0 hx 31 (H d19_10) (flt (by decide : ¬ (i3 < i3))).2.1 (by decide) (by decide) ?_
    refine g_iconst X0 hx im1 (H d19_31) rfl ?_
    exact Go.ret (Q := Qm193 Z a1 p2 v0 v1 v2 kb h0 n0) X0 (v := some (.int im1)) (fun h => by rw [hret] at h; cases h) hlk (fun fs hr => retOut X0 hx hret rfl (Or.inl ⟨rfl, Or.inl rfl, _, rfl⟩) (H d19_32) hr) e0 ⟨_, rfl, ⟨fun _ => ⟨(fun q => hc_6 ((own_eqb hb0 hv0 hch).mpr q)), (fun q => hc_7 ((own_eqb hb1 hv1 hch).mpr q)), (fun q => hc_8 ((own_eqb hb2 hv2 hch).mpr q))⟩, fun _ => by decide⟩, N0, rfl⟩ (by decide) (by decide)
def Qm113 (Z : State) (a1 : Addr) (p2 : Int32) (v0 : Int32) (v1 : Int32) (v2 : Int32) (kb : ClassId) (h0 : Heap) (n0 : Nat) (v : Option Value) (h : Heap) (L : List Loc) : Prop := ∃ (r0 : Int32), v = some (.int r0) ∧ ((r0 < 0) ↔ (¬ v0 = p2 ∧ ¬ v1 = p2 ∧ ¬ v2 = p2)) ∧ Fr n0 L ∧ h = h0
theorem rm113 (l : Launch) (Z : State) (a0 : Array Value) (hw : Hw a0 Z) (a1 : Addr) (p2 : Int32) (v0 : Int32) (v1 : Int32) (v2 : Int32) (kb : ClassId) (h0 : Heap) (n0 : Nat) (Z0 : n0 ≤ h0.size) (V_a1 : Arv Z h0 a1 kb .byte i3 [(.int (nar .byte (v0.toInt8.toInt32))), (.int (nar .byte (v1.toInt8.toInt32))), (.int (nar .byte (v2.toInt8.toInt32)))] (.int i0)) (hb0 : 0 ≤ v0.toInt ∧ v0.toInt ≤ 65535) (hb1 : 0 ≤ v1.toInt ∧ v1.toInt ≤ 65535) (hb2 : 0 ≤ v2.toInt ∧ v2.toInt ≤ 65535) (hv0 : ¬ (i255 < v0)) (hv1 : ¬ (i255 < v1)) (hv2 : ¬ (i255 < v2)) (hch : 0 ≤ p2.toInt ∧ p2.toInt ≤ 127) :
  Met l Z h0 yy17 jdk_43_method_22_code 4 (some .int) (rmk 1 0 0 17) #[(.ref a1), (.int p2), (.int i0), (.int i3)] (Qm113 Z a1 p2 v0 v1 v2 kb h0 n0) := by
 refine enter (plainFor_of_name pn_11) (fun m => ef_11 m a1 p2 i0 i3) fun p e s m below meth c s₁ hx hby hml hown hnm hZ X0 e0 hret hlk => ?_
 have N0 := Fr.nil n0; have H := @hb c _ hby
 refine g_iloadN X0 hx (H d11_0) rfl ?_
 refine g_static X0 hx hZ (rm12_ff l Z a0 hw p2 h0 n0 Z0 (own_ch0 hch) (own_ch1 hch)) hown (tw62 hw) (tw63 hw) (tw60 hw) (tw64 hw) (by decide) 0 (by decide) (by decide) (by rw [hml]; rfl) [(.int p2)] [] (lenOf pd_8 rfl) (Nat.le_of_eq rfl) e0 (by decide) (by decide) rfl rfl (H d11_1) fun v3 T3 Lc3 X3 hQ3 => ?_
 obtain ⟨rfl, N3q, eq3⟩ := hQ3
 have N3 := Fr.app N0 N3q
 show Gs p e below _ T3 m 4 #[rv a1, iv p2, iv i0, iv i3] [(.int i1)]
 refine g_ifYes X3 hx 9 (H d11_4) (feq (by decide : ¬ (i1 = i0))).2 (by decide) (by decide) ?_
 refine g_iloadN X3 hx (H d11_9) rfl ?_
 refine g_iconst X3 hx i0 (H d11_10) rfl ?_
 refine g_static X3 hx hZ (rm13z_o l Z a0 hw  h0 n0 Z0 ) hown (tw65 hw) (tw66 hw) (tw67 hw) (tw68 hw) (by decide) 0 (by decide) (by decide) (by rw [hml]; rfl) [(.int i0), (.int i0)] [] (lenOf pd_9 rfl) (Nat.le_of_eq rfl) eq3 (by decide) (by decide) rfl rfl (H d11_11) fun v4 T4 Lc4 X4 hQ4 => ?_
 obtain ⟨rfl, N4q, eq4⟩ := hQ4
 have N4 := Fr.app N3 N4q
 show Gs p e below _ T4 m 14 #[rv a1, iv p2, iv i0, iv i3] [(.int i0)]
 refine g_istoreN X4 hx (H d11_14) (l' := #[rv a1, iv p2, iv i0, iv i3]) rfl ?_
 refine g_iloadN X4 hx (H d11_15) rfl ?_
 refine g_aloadN X4 hx (H d11_16) rfl rfl ?_
 obtain ⟨clq5, Arq5, caq5, saq5, naq5, haq5, gaq5⟩ := id V_a1
 refine g_len X4 hx hZ eq4 Arq5 saq5 naq5 (H d11_17) ?_
 refine g_static X4 hx hZ (rm143_o l Z a0 hw  h0 n0 Z0 ) hown (tw69 hw) (tw70 hw) (tw67 hw) (tw71 hw) (by decide) 0 (by decide) (by decide) (by rw [hml]; rfl) [(.int i3), (.int i3)] [] (lenOf pd_9 rfl) (Nat.le_of_eq rfl) eq4 (by decide) (by decide) rfl rfl (H d11_18) fun v6 T6 Lc6 X6 hQ6 => ?_
 obtain ⟨rfl, N6q, eq6⟩ := hQ6
 have N6 := Fr.app N4 N6q
 show Gs p e below _ T6 m 21 #[rv a1, iv p2, iv i0, iv i3] [(.int i3)]
 refine g_istoreN X6 hx (H d11_21) (l' := #[rv a1, iv p2, iv i0, iv i3]) rfl ?_
 refine g_iloadN X6 hx (H d11_22) rfl ?_
 refine g_iloadN X6 hx (H d11_23) rfl ?_
 refine g_icmpYes X6 hx 29 (H d11_24) (tlt (by decide : (i0 < i3))).1 (by decide) (by decide) ?_
 refine g_aloadN X6 hx (H d11_29) rfl rfl ?_
 refine g_iloadN X6 hx (H d11_30) rfl ?_
 refine g_iloadN X6 hx (H d11_31) rfl ?_
 refine g_iloadN X6 hx (H d11_32) rfl ?_
 refine g_static X6 hx hZ (rm193 l Z a0 hw a1 p2 v0 v1 v2 kb h0 n0 Z0 V_a1 hb0 hb1 hb2 hv0 hv1 hv2 hch) hown (tw85 hw) (tw86 hw) (tw60 hw) (tw87 hw) (by decide) 0 (by decide) (by decide) (by rw [hml]; rfl) [(.ref a1), (.int p2), (.int i0), (.int i3)] [] (lenOf pd_10 rfl) (Nat.le_of_eq rfl) eq6 (by decide) (by decide) rfl rfl (H d11_33) fun v7 T7 Lc7 X7 hQ7 => ?_
 obtain ⟨r0_7, rfl, hp7, N7q, eq7⟩ := hQ7
 have N7 := Fr.app N6 N7q
 show Gs p e below _ T7 m 36 #[rv a1, iv p2, iv i0, iv i3] [(.int r0_7)]
 exact Go.ret (Q := Qm113 Z a1 p2 v0 v1 v2 kb h0 n0) X7 (v := some (.int r0_7)) (fun h => by rw [hret] at h; cases h) hlk (fun fs hr => retOut X7 hx hret rfl (Or.inl ⟨rfl, Or.inl rfl, _, rfl⟩) (H d11_36) hr) eq7 ⟨_, rfl, hp7, N7, rfl⟩ (by decide) (by decide)
def Qm194 (Z : State) (a1 : Addr) (p2 : Int32) (v0 : Int32) (v1 : Int32) (v2 : Int32) (v3 : Int32) (kb : ClassId) (h0 : Heap) (n0 : Nat) (v : Option Value) (h : Heap) (L : List Loc) : Prop := ∃ (r0 : Int32), v = some (.int r0) ∧ ((r0 < 0) ↔ (¬ v0 = p2 ∧ ¬ v1 = p2 ∧ ¬ v2 = p2 ∧ ¬ v3 = p2)) ∧ Fr n0 L ∧ h = h0
theorem rm194 (l : Launch) (Z : State) (a0 : Array Value) (hw : Hw a0 Z) (a1 : Addr) (p2 : Int32) (v0 : Int32) (v1 : Int32) (v2 : Int32) (v3 : Int32) (kb : ClassId) (h0 : Heap) (n0 : Nat) (Z0 : n0 ≤ h0.size) (V_a1 : Arv Z h0 a1 kb .byte i4 [(.int (nar .byte (v0.toInt8.toInt32))), (.int (nar .byte (v1.toInt8.toInt32))), (.int (nar .byte (v2.toInt8.toInt32))), (.int (nar .byte (v3.toInt8.toInt32)))] (.int i0)) (hb0 : 0 ≤ v0.toInt ∧ v0.toInt ≤ 65535) (hb1 : 0 ≤ v1.toInt ∧ v1.toInt ≤ 65535) (hb2 : 0 ≤ v2.toInt ∧ v2.toInt ≤ 65535) (hb3 : 0 ≤ v3.toInt ∧ v3.toInt ≤ 65535) (hv0 : ¬ (i255 < v0)) (hv1 : ¬ (i255 < v1)) (hv2 : ¬ (i255 < v2)) (hv3 : ¬ (i255 < v3)) (hch : 0 ≤ p2.toInt ∧ p2.toInt ≤ 127) :
  Met l Z h0 yy18 jdk_43_method_23_code 6 (some .int) (rmk 0 0 0 0) #[(.ref a1), (.int p2), (.int i0), (.int i4)] (Qm194 Z a1 p2 v0 v1 v2 v3 kb h0 n0) := by
 refine enter (plainFor_of_name pn_19) (fun m => ef_19 m a1 p2 i0 i4) fun p e s m below meth c s₁ hx hby hml hown hnm hZ X0 e0 hret hlk => ?_
 have N0 := Fr.nil n0; have H := @hb c _ hby
 refine g_iloadN X0 hx (H d19_0) rfl ?_
 refine g_i2b X0 hx (H d19_1) ?_
 refine g_istore X0 hx (H d19_2) (l' := #[rv a1, iv p2, iv i0, iv i4, .val (.int (p2.toInt8.toInt32)), .unset]) rfl ?_
 refine g_iloadN X0 hx (H d19_4) rfl ?_
 refine g_istore X0 hx (H d19_5) (l' := #[rv a1, iv p2, iv i0, iv i4, .val (.int (p2.toInt8.toInt32)), iv i0]) rfl ?_
 refine g_iload X0 hx (H d19_7) rfl ?_
 refine g_iloadN X0 hx (H d19_9) rfl ?_
 refine g_icmpNo X0 hx (H d19_10) (tlt (by decide : (i0 < i4))).2.1 ?_
 refine g_aloadN X0 hx (H d19_13) rfl rfl ?_
 refine g_iload X0 hx (H d19_14) rfl ?_
 obtain ⟨clq3, Arq3, caq3, saq3, naq3, haq3, gaq3⟩ := id V_a1
 have inq3 : ¬ (i0 < 0 ∨ clq3.slots.size ≤ (i0).toNatClampNeg) := inb_of saq3 ⟨by decide, by decide⟩
 have atq3 : clq3.slots[(i0).toNatClampNeg]? = some (.int (nar .byte (v0.toInt8.toInt32))) := haq3.at inq3 rfl
 refine g_baload X0 hx hZ e0 Arq3 inq3 atq3 (H d19_16) ?_
 refine g_iload X0 hx (H d19_17) rfl ?_
 by_cases hc_9 : (nar .byte (v0.toInt8.toInt32)) = (p2.toInt8.toInt32)
 ·skip
  refine g_icmpNo X0 hx (H d19_19) (teq hc_9).2 ?_
  refine g_iload X0 hx (H d19_22) rfl ?_
  exact Go.ret (Q := Qm194 Z a1 p2 v0 v1 v2 v3 kb h0 n0) X0 (v := some (.int i0)) (fun h => by rw [hret] at h; cases h) hlk (fun fs hr => retOut X0 hx hret rfl (Or.inl ⟨rfl, Or.inl rfl, _, rfl⟩) (H d19_24) hr) e0 ⟨_, rfl, ⟨fun q => absurd q (by decide), fun q => absurd ((own_eqb hb0 hv0 hch).mp hc_9) (q.1)⟩, N0, rfl⟩ (by decide) (by decide)
 ·skip
  refine g_icmpYes X0 hx 25 (H d19_19) (feq hc_9).2 (by decide) (by decide) ?_
  refine g_iinc X0 hx (H d19_25) rfl (l' := #[rv a1, iv p2, iv i0, iv i4, .val (.int (p2.toInt8.toInt32)), iv i1]) rfl ?_
  refine g_goto X0 hx 7 (H d19_28) (by decide) (by decide) ?_
  refine g_iload X0 hx (H d19_7) rfl ?_
  refine g_iloadN X0 hx (H d19_9) rfl ?_
  refine g_icmpNo X0 hx (H d19_10) (tlt (by decide : (i1 < i4))).2.1 ?_
  refine g_aloadN X0 hx (H d19_13) rfl rfl ?_
  refine g_iload X0 hx (H d19_14) rfl ?_
  obtain ⟨clq4, Arq4, caq4, saq4, naq4, haq4, gaq4⟩ := id V_a1
  have inq4 : ¬ (i1 < 0 ∨ clq4.slots.size ≤ (i1).toNatClampNeg) := inb_of saq4 ⟨by decide, by decide⟩
  have atq4 : clq4.slots[(i1).toNatClampNeg]? = some (.int (nar .byte (v1.toInt8.toInt32))) := haq4.at inq4 rfl
  refine g_baload X0 hx hZ e0 Arq4 inq4 atq4 (H d19_16) ?_
  refine g_iload X0 hx (H d19_17) rfl ?_
  by_cases hc_10 : (nar .byte (v1.toInt8.toInt32)) = (p2.toInt8.toInt32)
  ·skip
   refine g_icmpNo X0 hx (H d19_19) (teq hc_10).2 ?_
   refine g_iload X0 hx (H d19_22) rfl ?_
   exact Go.ret (Q := Qm194 Z a1 p2 v0 v1 v2 v3 kb h0 n0) X0 (v := some (.int i1)) (fun h => by rw [hret] at h; cases h) hlk (fun fs hr => retOut X0 hx hret rfl (Or.inl ⟨rfl, Or.inl rfl, _, rfl⟩) (H d19_24) hr) e0 ⟨_, rfl, ⟨fun q => absurd q (by decide), fun q => absurd ((own_eqb hb1 hv1 hch).mp hc_10) (q.2.1)⟩, N0, rfl⟩ (by decide) (by decide)
  ·skip
   refine g_icmpYes X0 hx 25 (H d19_19) (feq hc_10).2 (by decide) (by decide) ?_
   refine g_iinc X0 hx (H d19_25) rfl (l' := #[rv a1, iv p2, iv i0, iv i4, .val (.int (p2.toInt8.toInt32)), iv i2]) rfl ?_
   refine g_goto X0 hx 7 (H d19_28) (by decide) (by decide) ?_
   refine g_iload X0 hx (H d19_7) rfl ?_
   refine g_iloadN X0 hx (H d19_9) rfl ?_
   refine g_icmpNo X0 hx (H d19_10) (tlt (by decide : (i2 < i4))).2.1 ?_
   refine g_aloadN X0 hx (H d19_13) rfl rfl ?_
   refine g_iload X0 hx (H d19_14) rfl ?_
   obtain ⟨clq5, Arq5, caq5, saq5, naq5, haq5, gaq5⟩ := id V_a1
   have inq5 : ¬ (i2 < 0 ∨ clq5.slots.size ≤ (i2).toNatClampNeg) := inb_of saq5 ⟨by decide, by decide⟩
   have atq5 : clq5.slots[(i2).toNatClampNeg]? = some (.int (nar .byte (v2.toInt8.toInt32))) := haq5.at inq5 rfl
   refine g_baload X0 hx hZ e0 Arq5 inq5 atq5 (H d19_16) ?_
   refine g_iload X0 hx (H d19_17) rfl ?_
   by_cases hc_11 : (nar .byte (v2.toInt8.toInt32)) = (p2.toInt8.toInt32)
   ·skip
    refine g_icmpNo X0 hx (H d19_19) (teq hc_11).2 ?_
    refine g_iload X0 hx (H d19_22) rfl ?_
    exact Go.ret (Q := Qm194 Z a1 p2 v0 v1 v2 v3 kb h0 n0) X0 (v := some (.int i2)) (fun h => by rw [hret] at h; cases h) hlk (fun fs hr => retOut X0 hx hret rfl (Or.inl ⟨rfl, Or.inl rfl, _, rfl⟩) (H d19_24) hr) e0 ⟨_, rfl, ⟨fun q => absurd q (by decide), fun q => absurd ((own_eqb hb2 hv2 hch).mp hc_11) (q.2.2.1)⟩, N0, rfl⟩ (by decide) (by decide)
   ·skip
    refine g_icmpYes X0 hx 25 (H d19_19) (feq hc_11).2 (by decide) (by decide) ?_
    refine g_iinc X0 hx (H d19_25) rfl (l' := #[rv a1, iv p2, iv i0, iv i4, .val (.int (p2.toInt8.toInt32)), iv i3]) rfl ?_
    refine g_goto X0 hx 7 (H d19_28) (by decide) (by decide) ?_
    refine g_iload X0 hx (H d19_7) rfl ?_
    refine g_iloadN X0 hx (H d19_9) rfl ?_
    refine g_icmpNo X0 hx (H d19_10) (tlt (by decide : (i3 < i4))).2.1 ?_
    refine g_aloadN X0 hx (H d19_13) rfl rfl ?_
    refine g_iload X0 hx (H d19_14) rfl ?_
    obtain ⟨clq6, Arq6, caq6, saq6, naq6, haq6, gaq6⟩ := id V_a1
    have inq6 : ¬ (i3 < 0 ∨ clq6.slots.size ≤ (i3).toNatClampNeg) := inb_of saq6 ⟨by decide, by decide⟩
    have atq6 : clq6.slots[(i3).toNatClampNeg]? = some (.int (nar .byte (v3.toInt8.toInt32))) := haq6.at inq6 rfl
    refine g_baload X0 hx hZ e0 Arq6 inq6 atq6 (H d19_16) ?_
    refine g_iload X0 hx (H d19_17) rfl ?_
    by_cases hc_12 : (nar .byte (v3.toInt8.toInt32)) = (p2.toInt8.toInt32)
    ·skip
     refine g_icmpNo X0 hx (H d19_19) (teq hc_12).2 ?_
     refine g_iload X0 hx (H d19_22) rfl ?_
     exact Go.ret (Q := Qm194 Z a1 p2 v0 v1 v2 v3 kb h0 n0) X0 (v := some (.int i3)) (fun h => by rw [hret] at h; cases h) hlk (fun fs hr => retOut X0 hx hret rfl (Or.inl ⟨rfl, Or.inl rfl, _, rfl⟩) (H d19_24) hr) e0 ⟨_, rfl, ⟨fun q => absurd q (by decide), fun q => absurd ((own_eqb hb3 hv3 hch).mp hc_12) (q.2.2.2)⟩, N0, rfl⟩ (by decide) (by decide)
    ·skip
     refine g_icmpYes X0 hx 25 (H d19_19) (feq hc_12).2 (by decide) (by decide) ?_
     refine g_iinc X0 hx (H d19_25) rfl (l' := #[rv a1, iv p2, iv i0, iv i4, .val (.int (p2.toInt8.toInt32)), iv i4]) rfl ?_
     refine g_goto X0 hx 7 (H d19_28) (by decide) (by decide) ?_
     refine g_iload X0 hx (H d19_7) rfl ?_
     refine g_iloadN X0 hx (H d19_9) rfl ?_
     refine g_icmpYes X0 hx 31 (H d19_10) (flt (by decide : ¬ (i4 < i4))).2.1 (by decide) (by decide) ?_
     refine g_iconst X0 hx im1 (H d19_31) rfl ?_
     exact Go.ret (Q := Qm194 Z a1 p2 v0 v1 v2 v3 kb h0 n0) X0 (v := some (.int im1)) (fun h => by rw [hret] at h; cases h) hlk (fun fs hr => retOut X0 hx hret rfl (Or.inl ⟨rfl, Or.inl rfl, _, rfl⟩) (H d19_32) hr) e0 ⟨_, rfl, ⟨fun _ => ⟨(fun q => hc_9 ((own_eqb hb0 hv0 hch).mpr q)), (fun q => hc_10 ((own_eqb hb1 hv1 hch).mpr q)), (fun q => hc_11 ((own_eqb hb2 hv2 hch).mpr q)), (fun q => hc_12 ((own_eqb hb3 hv3 hch).mpr q))⟩, fun _ => by decide⟩, N0, rfl⟩ (by decide) (by decide)
def Qm114 (Z : State) (a1 : Addr) (p2 : Int32) (v0 : Int32) (v1 : Int32) (v2 : Int32) (v3 : Int32) (kb : ClassId) (h0 : Heap) (n0 : Nat) (v : Option Value) (h : Heap) (L : List Loc) : Prop := ∃ (r0 : Int32), v = some (.int r0) ∧ ((r0 < 0) ↔ (¬ v0 = p2 ∧ ¬ v1 = p2 ∧ ¬ v2 = p2 ∧ ¬ v3 = p2)) ∧ Fr n0 L ∧ h = h0
theorem rm114 (l : Launch) (Z : State) (a0 : Array Value) (hw : Hw a0 Z) (a1 : Addr) (p2 : Int32) (v0 : Int32) (v1 : Int32) (v2 : Int32) (v3 : Int32) (kb : ClassId) (h0 : Heap) (n0 : Nat) (Z0 : n0 ≤ h0.size) (V_a1 : Arv Z h0 a1 kb .byte i4 [(.int (nar .byte (v0.toInt8.toInt32))), (.int (nar .byte (v1.toInt8.toInt32))), (.int (nar .byte (v2.toInt8.toInt32))), (.int (nar .byte (v3.toInt8.toInt32)))] (.int i0)) (hb0 : 0 ≤ v0.toInt ∧ v0.toInt ≤ 65535) (hb1 : 0 ≤ v1.toInt ∧ v1.toInt ≤ 65535) (hb2 : 0 ≤ v2.toInt ∧ v2.toInt ≤ 65535) (hb3 : 0 ≤ v3.toInt ∧ v3.toInt ≤ 65535) (hv0 : ¬ (i255 < v0)) (hv1 : ¬ (i255 < v1)) (hv2 : ¬ (i255 < v2)) (hv3 : ¬ (i255 < v3)) (hch : 0 ≤ p2.toInt ∧ p2.toInt ≤ 127) :
  Met l Z h0 yy17 jdk_43_method_22_code 4 (some .int) (rmk 1 0 0 17) #[(.ref a1), (.int p2), (.int i0), (.int i4)] (Qm114 Z a1 p2 v0 v1 v2 v3 kb h0 n0) := by
 refine enter (plainFor_of_name pn_11) (fun m => ef_11 m a1 p2 i0 i4) fun p e s m below meth c s₁ hx hby hml hown hnm hZ X0 e0 hret hlk => ?_
 have N0 := Fr.nil n0; have H := @hb c _ hby
 refine g_iloadN X0 hx (H d11_0) rfl ?_
 refine g_static X0 hx hZ (rm12_ff l Z a0 hw p2 h0 n0 Z0 (own_ch0 hch) (own_ch1 hch)) hown (tw62 hw) (tw63 hw) (tw60 hw) (tw64 hw) (by decide) 0 (by decide) (by decide) (by rw [hml]; rfl) [(.int p2)] [] (lenOf pd_8 rfl) (Nat.le_of_eq rfl) e0 (by decide) (by decide) rfl rfl (H d11_1) fun v3 T3 Lc3 X3 hQ3 => ?_
 obtain ⟨rfl, N3q, eq3⟩ := hQ3
 have N3 := Fr.app N0 N3q
 show Gs p e below _ T3 m 4 #[rv a1, iv p2, iv i0, iv i4] [(.int i1)]
 refine g_ifYes X3 hx 9 (H d11_4) (feq (by decide : ¬ (i1 = i0))).2 (by decide) (by decide) ?_
 refine g_iloadN X3 hx (H d11_9) rfl ?_
 refine g_iconst X3 hx i0 (H d11_10) rfl ?_
 refine g_static X3 hx hZ (rm13z_o l Z a0 hw  h0 n0 Z0 ) hown (tw65 hw) (tw66 hw) (tw67 hw) (tw68 hw) (by decide) 0 (by decide) (by decide) (by rw [hml]; rfl) [(.int i0), (.int i0)] [] (lenOf pd_9 rfl) (Nat.le_of_eq rfl) eq3 (by decide) (by decide) rfl rfl (H d11_11) fun v4 T4 Lc4 X4 hQ4 => ?_
 obtain ⟨rfl, N4q, eq4⟩ := hQ4
 have N4 := Fr.app N3 N4q
 show Gs p e below _ T4 m 14 #[rv a1, iv p2, iv i0, iv i4] [(.int i0)]
 refine g_istoreN X4 hx (H d11_14) (l' := #[rv a1, iv p2, iv i0, iv i4]) rfl ?_
 refine g_iloadN X4 hx (H d11_15) rfl ?_
 refine g_aloadN X4 hx (H d11_16) rfl rfl ?_
 obtain ⟨clq5, Arq5, caq5, saq5, naq5, haq5, gaq5⟩ := id V_a1
 refine g_len X4 hx hZ eq4 Arq5 saq5 naq5 (H d11_17) ?_
 refine g_static X4 hx hZ (rm144_o l Z a0 hw  h0 n0 Z0 ) hown (tw69 hw) (tw70 hw) (tw67 hw) (tw71 hw) (by decide) 0 (by decide) (by decide) (by rw [hml]; rfl) [(.int i4), (.int i4)] [] (lenOf pd_9 rfl) (Nat.le_of_eq rfl) eq4 (by decide) (by decide) rfl rfl (H d11_18) fun v6 T6 Lc6 X6 hQ6 => ?_
 obtain ⟨rfl, N6q, eq6⟩ := hQ6
 have N6 := Fr.app N4 N6q
 show Gs p e below _ T6 m 21 #[rv a1, iv p2, iv i0, iv i4] [(.int i4)]
 refine g_istoreN X6 hx (H d11_21) (l' := #[rv a1, iv p2, iv i0, iv i4]) rfl ?_
 refine g_iloadN X6 hx (H d11_22) rfl ?_
 refine g_iloadN X6 hx (H d11_23) rfl ?_
 refine g_icmpYes X6 hx 29 (H d11_24) (tlt (by decide : (i0 < i4))).1 (by decide) (by decide) ?_
 refine g_aloadN X6 hx (H d11_29) rfl rfl ?_
 refine g_iloadN X6 hx (H d11_30) rfl ?_
 refine g_iloadN X6 hx (H d11_31) rfl ?_
 refine g_iloadN X6 hx (H d11_32) rfl ?_
 refine g_static X6 hx hZ (rm194 l Z a0 hw a1 p2 v0 v1 v2 v3 kb h0 n0 Z0 V_a1 hb0 hb1 hb2 hb3 hv0 hv1 hv2 hv3 hch) hown (tw85 hw) (tw86 hw) (tw60 hw) (tw87 hw) (by decide) 0 (by decide) (by decide) (by rw [hml]; rfl) [(.ref a1), (.int p2), (.int i0), (.int i4)] [] (lenOf pd_10 rfl) (Nat.le_of_eq rfl) eq6 (by decide) (by decide) rfl rfl (H d11_33) fun v7 T7 Lc7 X7 hQ7 => ?_
 obtain ⟨r0_7, rfl, hp7, N7q, eq7⟩ := hQ7
 have N7 := Fr.app N6 N7q
 show Gs p e below _ T7 m 36 #[rv a1, iv p2, iv i0, iv i4] [(.int r0_7)]
 exact Go.ret (Q := Qm114 Z a1 p2 v0 v1 v2 v3 kb h0 n0) X7 (v := some (.int r0_7)) (fun h => by rw [hret] at h; cases h) hlk (fun fs hr => retOut X7 hx hret rfl (Or.inl ⟨rfl, Or.inl rfl, _, rfl⟩) (H d11_36) hr) eq7 ⟨_, rfl, hp7, N7, rfl⟩ (by decide) (by decide)
def Qm281_o (Z : State) (a1 : Addr) (h0 : Heap) (n0 : Nat) (v : Option Value) (h : Heap) (L : List Loc) : Prop := v = some (.int i1) ∧ Fr n0 L ∧ h = h0
theorem rm281_o (l : Launch) (Z : State) (a0 : Array Value) (hw : Hw a0 Z) (a1 : Addr) (h0 : Heap) (n0 : Nat) (Z0 : n0 ≤ h0.size) (V_a1 : Arn Z h0 a1 .byte i2) :
  Met l Z h0 yy19 jdk_52_method_6_code 1 (some .int) (rmk 0 0 0 0) #[(.ref a1)] (Qm281_o Z a1 h0 n0) := by
 refine enter (plainFor_of_name pn_28) (fun m => ef_28 m a1) fun p e s m below meth c s₁ hx hby hml hown hnm hZ X0 e0 hret hlk => ?_
 have N0 := Fr.nil n0; have H := @hb c _ hby
 refine g_aloadN X0 hx (H d28_0) rfl rfl ?_
 obtain ⟨clq2, Arq2, saq2, naq2⟩ := id V_a1
 refine g_len X0 hx hZ e0 Arq2 saq2 naq2 (H d28_1) ?_
 refine g_iconst X0 hx i1 (H d28_2) rfl ?_
 refine g_ishr X0 hx (H d28_3) ?_
 rw [show (i2 >>> (i1 &&& 31)) = i1 from by decide]
 show Gs p e below _ s₁ m 4 #[rv a1] [(.int i1)]
 exact Go.ret (Q := Qm281_o Z a1 h0 n0) X0 (v := some (.int i1)) (fun h => by rw [hret] at h; cases h) hlk (fun fs hr => retOut X0 hx hret rfl (Or.inl ⟨rfl, Or.inl rfl, _, rfl⟩) (H d28_4) hr) e0 ⟨rfl, N0, rfl⟩ (by decide) (by decide)
def Qm301_o (Z : State) (a1 : Addr) (h0 : Heap) (n0 : Nat) (v : Option Value) (h : Heap) (L : List Loc) : Prop := v = some (.int i0) ∧ Fr n0 L ∧ h = h0
theorem rm301_o (l : Launch) (Z : State) (a0 : Array Value) (hw : Hw a0 Z) (a1 : Addr) (h0 : Heap) (n0 : Nat) (Z0 : n0 ≤ h0.size) :
  Met l Z h0 yy20 jdk_41_method_12_code 4 (some .int) (rmk 0 0 0 0) #[(.int i0), (.int i1), (.int i1), (.ref a1)] (Qm301_o Z a1 h0 n0) := by
 refine enter (plainFor_of_name pn_30) (fun m => ef_30 m i0 i1 i1 a1) fun p e s m below meth c s₁ hx hby hml hown hnm hZ X0 e0 hret hlk => ?_
 have N0 := Fr.nil n0; have H := @hb c _ hby
 refine g_iloadN X0 hx (H d30_0) rfl ?_
 refine g_ifNo X0 hx (H d30_1) (flt (by decide : ¬ (i0 < i0))).1 ?_
 refine g_iloadN X0 hx (H d30_4) rfl ?_
 refine g_iloadN X0 hx (H d30_5) rfl ?_
 refine g_icmpNo X0 hx (H d30_6) (flt (by decide : ¬ (i1 < i0))).2.2.1 ?_
 refine g_iloadN X0 hx (H d30_9) rfl ?_
 refine g_iloadN X0 hx (H d30_10) rfl ?_
 refine g_icmpYes X0 hx 22 (H d30_11) (flt (by decide : ¬ (i1 < i1))).2.2.2 (by decide) (by decide) ?_
 refine g_iloadN X0 hx (H d30_22) rfl ?_
 exact Go.ret (Q := Qm301_o Z a1 h0 n0) X0 (v := some (.int i0)) (fun h => by rw [hret] at h; cases h) hlk (fun fs hr => retOut X0 hx hret rfl (Or.inl ⟨rfl, Or.inl rfl, _, rfl⟩) (H d30_23) hr) e0 ⟨rfl, N0, rfl⟩ (by decide) (by decide)
def Qm301n_o (Z : State)  (h0 : Heap) (n0 : Nat) (v : Option Value) (h : Heap) (L : List Loc) : Prop := v = some (.int i0) ∧ Fr n0 L ∧ h = h0
theorem rm301n_o (l : Launch) (Z : State) (a0 : Array Value) (hw : Hw a0 Z)  (h0 : Heap) (n0 : Nat) (Z0 : n0 ≤ h0.size) :
  Met l Z h0 yy20 jdk_41_method_12_code 4 (some .int) (rmk 0 0 0 0) #[(.int i0), (.int i1), (.int i1), .null] (Qm301n_o Z  h0 n0) := by
 refine enter (plainFor_of_name pn_30) (fun m => ef_301n m i0 i1 i1) fun p e s m below meth c s₁ hx hby hml hown hnm hZ X0 e0 hret hlk => ?_
 have N0 := Fr.nil n0; have H := @hb c _ hby
 refine g_iloadN X0 hx (H d30_0) rfl ?_
 refine g_ifNo X0 hx (H d30_1) (flt (by decide : ¬ (i0 < i0))).1 ?_
 refine g_iloadN X0 hx (H d30_4) rfl ?_
 refine g_iloadN X0 hx (H d30_5) rfl ?_
 refine g_icmpNo X0 hx (H d30_6) (flt (by decide : ¬ (i1 < i0))).2.2.1 ?_
 refine g_iloadN X0 hx (H d30_9) rfl ?_
 refine g_iloadN X0 hx (H d30_10) rfl ?_
 refine g_icmpYes X0 hx 22 (H d30_11) (flt (by decide : ¬ (i1 < i1))).2.2.2 (by decide) (by decide) ?_
 refine g_iloadN X0 hx (H d30_22) rfl ?_
 exact Go.ret (Q := Qm301n_o Z  h0 n0) X0 (v := some (.int i0)) (fun h => by rw [hret] at h; cases h) hlk (fun fs hr => retOut X0 hx hret rfl (Or.inl ⟨rfl, Or.inl rfl, _, rfl⟩) (H d30_23) hr) e0 ⟨rfl, N0, rfl⟩ (by decide) (by decide)
def Qm291 (Z : State)  (h0 : Heap) (n0 : Nat) (v : Option Value) (h : Heap) (L : List Loc) : Prop := v = none ∧ Fr n0 L ∧ h = h0
theorem rm291 (l : Launch) (Z : State) (a0 : Array Value) (hw : Hw a0 Z)  (h0 : Heap) (n0 : Nat) (Z0 : n0 ≤ h0.size) (hfm : ∃ v : Value, v.isRef = true ∧ Sta Z h0 s6_ s7_ s8_ v) :
  Met l Z h0 yy21 jdk_42_method_158_code 3 none (rmk 1 0 0 15) #[(.int i0), (.int i1), (.int i1)] (Qm291 Z  h0 n0) := by
 refine enter (plainFor_of_name pn_29) (fun m => ef_29 m i0 i1 i1) fun p e s m below meth c s₁ hx hby hml hown hnm hZ X0 e0 hret hlk => ?_
 have N0 := Fr.nil n0; have H := @hb c _ hby
 refine g_iloadN X0 hx (H d29_0) rfl ?_
 refine g_iloadN X0 hx (H d29_1) rfl ?_
 refine g_iloadN X0 hx (H d29_2) rfl ?_
 obtain ⟨vfm, hvf, hSf⟩ := hfm
 rcases ref_cases hvf with rfl | ⟨wfm, rfl⟩
 ·skip
  refine g_getS X0 hx hZ hown (tw125 hw) e0 hSf (H d29_3) fun T1 X1 e1 => ?_
  refine g_static X1 hx hZ (rm301n_o l Z a0 hw  h0 n0 Z0 ) hown (tw127 hw) (tw128 hw) (tw126 hw) (tw129 hw) (by decide) 0 (by decide) (by decide) (by rw [hml]; rfl) [(.int i0), (.int i1), (.int i1), .null] [] (lenOf pd_11 rfl) (Nat.le_of_eq rfl) e1 (by decide) (by decide) rfl rfl (H d29_6) fun v2 T2 Lc2 X2 hQ2 => ?_
  obtain ⟨rfl, N2q, eq2⟩ := hQ2
  have N2 := Fr.app N0 N2q
  show Gs p e below _ T2 m 9 #[iv i0, iv i1, iv i1] [(.int i0)]
  refine g_pop X2 hx (H d29_9) rfl ?_
  exact Go.ret (Q := Qm291 Z  h0 n0) X2 (v := none) (fun _ => rfl) hlk (fun fs hr => X2.returnOut hx hret (H d29_10) hr) eq2 ⟨rfl, N2, rfl⟩ (by decide) (by decide)
 ·skip
  refine g_getS X0 hx hZ hown (tw125 hw) e0 hSf (H d29_3) fun T3 X3 e3 => ?_
  refine g_static X3 hx hZ (rm301_o l Z a0 hw wfm h0 n0 Z0 ) hown (tw127 hw) (tw128 hw) (tw126 hw) (tw129 hw) (by decide) 0 (by decide) (by decide) (by rw [hml]; rfl) [(.int i0), (.int i1), (.int i1), (.ref wfm)] [] (lenOf pd_11 rfl) (Nat.le_of_eq rfl) e3 (by decide) (by decide) rfl rfl (H d29_6) fun v4 T4 Lc4 X4 hQ4 => ?_
  obtain ⟨rfl, N4q, eq4⟩ := hQ4
  have N4 := Fr.app N0 N4q
  show Gs p e below _ T4 m 9 #[iv i0, iv i1, iv i1] [(.int i0)]
  refine g_pop X4 hx (H d29_9) rfl ?_
  exact Go.ret (Q := Qm291 Z  h0 n0) X4 (v := none) (fun _ => rfl) hlk (fun fs hr => X4.returnOut hx hret (H d29_10) hr) eq4 ⟨rfl, N4, rfl⟩ (by decide) (by decide)
def Qm271_o (Z : State) (a1 : Addr) (h0 : Heap) (n0 : Nat) (v : Option Value) (h : Heap) (L : List Loc) : Prop := v = none ∧ Fr n0 L ∧ h = h0
theorem rm271_o (l : Launch) (Z : State) (a0 : Array Value) (hw : Hw a0 Z) (a1 : Addr) (h0 : Heap) (n0 : Nat) (Z0 : n0 ≤ h0.size) (V_a1 : Arn Z h0 a1 .byte i2) (hfm : ∃ v : Value, v.isRef = true ∧ Sta Z h0 s6_ s7_ s8_ v) :
  Met l Z h0 yy22 jdk_52_method_93_code 3 none (rmk 2 0 0 29) #[(.int i0), (.int i1), (.ref a1)] (Qm271_o Z a1 h0 n0) := by
 refine enter (plainFor_of_name pn_27) (fun m => ef_27 m i0 i1 a1) fun p e s m below meth c s₁ hx hby hml hown hnm hZ X0 e0 hret hlk => ?_
 have N0 := Fr.nil n0; have H := @hb c _ hby
 refine g_iloadN X0 hx (H d27_0) rfl ?_
 refine g_iloadN X0 hx (H d27_1) rfl ?_
 refine g_aloadN X0 hx (H d27_2) rfl rfl ?_
 refine g_static X0 hx hZ (rm281_o l Z a0 hw a1 h0 n0 Z0 V_a1) hown (tw119 hw) (tw120 hw) (tw74 hw) (tw121 hw) (by decide) 2 (by decide) (by decide) (by rw [hml]; rfl) [(.ref a1)] [(.int i1), (.int i0)] (lenOf pd_12 rfl) (Nat.le_of_eq rfl) e0 (by decide) (by decide) rfl rfl (H d27_3) fun v2 T2 Lc2 X2 hQ2 => ?_
 obtain ⟨rfl, N2q, eq2⟩ := hQ2
 have N2 := Fr.app N0 N2q
 show Gs p e below _ T2 m 6 #[iv i0, iv i1, rv a1] [(.int i1), (.int i1), (.int i0)]
 refine g_static X2 hx hZ (rm291 l Z a0 hw  h0 n0 Z0 hfm) hown (tw122 hw) (tw123 hw) (tw8 hw) (tw124 hw) (by decide) 0 (by decide) (by decide) (by rw [hml]; rfl) [(.int i0), (.int i1), (.int i1)] [] (lenOf pd_13 rfl) (Nat.le_of_eq rfl) eq2 (by decide) (by decide) rfl rfl (H d27_6) fun v3 T3 Lc3 X3 hQ3 => ?_
 obtain ⟨rfl, N3q, eq3⟩ := hQ3
 have N3 := Fr.app N2 N3q
 show Gs p e below _ T3 m 9 #[iv i0, iv i1, rv a1] []
 exact Go.ret (Q := Qm271_o Z a1 h0 n0) X3 (v := none) (fun _ => rfl) hlk (fun fs hr => X3.returnOut hx hret (H d27_9) hr) eq3 ⟨rfl, N3, rfl⟩ (by decide) (by decide)
def Qm311 (Z : State) (a1 : Addr) (p2 : Int32) (v0 : Int32) (kb : ClassId) (h0 : Heap) (n0 : Nat) (v : Option Value) (h : Heap) (L : List Loc) : Prop := ∃ (r0 : Int32), v = some (.int r0) ∧ ((r0 < 0) ↔ (¬ v0 = p2)) ∧ Fr n0 L ∧ h = h0
theorem rm311 (l : Launch) (Z : State) (a0 : Array Value) (hw : Hw a0 Z) (a1 : Addr) (p2 : Int32) (v0 : Int32) (kb : ClassId) (h0 : Heap) (n0 : Nat) (Z0 : n0 ≤ h0.size) (V_a1 : Arv Z h0 a1 kb .byte i2 [(.int (nar .byte ((v0 >>> (i0 &&& 31)).toInt8.toInt32))), (.int (nar .byte ((v0 >>> (i8 &&& 31)).toInt8.toInt32)))] (.int i0)) (hb0 : 0 ≤ v0.toInt ∧ v0.toInt ≤ 65535) (hch : 0 ≤ p2.toInt ∧ p2.toInt ≤ 127) (S__assertionsDisabled : Sta Z h0 s1_ s2_ "Z" (.int i1)) (S_HI_BYTE_SHIFT : Sta Z h0 s1_ s3_ "I" (.int i0)) (S_LO_BYTE_SHIFT : Sta Z h0 s1_ s4_ "I" (.int i8)) :
  Met l Z h0 yy23 jdk_52_method_48_code 5 (some .int) (rmk 1 0 0 13) #[(.ref a1), (.int p2), (.int i0), (.int i1)] (Qm311 Z a1 p2 v0 kb h0 n0) := by
 refine enter (plainFor_of_name pn_31) (fun m => ef_31 m a1 p2 i0 i1) fun p e s m below meth c s₁ hx hby hml hown hnm hZ X0 e0 hret hlk => ?_
 have N0 := Fr.nil n0; have H := @hb c _ hby
 refine g_iloadN X0 hx (H d31_0) rfl ?_
 refine g_istore X0 hx (H d31_1) (l' := #[rv a1, iv p2, iv i0, iv i1, iv i0]) rfl ?_
 refine g_iload X0 hx (H d31_3) rfl ?_
 refine g_iloadN X0 hx (H d31_5) rfl ?_
 refine g_icmpNo X0 hx (H d31_6) (tlt (by decide : (i0 < i1))).2.1 ?_
 refine g_aloadN X0 hx (H d31_9) rfl rfl ?_
 refine g_iload X0 hx (H d31_10) rfl ?_
 refine g_static X0 hx hZ (rm2410_o l Z a0 hw a1 (nar .byte ((v0 >>> (i0 &&& 31)).toInt8.toInt32)) (nar .byte ((v0 >>> (i8 &&& 31)).toInt8.toInt32)) kb h0 n0 Z0 V_a1 S__assertionsDisabled S_HI_BYTE_SHIFT S_LO_BYTE_SHIFT) hown (tw104 hw) (tw105 hw) (tw74 hw) (tw106 hw) (by decide) 0 (by decide) (by decide) (by rw [hml]; rfl) [(.ref a1), (.int i0)] [] (lenOf pd_5 rfl) (Nat.le_of_eq rfl) e0 (by decide) (by decide) rfl rfl (H d31_12) fun v3 T3 Lc3 X3 hQ3 => ?_
 obtain ⟨rfl, N3q, eq3⟩ := hQ3
 have N3 := Fr.app N0 N3q
 show Gs p e below _ T3 m 15 #[rv a1, iv p2, iv i0, iv i1, iv i0] [(.int (nar .char (((((nar .byte ((v0 >>> (i0 &&& 31)).toInt8.toInt32)) &&& i255) <<< (i0 &&& 31)) ||| (((nar .byte ((v0 >>> (i8 &&& 31)).toInt8.toInt32)) &&& i255) <<< (i8 &&& 31))).toUInt32.toUInt16.toUInt32.toInt32)))]
 rw [own_get hb0]
 show Gs p e below _ T3 m 15 #[rv a1, iv p2, iv i0, iv i1, iv i0] [(.int v0)]
 refine g_iloadN X3 hx (H d31_15) rfl ?_
 by_cases hc_13 : v0 = p2
 ·skip
  refine g_icmpNo X3 hx (H d31_16) (teq hc_13).2 ?_
  refine g_iload X3 hx (H d31_19) rfl ?_
  exact Go.ret (Q := Qm311 Z a1 p2 v0 kb h0 n0) X3 (v := some (.int i0)) (fun h => by rw [hret] at h; cases h) hlk (fun fs hr => retOut X3 hx hret rfl (Or.inl ⟨rfl, Or.inl rfl, _, rfl⟩) (H d31_21) hr) eq3 ⟨_, rfl, ⟨fun q => absurd q (by decide), fun q => absurd hc_13 (q)⟩, N3, rfl⟩ (by decide) (by decide)
 ·skip
  refine g_icmpYes X3 hx 22 (H d31_16) (feq hc_13).2 (by decide) (by decide) ?_
  refine g_iinc X3 hx (H d31_22) rfl (l' := #[rv a1, iv p2, iv i0, iv i1, iv i1]) rfl ?_
  refine g_goto X3 hx 3 (H d31_25) (by decide) (by decide) ?_
  refine g_iload X3 hx (H d31_3) rfl ?_
  refine g_iloadN X3 hx (H d31_5) rfl ?_
  refine g_icmpYes X3 hx 28 (H d31_6) (flt (by decide : ¬ (i1 < i1))).2.1 (by decide) (by decide) ?_
  refine g_iconst X3 hx im1 (H d31_28) rfl ?_
  exact Go.ret (Q := Qm311 Z a1 p2 v0 kb h0 n0) X3 (v := some (.int im1)) (fun h => by rw [hret] at h; cases h) hlk (fun fs hr => retOut X3 hx hret rfl (Or.inl ⟨rfl, Or.inl rfl, _, rfl⟩) (H d31_29) hr) eq3 ⟨_, rfl, ⟨fun _ => hc_13, fun _ => by decide⟩, N3, rfl⟩ (by decide) (by decide)
def Qm261 (Z : State) (a1 : Addr) (p2 : Int32) (v0 : Int32) (kb : ClassId) (h0 : Heap) (n0 : Nat) (v : Option Value) (h : Heap) (L : List Loc) : Prop := ∃ (r0 : Int32), v = some (.int r0) ∧ ((r0 < 0) ↔ (¬ v0 = p2)) ∧ Fr n0 L ∧ h = h0
theorem rm261 (l : Launch) (Z : State) (a0 : Array Value) (hw : Hw a0 Z) (a1 : Addr) (p2 : Int32) (v0 : Int32) (kb : ClassId) (h0 : Heap) (n0 : Nat) (Z0 : n0 ≤ h0.size) (V_a1 : Arv Z h0 a1 kb .byte i2 [(.int (nar .byte ((v0 >>> (i0 &&& 31)).toInt8.toInt32))), (.int (nar .byte ((v0 >>> (i8 &&& 31)).toInt8.toInt32)))] (.int i0)) (hb0 : 0 ≤ v0.toInt ∧ v0.toInt ≤ 65535) (hch : 0 ≤ p2.toInt ∧ p2.toInt ≤ 127) (S__assertionsDisabled : Sta Z h0 s1_ s2_ "Z" (.int i1)) (S_HI_BYTE_SHIFT : Sta Z h0 s1_ s3_ "I" (.int i0)) (S_LO_BYTE_SHIFT : Sta Z h0 s1_ s4_ "I" (.int i8)) (hfm : ∃ v : Value, v.isRef = true ∧ Sta Z h0 s6_ s7_ s8_ v) :
  Met l Z h0 yy24 jdk_52_method_47_code 4 (some .int) (rmk 3 0 0 43) #[(.ref a1), (.int p2), (.int i0), (.int i1)] (Qm261 Z a1 p2 v0 kb h0 n0) := by
 refine enter (plainFor_of_name pn_26) (fun m => ef_26 m a1 p2 i0 i1) fun p e s m below meth c s₁ hx hby hml hown hnm hZ X0 e0 hret hlk => ?_
 have N0 := Fr.nil n0; have H := @hb c _ hby
 refine g_iloadN X0 hx (H d26_0) rfl ?_
 refine g_iloadN X0 hx (H d26_1) rfl ?_
 refine g_aloadN X0 hx (H d26_2) rfl rfl ?_
 refine g_static X0 hx hZ (rm271_o l Z a0 hw a1 h0 n0 Z0 (Arv.arn V_a1) hfm) hown (tw116 hw) (tw117 hw) (tw74 hw) (tw118 hw) (by decide) 0 (by decide) (by decide) (by rw [hml]; rfl) [(.int i0), (.int i1), (.ref a1)] [] (lenOf pd_14 rfl) (Nat.le_of_eq rfl) e0 (by decide) (by decide) rfl rfl (H d26_3) fun v3 T3 Lc3 X3 hQ3 => ?_
 obtain ⟨rfl, N3q, eq3⟩ := hQ3
 have N3 := Fr.app N0 N3q
 show Gs p e below _ T3 m 6 #[rv a1, iv p2, iv i0, iv i1] []
 refine g_aloadN X3 hx (H d26_6) rfl rfl ?_
 refine g_iloadN X3 hx (H d26_7) rfl ?_
 refine g_iloadN X3 hx (H d26_8) rfl ?_
 refine g_iloadN X3 hx (H d26_9) rfl ?_
 refine g_static X3 hx hZ (rm311 l Z a0 hw a1 p2 v0 kb h0 n0 Z0 V_a1 hb0 hch S__assertionsDisabled S_HI_BYTE_SHIFT S_LO_BYTE_SHIFT) hown (tw130 hw) (tw131 hw) (tw74 hw) (tw132 hw) (by decide) 0 (by decide) (by decide) (by rw [hml]; rfl) [(.ref a1), (.int p2), (.int i0), (.int i1)] [] (lenOf pd_10 rfl) (Nat.le_of_eq rfl) eq3 (by decide) (by decide) rfl rfl (H d26_10) fun v4 T4 Lc4 X4 hQ4 => ?_
 obtain ⟨r0_4, rfl, hp4, N4q, eq4⟩ := hQ4
 have N4 := Fr.app N3 N4q
 show Gs p e below _ T4 m 13 #[rv a1, iv p2, iv i0, iv i1] [(.int r0_4)]
 exact Go.ret (Q := Qm261 Z a1 p2 v0 kb h0 n0) X4 (v := some (.int r0_4)) (fun h => by rw [hret] at h; cases h) hlk (fun fs hr => retOut X4 hx hret rfl (Or.inl ⟨rfl, Or.inl rfl, _, rfl⟩) (H d26_13) hr) eq4 ⟨_, rfl, hp4, N4, rfl⟩ (by decide) (by decide)
def Qm251 (Z : State) (a1 : Addr) (p2 : Int32) (v0 : Int32) (kb : ClassId) (h0 : Heap) (n0 : Nat) (v : Option Value) (h : Heap) (L : List Loc) : Prop := ∃ (r0 : Int32), v = some (.int r0) ∧ ((r0 < 0) ↔ (¬ v0 = p2)) ∧ Fr n0 L ∧ h = h0
theorem rm251 (l : Launch) (Z : State) (a0 : Array Value) (hw : Hw a0 Z) (a1 : Addr) (p2 : Int32) (v0 : Int32) (kb : ClassId) (h0 : Heap) (n0 : Nat) (Z0 : n0 ≤ h0.size) (V_a1 : Arv Z h0 a1 kb .byte i2 [(.int (nar .byte ((v0 >>> (i0 &&& 31)).toInt8.toInt32))), (.int (nar .byte ((v0 >>> (i8 &&& 31)).toInt8.toInt32)))] (.int i0)) (hb0 : 0 ≤ v0.toInt ∧ v0.toInt ≤ 65535) (hch : 0 ≤ p2.toInt ∧ p2.toInt ≤ 127) (S__assertionsDisabled : Sta Z h0 s1_ s2_ "Z" (.int i1)) (S_HI_BYTE_SHIFT : Sta Z h0 s1_ s3_ "I" (.int i0)) (S_LO_BYTE_SHIFT : Sta Z h0 s1_ s4_ "I" (.int i8)) (hfm : ∃ v : Value, v.isRef = true ∧ Sta Z h0 s6_ s7_ s8_ v) :
  Met l Z h0 yy25 jdk_52_method_40_code 4 (some .int) (rmk 4 0 0 58) #[(.ref a1), (.int p2), (.int i0), (.int i1)] (Qm251 Z a1 p2 v0 kb h0 n0) := by
 refine enter (plainFor_of_name pn_25) (fun m => ef_25 m a1 p2 i0 i1) fun p e s m below meth c s₁ hx hby hml hown hnm hZ X0 e0 hret hlk => ?_
 have N0 := Fr.nil n0; have H := @hb c _ hby
 refine g_iloadN X0 hx (H d25_0) rfl ?_
 refine g_iconst X0 hx i0 (H d25_1) rfl ?_
 refine g_static X0 hx hZ (rm13z_o l Z a0 hw  h0 n0 Z0 ) hown (tw110 hw) (tw66 hw) (tw67 hw) (tw68 hw) (by decide) 0 (by decide) (by decide) (by rw [hml]; rfl) [(.int i0), (.int i0)] [] (lenOf pd_9 rfl) (Nat.le_of_eq rfl) e0 (by decide) (by decide) rfl rfl (H d25_2) fun v3 T3 Lc3 X3 hQ3 => ?_
 obtain ⟨rfl, N3q, eq3⟩ := hQ3
 have N3 := Fr.app N0 N3q
 show Gs p e below _ T3 m 5 #[rv a1, iv p2, iv i0, iv i1] [(.int i0)]
 refine g_istoreN X3 hx (H d25_5) (l' := #[rv a1, iv p2, iv i0, iv i1]) rfl ?_
 refine g_iloadN X3 hx (H d25_6) rfl ?_
 refine g_aloadN X3 hx (H d25_7) rfl rfl ?_
 obtain ⟨clq4, Arq4, caq4, saq4, naq4, haq4, gaq4⟩ := id V_a1
 refine g_len X3 hx hZ eq3 Arq4 saq4 naq4 (H d25_8) ?_
 refine g_iconst X3 hx i1 (H d25_9) rfl ?_
 refine g_ishr X3 hx (H d25_10) ?_
 rw [show (i2 >>> (i1 &&& 31)) = i1 from by decide]
 show Gs p e below _ T3 m 11 #[rv a1, iv p2, iv i0, iv i1] [(.int i1), (.int i1)]
 refine g_static X3 hx hZ (rm141_o l Z a0 hw  h0 n0 Z0 ) hown (tw111 hw) (tw70 hw) (tw67 hw) (tw71 hw) (by decide) 0 (by decide) (by decide) (by rw [hml]; rfl) [(.int i1), (.int i1)] [] (lenOf pd_9 rfl) (Nat.le_of_eq rfl) eq3 (by decide) (by decide) rfl rfl (H d25_11) fun v5 T5 Lc5 X5 hQ5 => ?_
 obtain ⟨rfl, N5q, eq5⟩ := hQ5
 have N5 := Fr.app N3 N5q
 show Gs p e below _ T5 m 14 #[rv a1, iv p2, iv i0, iv i1] [(.int i1)]
 refine g_istoreN X5 hx (H d25_14) (l' := #[rv a1, iv p2, iv i0, iv i1]) rfl ?_
 refine g_iloadN X5 hx (H d25_15) rfl ?_
 refine g_iloadN X5 hx (H d25_16) rfl ?_
 refine g_icmpYes X5 hx 22 (H d25_17) (tlt (by decide : (i0 < i1))).1 (by decide) (by decide) ?_
 refine g_iloadN X5 hx (H d25_22) rfl ?_
 refine Go.st (fun _ kk => X5.ldcInt hx hown (mvT hZ (tw112 hw)) (g := (mkF m 23 #[rv a1, iv p2, iv i0, iv i1] [(.int p2)])) rfl (H d25_23) _ kk) ?_
 show Gs p e below _ T5 m 25 #[rv a1, iv p2, iv i0, iv i1] [(.int i65536), (.int p2)]
 refine g_icmpNo X5 hx (H d25_25) (tlt (own_ch2 hch)).2.1 ?_
 refine g_aloadN X5 hx (H d25_28) rfl rfl ?_
 refine g_iloadN X5 hx (H d25_29) rfl ?_
 refine g_iloadN X5 hx (H d25_30) rfl ?_
 refine g_iloadN X5 hx (H d25_31) rfl ?_
 refine g_static X5 hx hZ (rm261 l Z a0 hw a1 p2 v0 kb h0 n0 Z0 V_a1 hb0 hch S__assertionsDisabled S_HI_BYTE_SHIFT S_LO_BYTE_SHIFT hfm) hown (tw113 hw) (tw114 hw) (tw74 hw) (tw115 hw) (by decide) 0 (by decide) (by decide) (by rw [hml]; rfl) [(.ref a1), (.int p2), (.int i0), (.int i1)] [] (lenOf pd_10 rfl) (Nat.le_of_eq rfl) eq5 (by decide) (by decide) rfl rfl (H d25_32) fun v6 T6 Lc6 X6 hQ6 => ?_
 obtain ⟨r0_6, rfl, hp6, N6q, eq6⟩ := hQ6
 have N6 := Fr.app N5 N6q
 show Gs p e below _ T6 m 35 #[rv a1, iv p2, iv i0, iv i1] [(.int r0_6)]
 exact Go.ret (Q := Qm251 Z a1 p2 v0 kb h0 n0) X6 (v := some (.int r0_6)) (fun h => by rw [hret] at h; cases h) hlk (fun fs hr => retOut X6 hx hret rfl (Or.inl ⟨rfl, Or.inl rfl, _, rfl⟩) (H d25_35) hr) eq6 ⟨_, rfl, hp6, N6, rfl⟩ (by decide) (by decide)
def Qm282_o (Z : State) (a1 : Addr) (h0 : Heap) (n0 : Nat) (v : Option Value) (h : Heap) (L : List Loc) : Prop := v = some (.int i2) ∧ Fr n0 L ∧ h = h0
theorem rm282_o (l : Launch) (Z : State) (a0 : Array Value) (hw : Hw a0 Z) (a1 : Addr) (h0 : Heap) (n0 : Nat) (Z0 : n0 ≤ h0.size) (V_a1 : Arn Z h0 a1 .byte i4) :
  Met l Z h0 yy19 jdk_52_method_6_code 1 (some .int) (rmk 0 0 0 0) #[(.ref a1)] (Qm282_o Z a1 h0 n0) := by
 refine enter (plainFor_of_name pn_28) (fun m => ef_28 m a1) fun p e s m below meth c s₁ hx hby hml hown hnm hZ X0 e0 hret hlk => ?_
 have N0 := Fr.nil n0; have H := @hb c _ hby
 refine g_aloadN X0 hx (H d28_0) rfl rfl ?_
 obtain ⟨clq2, Arq2, saq2, naq2⟩ := id V_a1
 refine g_len X0 hx hZ e0 Arq2 saq2 naq2 (H d28_1) ?_
 refine g_iconst X0 hx i1 (H d28_2) rfl ?_
 refine g_ishr X0 hx (H d28_3) ?_
 rw [show (i4 >>> (i1 &&& 31)) = i2 from by decide]
 show Gs p e below _ s₁ m 4 #[rv a1] [(.int i2)]
 exact Go.ret (Q := Qm282_o Z a1 h0 n0) X0 (v := some (.int i2)) (fun h => by rw [hret] at h; cases h) hlk (fun fs hr => retOut X0 hx hret rfl (Or.inl ⟨rfl, Or.inl rfl, _, rfl⟩) (H d28_4) hr) e0 ⟨rfl, N0, rfl⟩ (by decide) (by decide)
def Qm302_o (Z : State) (a1 : Addr) (h0 : Heap) (n0 : Nat) (v : Option Value) (h : Heap) (L : List Loc) : Prop := v = some (.int i0) ∧ Fr n0 L ∧ h = h0
theorem rm302_o (l : Launch) (Z : State) (a0 : Array Value) (hw : Hw a0 Z) (a1 : Addr) (h0 : Heap) (n0 : Nat) (Z0 : n0 ≤ h0.size) :
  Met l Z h0 yy20 jdk_41_method_12_code 4 (some .int) (rmk 0 0 0 0) #[(.int i0), (.int i2), (.int i2), (.ref a1)] (Qm302_o Z a1 h0 n0) := by
 refine enter (plainFor_of_name pn_30) (fun m => ef_30 m i0 i2 i2 a1) fun p e s m below meth c s₁ hx hby hml hown hnm hZ X0 e0 hret hlk => ?_
 have N0 := Fr.nil n0; have H := @hb c _ hby
 refine g_iloadN X0 hx (H d30_0) rfl ?_
 refine g_ifNo X0 hx (H d30_1) (flt (by decide : ¬ (i0 < i0))).1 ?_
 refine g_iloadN X0 hx (H d30_4) rfl ?_
 refine g_iloadN X0 hx (H d30_5) rfl ?_
 refine g_icmpNo X0 hx (H d30_6) (flt (by decide : ¬ (i2 < i0))).2.2.1 ?_
 refine g_iloadN X0 hx (H d30_9) rfl ?_
 refine g_iloadN X0 hx (H d30_10) rfl ?_
 refine g_icmpYes X0 hx 22 (H d30_11) (flt (by decide : ¬ (i2 < i2))).2.2.2 (by decide) (by decide) ?_
 refine g_iloadN X0 hx (H d30_22) rfl ?_
 exact Go.ret (Q := Qm302_o Z a1 h0 n0) X0 (v := some (.int i0)) (fun h => by rw [hret] at h; cases h) hlk (fun fs hr => retOut X0 hx hret rfl (Or.inl ⟨rfl, Or.inl rfl, _, rfl⟩) (H d30_23) hr) e0 ⟨rfl, N0, rfl⟩ (by decide) (by decide)
def Qm302n_o (Z : State)  (h0 : Heap) (n0 : Nat) (v : Option Value) (h : Heap) (L : List Loc) : Prop := v = some (.int i0) ∧ Fr n0 L ∧ h = h0
theorem rm302n_o (l : Launch) (Z : State) (a0 : Array Value) (hw : Hw a0 Z)  (h0 : Heap) (n0 : Nat) (Z0 : n0 ≤ h0.size) :
  Met l Z h0 yy20 jdk_41_method_12_code 4 (some .int) (rmk 0 0 0 0) #[(.int i0), (.int i2), (.int i2), .null] (Qm302n_o Z  h0 n0) := by
 refine enter (plainFor_of_name pn_30) (fun m => ef_302n m i0 i2 i2) fun p e s m below meth c s₁ hx hby hml hown hnm hZ X0 e0 hret hlk => ?_
 have N0 := Fr.nil n0; have H := @hb c _ hby
 refine g_iloadN X0 hx (H d30_0) rfl ?_
 refine g_ifNo X0 hx (H d30_1) (flt (by decide : ¬ (i0 < i0))).1 ?_
 refine g_iloadN X0 hx (H d30_4) rfl ?_
 refine g_iloadN X0 hx (H d30_5) rfl ?_
 refine g_icmpNo X0 hx (H d30_6) (flt (by decide : ¬ (i2 < i0))).2.2.1 ?_
 refine g_iloadN X0 hx (H d30_9) rfl ?_
 refine g_iloadN X0 hx (H d30_10) rfl ?_
 refine g_icmpYes X0 hx 22 (H d30_11) (flt (by decide : ¬ (i2 < i2))).2.2.2 (by decide) (by decide) ?_
 refine g_iloadN X0 hx (H d30_22) rfl ?_
 exact Go.ret (Q := Qm302n_o Z  h0 n0) X0 (v := some (.int i0)) (fun h => by rw [hret] at h; cases h) hlk (fun fs hr => retOut X0 hx hret rfl (Or.inl ⟨rfl, Or.inl rfl, _, rfl⟩) (H d30_23) hr) e0 ⟨rfl, N0, rfl⟩ (by decide) (by decide)
def Qm292 (Z : State)  (h0 : Heap) (n0 : Nat) (v : Option Value) (h : Heap) (L : List Loc) : Prop := v = none ∧ Fr n0 L ∧ h = h0
theorem rm292 (l : Launch) (Z : State) (a0 : Array Value) (hw : Hw a0 Z)  (h0 : Heap) (n0 : Nat) (Z0 : n0 ≤ h0.size) (hfm : ∃ v : Value, v.isRef = true ∧ Sta Z h0 s6_ s7_ s8_ v) :
  Met l Z h0 yy21 jdk_42_method_158_code 3 none (rmk 1 0 0 15) #[(.int i0), (.int i2), (.int i2)] (Qm292 Z  h0 n0) := by
 refine enter (plainFor_of_name pn_29) (fun m => ef_29 m i0 i2 i2) fun p e s m below meth c s₁ hx hby hml hown hnm hZ X0 e0 hret hlk => ?_
 have N0 := Fr.nil n0; have H := @hb c _ hby
 refine g_iloadN X0 hx (H d29_0) rfl ?_
 refine g_iloadN X0 hx (H d29_1) rfl ?_
 refine g_iloadN X0 hx (H d29_2) rfl ?_
 obtain ⟨vfm, hvf, hSf⟩ := hfm
 rcases ref_cases hvf with rfl | ⟨wfm, rfl⟩
 ·skip
  refine g_getS X0 hx hZ hown (tw125 hw) e0 hSf (H d29_3) fun T1 X1 e1 => ?_
  refine g_static X1 hx hZ (rm302n_o l Z a0 hw  h0 n0 Z0 ) hown (tw127 hw) (tw128 hw) (tw126 hw) (tw129 hw) (by decide) 0 (by decide) (by decide) (by rw [hml]; rfl) [(.int i0), (.int i2), (.int i2), .null] [] (lenOf pd_11 rfl) (Nat.le_of_eq rfl) e1 (by decide) (by decide) rfl rfl (H d29_6) fun v2 T2 Lc2 X2 hQ2 => ?_
  obtain ⟨rfl, N2q, eq2⟩ := hQ2
  have N2 := Fr.app N0 N2q
  show Gs p e below _ T2 m 9 #[iv i0, iv i2, iv i2] [(.int i0)]
  refine g_pop X2 hx (H d29_9) rfl ?_
  exact Go.ret (Q := Qm292 Z  h0 n0) X2 (v := none) (fun _ => rfl) hlk (fun fs hr => X2.returnOut hx hret (H d29_10) hr) eq2 ⟨rfl, N2, rfl⟩ (by decide) (by decide)
 ·skip
  refine g_getS X0 hx hZ hown (tw125 hw) e0 hSf (H d29_3) fun T3 X3 e3 => ?_
  refine g_static X3 hx hZ (rm302_o l Z a0 hw wfm h0 n0 Z0 ) hown (tw127 hw) (tw128 hw) (tw126 hw) (tw129 hw) (by decide) 0 (by decide) (by decide) (by rw [hml]; rfl) [(.int i0), (.int i2), (.int i2), (.ref wfm)] [] (lenOf pd_11 rfl) (Nat.le_of_eq rfl) e3 (by decide) (by decide) rfl rfl (H d29_6) fun v4 T4 Lc4 X4 hQ4 => ?_
  obtain ⟨rfl, N4q, eq4⟩ := hQ4
  have N4 := Fr.app N0 N4q
  show Gs p e below _ T4 m 9 #[iv i0, iv i2, iv i2] [(.int i0)]
  refine g_pop X4 hx (H d29_9) rfl ?_
  exact Go.ret (Q := Qm292 Z  h0 n0) X4 (v := none) (fun _ => rfl) hlk (fun fs hr => X4.returnOut hx hret (H d29_10) hr) eq4 ⟨rfl, N4, rfl⟩ (by decide) (by decide)
def Qm272_o (Z : State) (a1 : Addr) (h0 : Heap) (n0 : Nat) (v : Option Value) (h : Heap) (L : List Loc) : Prop := v = none ∧ Fr n0 L ∧ h = h0
theorem rm272_o (l : Launch) (Z : State) (a0 : Array Value) (hw : Hw a0 Z) (a1 : Addr) (h0 : Heap) (n0 : Nat) (Z0 : n0 ≤ h0.size) (V_a1 : Arn Z h0 a1 .byte i4) (hfm : ∃ v : Value, v.isRef = true ∧ Sta Z h0 s6_ s7_ s8_ v) :
  Met l Z h0 yy22 jdk_52_method_93_code 3 none (rmk 2 0 0 29) #[(.int i0), (.int i2), (.ref a1)] (Qm272_o Z a1 h0 n0) := by
 refine enter (plainFor_of_name pn_27) (fun m => ef_27 m i0 i2 a1) fun p e s m below meth c s₁ hx hby hml hown hnm hZ X0 e0 hret hlk => ?_
 have N0 := Fr.nil n0; have H := @hb c _ hby
 refine g_iloadN X0 hx (H d27_0) rfl ?_
 refine g_iloadN X0 hx (H d27_1) rfl ?_
 refine g_aloadN X0 hx (H d27_2) rfl rfl ?_
 refine g_static X0 hx hZ (rm282_o l Z a0 hw a1 h0 n0 Z0 V_a1) hown (tw119 hw) (tw120 hw) (tw74 hw) (tw121 hw) (by decide) 2 (by decide) (by decide) (by rw [hml]; rfl) [(.ref a1)] [(.int i2), (.int i0)] (lenOf pd_12 rfl) (Nat.le_of_eq rfl) e0 (by decide) (by decide) rfl rfl (H d27_3) fun v2 T2 Lc2 X2 hQ2 => ?_
 obtain ⟨rfl, N2q, eq2⟩ := hQ2
 have N2 := Fr.app N0 N2q
 show Gs p e below _ T2 m 6 #[iv i0, iv i2, rv a1] [(.int i2), (.int i2), (.int i0)]
 refine g_static X2 hx hZ (rm292 l Z a0 hw  h0 n0 Z0 hfm) hown (tw122 hw) (tw123 hw) (tw8 hw) (tw124 hw) (by decide) 0 (by decide) (by decide) (by rw [hml]; rfl) [(.int i0), (.int i2), (.int i2)] [] (lenOf pd_13 rfl) (Nat.le_of_eq rfl) eq2 (by decide) (by decide) rfl rfl (H d27_6) fun v3 T3 Lc3 X3 hQ3 => ?_
 obtain ⟨rfl, N3q, eq3⟩ := hQ3
 have N3 := Fr.app N2 N3q
 show Gs p e below _ T3 m 9 #[iv i0, iv i2, rv a1] []
 exact Go.ret (Q := Qm272_o Z a1 h0 n0) X3 (v := none) (fun _ => rfl) hlk (fun fs hr => X3.returnOut hx hret (H d27_9) hr) eq3 ⟨rfl, N3, rfl⟩ (by decide) (by decide)
def Qm312 (Z : State) (a1 : Addr) (p2 : Int32) (v0 : Int32) (v1 : Int32) (kb : ClassId) (h0 : Heap) (n0 : Nat) (v : Option Value) (h : Heap) (L : List Loc) : Prop := ∃ (r0 : Int32), v = some (.int r0) ∧ ((r0 < 0) ↔ (¬ v0 = p2 ∧ ¬ v1 = p2)) ∧ Fr n0 L ∧ h = h0
theorem rm312 (l : Launch) (Z : State) (a0 : Array Value) (hw : Hw a0 Z) (a1 : Addr) (p2 : Int32) (v0 : Int32) (v1 : Int32) (kb : ClassId) (h0 : Heap) (n0 : Nat) (Z0 : n0 ≤ h0.size) (V_a1 : Arv Z h0 a1 kb .byte i4 [(.int (nar .byte ((v0 >>> (i0 &&& 31)).toInt8.toInt32))), (.int (nar .byte ((v0 >>> (i8 &&& 31)).toInt8.toInt32))), (.int (nar .byte ((v1 >>> (i0 &&& 31)).toInt8.toInt32))), (.int (nar .byte ((v1 >>> (i8 &&& 31)).toInt8.toInt32)))] (.int i0)) (hb0 : 0 ≤ v0.toInt ∧ v0.toInt ≤ 65535) (hb1 : 0 ≤ v1.toInt ∧ v1.toInt ≤ 65535) (hch : 0 ≤ p2.toInt ∧ p2.toInt ≤ 127) (S__assertionsDisabled : Sta Z h0 s1_ s2_ "Z" (.int i1)) (S_HI_BYTE_SHIFT : Sta Z h0 s1_ s3_ "I" (.int i0)) (S_LO_BYTE_SHIFT : Sta Z h0 s1_ s4_ "I" (.int i8)) :
  Met l Z h0 yy23 jdk_52_method_48_code 5 (some .int) (rmk 1 0 0 13) #[(.ref a1), (.int p2), (.int i0), (.int i2)] (Qm312 Z a1 p2 v0 v1 kb h0 n0) := by
 refine enter (plainFor_of_name pn_31) (fun m => ef_31 m a1 p2 i0 i2) fun p e s m below meth c s₁ hx hby hml hown hnm hZ X0 e0 hret hlk => ?_
 have N0 := Fr.nil n0; have H := @hb c _ hby
 refine g_iloadN X0 hx (H d31_0) rfl ?_
 refine g_istore X0 hx (H d31_1) (l' := #[rv a1, iv p2, iv i0, iv i2, iv i0]) rfl ?_
 refine g_iload X0 hx (H d31_3) rfl ?_
 refine g_iloadN X0 hx (H d31_5) rfl ?_
 refine g_icmpNo X0 hx (H d31_6) (tlt (by decide : (i0 < i2))).2.1 ?_
 refine g_aloadN X0 hx (H d31_9) rfl rfl ?_
 refine g_iload X0 hx (H d31_10) rfl ?_
 refine g_static X0 hx hZ (rm2420_o l Z a0 hw a1 (nar .byte ((v0 >>> (i0 &&& 31)).toInt8.toInt32)) (nar .byte ((v0 >>> (i8 &&& 31)).toInt8.toInt32)) (nar .byte ((v1 >>> (i0 &&& 31)).toInt8.toInt32)) (nar .byte ((v1 >>> (i8 &&& 31)).toInt8.toInt32)) kb h0 n0 Z0 V_a1 S__assertionsDisabled S_HI_BYTE_SHIFT S_LO_BYTE_SHIFT) hown (tw104 hw) (tw105 hw) (tw74 hw) (tw106 hw) (by decide) 0 (by decide) (by decide) (by rw [hml]; rfl) [(.ref a1), (.int i0)] [] (lenOf pd_5 rfl) (Nat.le_of_eq rfl) e0 (by decide) (by decide) rfl rfl (H d31_12) fun v3 T3 Lc3 X3 hQ3 => ?_
 obtain ⟨rfl, N3q, eq3⟩ := hQ3
 have N3 := Fr.app N0 N3q
 show Gs p e below _ T3 m 15 #[rv a1, iv p2, iv i0, iv i2, iv i0] [(.int (nar .char (((((nar .byte ((v0 >>> (i0 &&& 31)).toInt8.toInt32)) &&& i255) <<< (i0 &&& 31)) ||| (((nar .byte ((v0 >>> (i8 &&& 31)).toInt8.toInt32)) &&& i255) <<< (i8 &&& 31))).toUInt32.toUInt16.toUInt32.toInt32)))]
 rw [own_get hb0]
 show Gs p e below _ T3 m 15 #[rv a1, iv p2, iv i0, iv i2, iv i0] [(.int v0)]
 refine g_iloadN X3 hx (H d31_15) rfl ?_
 by_cases hc_14 : v0 = p2
 ·skip
  refine g_icmpNo X3 hx (H d31_16) (teq hc_14).2 ?_
  refine g_iload X3 hx (H d31_19) rfl ?_
  exact Go.ret (Q := Qm312 Z a1 p2 v0 v1 kb h0 n0) X3 (v := some (.int i0)) (fun h => by rw [hret] at h; cases h) hlk (fun fs hr => retOut X3 hx hret rfl (Or.inl ⟨rfl, Or.inl rfl, _, rfl⟩) (H d31_21) hr) eq3 ⟨_, rfl, ⟨fun q => absurd q (by decide), fun q => absurd hc_14 (q.1)⟩, N3, rfl⟩ (by decide) (by decide)
 ·skip
  refine g_icmpYes X3 hx 22 (H d31_16) (feq hc_14).2 (by decide) (by decide) ?_
  refine g_iinc X3 hx (H d31_22) rfl (l' := #[rv a1, iv p2, iv i0, iv i2, iv i1]) rfl ?_
  refine g_goto X3 hx 3 (H d31_25) (by decide) (by decide) ?_
  refine g_iload X3 hx (H d31_3) rfl ?_
  refine g_iloadN X3 hx (H d31_5) rfl ?_
  refine g_icmpNo X3 hx (H d31_6) (tlt (by decide : (i1 < i2))).2.1 ?_
  refine g_aloadN X3 hx (H d31_9) rfl rfl ?_
  refine g_iload X3 hx (H d31_10) rfl ?_
  refine g_static X3 hx hZ (rm2421_o l Z a0 hw a1 (nar .byte ((v0 >>> (i0 &&& 31)).toInt8.toInt32)) (nar .byte ((v0 >>> (i8 &&& 31)).toInt8.toInt32)) (nar .byte ((v1 >>> (i0 &&& 31)).toInt8.toInt32)) (nar .byte ((v1 >>> (i8 &&& 31)).toInt8.toInt32)) kb h0 n0 Z0 V_a1 S__assertionsDisabled S_HI_BYTE_SHIFT S_LO_BYTE_SHIFT) hown (tw104 hw) (tw105 hw) (tw74 hw) (tw106 hw) (by decide) 0 (by decide) (by decide) (by rw [hml]; rfl) [(.ref a1), (.int i1)] [] (lenOf pd_5 rfl) (Nat.le_of_eq rfl) eq3 (by decide) (by decide) rfl rfl (H d31_12) fun v4 T4 Lc4 X4 hQ4 => ?_
  obtain ⟨rfl, N4q, eq4⟩ := hQ4
  have N4 := Fr.app N3 N4q
  show Gs p e below _ T4 m 15 #[rv a1, iv p2, iv i0, iv i2, iv i1] [(.int (nar .char (((((nar .byte ((v1 >>> (i0 &&& 31)).toInt8.toInt32)) &&& i255) <<< (i0 &&& 31)) ||| (((nar .byte ((v1 >>> (i8 &&& 31)).toInt8.toInt32)) &&& i255) <<< (i8 &&& 31))).toUInt32.toUInt16.toUInt32.toInt32)))]
  rw [own_get hb1]
  show Gs p e below _ T4 m 15 #[rv a1, iv p2, iv i0, iv i2, iv i1] [(.int v1)]
  refine g_iloadN X4 hx (H d31_15) rfl ?_
  by_cases hc_15 : v1 = p2
  ·skip
   refine g_icmpNo X4 hx (H d31_16) (teq hc_15).2 ?_
   refine g_iload X4 hx (H d31_19) rfl ?_
   exact Go.ret (Q := Qm312 Z a1 p2 v0 v1 kb h0 n0) X4 (v := some (.int i1)) (fun h => by rw [hret] at h; cases h) hlk (fun fs hr => retOut X4 hx hret rfl (Or.inl ⟨rfl, Or.inl rfl, _, rfl⟩) (H d31_21) hr) eq4 ⟨_, rfl, ⟨fun q => absurd q (by decide), fun q => absurd hc_15 (q.2)⟩, N4, rfl⟩ (by decide) (by decide)
  ·skip
   refine g_icmpYes X4 hx 22 (H d31_16) (feq hc_15).2 (by decide) (by decide) ?_
   refine g_iinc X4 hx (H d31_22) rfl (l' := #[rv a1, iv p2, iv i0, iv i2, iv i2]) rfl ?_
   refine g_goto X4 hx 3 (H d31_25) (by decide) (by decide) ?_
   refine g_iload X4 hx (H d31_3) rfl ?_
   refine g_iloadN X4 hx (H d31_5) rfl ?_
   refine g_icmpYes X4 hx 28 (H d31_6) (flt (by decide : ¬ (i2 < i2))).2.1 (by decide) (by decide) ?_
   refine g_iconst X4 hx im1 (H d31_28) rfl ?_
   exact Go.ret (Q := Qm312 Z a1 p2 v0 v1 kb h0 n0) X4 (v := some (.int im1)) (fun h => by rw [hret] at h; cases h) hlk (fun fs hr => retOut X4 hx hret rfl (Or.inl ⟨rfl, Or.inl rfl, _, rfl⟩) (H d31_29) hr) eq4 ⟨_, rfl, ⟨fun _ => ⟨hc_14, hc_15⟩, fun _ => by decide⟩, N4, rfl⟩ (by decide) (by decide)
def Qm262 (Z : State) (a1 : Addr) (p2 : Int32) (v0 : Int32) (v1 : Int32) (kb : ClassId) (h0 : Heap) (n0 : Nat) (v : Option Value) (h : Heap) (L : List Loc) : Prop := ∃ (r0 : Int32), v = some (.int r0) ∧ ((r0 < 0) ↔ (¬ v0 = p2 ∧ ¬ v1 = p2)) ∧ Fr n0 L ∧ h = h0
theorem rm262 (l : Launch) (Z : State) (a0 : Array Value) (hw : Hw a0 Z) (a1 : Addr) (p2 : Int32) (v0 : Int32) (v1 : Int32) (kb : ClassId) (h0 : Heap) (n0 : Nat) (Z0 : n0 ≤ h0.size) (V_a1 : Arv Z h0 a1 kb .byte i4 [(.int (nar .byte ((v0 >>> (i0 &&& 31)).toInt8.toInt32))), (.int (nar .byte ((v0 >>> (i8 &&& 31)).toInt8.toInt32))), (.int (nar .byte ((v1 >>> (i0 &&& 31)).toInt8.toInt32))), (.int (nar .byte ((v1 >>> (i8 &&& 31)).toInt8.toInt32)))] (.int i0)) (hb0 : 0 ≤ v0.toInt ∧ v0.toInt ≤ 65535) (hb1 : 0 ≤ v1.toInt ∧ v1.toInt ≤ 65535) (hch : 0 ≤ p2.toInt ∧ p2.toInt ≤ 127) (S__assertionsDisabled : Sta Z h0 s1_ s2_ "Z" (.int i1)) (S_HI_BYTE_SHIFT : Sta Z h0 s1_ s3_ "I" (.int i0)) (S_LO_BYTE_SHIFT : Sta Z h0 s1_ s4_ "I" (.int i8)) (hfm : ∃ v : Value, v.isRef = true ∧ Sta Z h0 s6_ s7_ s8_ v) :
  Met l Z h0 yy24 jdk_52_method_47_code 4 (some .int) (rmk 3 0 0 43) #[(.ref a1), (.int p2), (.int i0), (.int i2)] (Qm262 Z a1 p2 v0 v1 kb h0 n0) := by
 refine enter (plainFor_of_name pn_26) (fun m => ef_26 m a1 p2 i0 i2) fun p e s m below meth c s₁ hx hby hml hown hnm hZ X0 e0 hret hlk => ?_
 have N0 := Fr.nil n0; have H := @hb c _ hby
 refine g_iloadN X0 hx (H d26_0) rfl ?_
 refine g_iloadN X0 hx (H d26_1) rfl ?_
 refine g_aloadN X0 hx (H d26_2) rfl rfl ?_
 refine g_static X0 hx hZ (rm272_o l Z a0 hw a1 h0 n0 Z0 (Arv.arn V_a1) hfm) hown (tw116 hw) (tw117 hw) (tw74 hw) (tw118 hw) (by decide) 0 (by decide) (by decide) (by rw [hml]; rfl) [(.int i0), (.int i2), (.ref a1)] [] (lenOf pd_14 rfl) (Nat.le_of_eq rfl) e0 (by decide) (by decide) rfl rfl (H d26_3) fun v3 T3 Lc3 X3 hQ3 => ?_
 obtain ⟨rfl, N3q, eq3⟩ := hQ3
 have N3 := Fr.app N0 N3q
 show Gs p e below _ T3 m 6 #[rv a1, iv p2, iv i0, iv i2] []
 refine g_aloadN X3 hx (H d26_6) rfl rfl ?_
 refine g_iloadN X3 hx (H d26_7) rfl ?_
 refine g_iloadN X3 hx (H d26_8) rfl ?_
 refine g_iloadN X3 hx (H d26_9) rfl ?_
 refine g_static X3 hx hZ (rm312 l Z a0 hw a1 p2 v0 v1 kb h0 n0 Z0 V_a1 hb0 hb1 hch S__assertionsDisabled S_HI_BYTE_SHIFT S_LO_BYTE_SHIFT) hown (tw130 hw) (tw131 hw) (tw74 hw) (tw132 hw) (by decide) 0 (by decide) (by decide) (by rw [hml]; rfl) [(.ref a1), (.int p2), (.int i0), (.int i2)] [] (lenOf pd_10 rfl) (Nat.le_of_eq rfl) eq3 (by decide) (by decide) rfl rfl (H d26_10) fun v4 T4 Lc4 X4 hQ4 => ?_
 obtain ⟨r0_4, rfl, hp4, N4q, eq4⟩ := hQ4
 have N4 := Fr.app N3 N4q
 show Gs p e below _ T4 m 13 #[rv a1, iv p2, iv i0, iv i2] [(.int r0_4)]
 exact Go.ret (Q := Qm262 Z a1 p2 v0 v1 kb h0 n0) X4 (v := some (.int r0_4)) (fun h => by rw [hret] at h; cases h) hlk (fun fs hr => retOut X4 hx hret rfl (Or.inl ⟨rfl, Or.inl rfl, _, rfl⟩) (H d26_13) hr) eq4 ⟨_, rfl, hp4, N4, rfl⟩ (by decide) (by decide)
def Qm252 (Z : State) (a1 : Addr) (p2 : Int32) (v0 : Int32) (v1 : Int32) (kb : ClassId) (h0 : Heap) (n0 : Nat) (v : Option Value) (h : Heap) (L : List Loc) : Prop := ∃ (r0 : Int32), v = some (.int r0) ∧ ((r0 < 0) ↔ (¬ v0 = p2 ∧ ¬ v1 = p2)) ∧ Fr n0 L ∧ h = h0
theorem rm252 (l : Launch) (Z : State) (a0 : Array Value) (hw : Hw a0 Z) (a1 : Addr) (p2 : Int32) (v0 : Int32) (v1 : Int32) (kb : ClassId) (h0 : Heap) (n0 : Nat) (Z0 : n0 ≤ h0.size) (V_a1 : Arv Z h0 a1 kb .byte i4 [(.int (nar .byte ((v0 >>> (i0 &&& 31)).toInt8.toInt32))), (.int (nar .byte ((v0 >>> (i8 &&& 31)).toInt8.toInt32))), (.int (nar .byte ((v1 >>> (i0 &&& 31)).toInt8.toInt32))), (.int (nar .byte ((v1 >>> (i8 &&& 31)).toInt8.toInt32)))] (.int i0)) (hb0 : 0 ≤ v0.toInt ∧ v0.toInt ≤ 65535) (hb1 : 0 ≤ v1.toInt ∧ v1.toInt ≤ 65535) (hch : 0 ≤ p2.toInt ∧ p2.toInt ≤ 127) (S__assertionsDisabled : Sta Z h0 s1_ s2_ "Z" (.int i1)) (S_HI_BYTE_SHIFT : Sta Z h0 s1_ s3_ "I" (.int i0)) (S_LO_BYTE_SHIFT : Sta Z h0 s1_ s4_ "I" (.int i8)) (hfm : ∃ v : Value, v.isRef = true ∧ Sta Z h0 s6_ s7_ s8_ v) :
  Met l Z h0 yy25 jdk_52_method_40_code 4 (some .int) (rmk 4 0 0 58) #[(.ref a1), (.int p2), (.int i0), (.int i2)] (Qm252 Z a1 p2 v0 v1 kb h0 n0) := by
 refine enter (plainFor_of_name pn_25) (fun m => ef_25 m a1 p2 i0 i2) fun p e s m below meth c s₁ hx hby hml hown hnm hZ X0 e0 hret hlk => ?_
 have N0 := Fr.nil n0; have H := @hb c _ hby
 refine g_iloadN X0 hx (H d25_0) rfl ?_
 refine g_iconst X0 hx i0 (H d25_1) rfl ?_
 refine g_static X0 hx hZ (rm13z_o l Z a0 hw  h0 n0 Z0 ) hown (tw110 hw) (tw66 hw) (tw67 hw) (tw68 hw) (by decide) 0 (by decide) (by decide) (by rw [hml]; rfl) [(.int i0), (.int i0)] [] (lenOf pd_9 rfl) (Nat.le_of_eq rfl) e0 (by decide) (by decide) rfl rfl (H d25_2) fun v3 T3 Lc3 X3 hQ3 => ?_
 obtain ⟨rfl, N3q, eq3⟩ := hQ3
 have N3 := Fr.app N0 N3q
 show Gs p e below _ T3 m 5 #[rv a1, iv p2, iv i0, iv i2] [(.int i0)]
 refine g_istoreN X3 hx (H d25_5) (l' := #[rv a1, iv p2, iv i0, iv i2]) rfl ?_
 refine g_iloadN X3 hx (H d25_6) rfl ?_
 refine g_aloadN X3 hx (H d25_7) rfl rfl ?_
 obtain ⟨clq4, Arq4, caq4, saq4, naq4, haq4, gaq4⟩ := id V_a1
 refine g_len X3 hx hZ eq3 Arq4 saq4 naq4 (H d25_8) ?_
 refine g_iconst X3 hx i1 (H d25_9) rfl ?_
 refine g_ishr X3 hx (H d25_10) ?_
 rw [show (i4 >>> (i1 &&& 31)) = i2 from by decide]
 show Gs p e below _ T3 m 11 #[rv a1, iv p2, iv i0, iv i2] [(.int i2), (.int i2)]
 refine g_static X3 hx hZ (rm142_o l Z a0 hw  h0 n0 Z0 ) hown (tw111 hw) (tw70 hw) (tw67 hw) (tw71 hw) (by decide) 0 (by decide) (by decide) (by rw [hml]; rfl) [(.int i2), (.int i2)] [] (lenOf pd_9 rfl) (Nat.le_of_eq rfl) eq3 (by decide) (by decide) rfl rfl (H d25_11) fun v5 T5 Lc5 X5 hQ5 => ?_
 obtain ⟨rfl, N5q, eq5⟩ := hQ5
 have N5 := Fr.app N3 N5q
 show Gs p e below _ T5 m 14 #[rv a1, iv p2, iv i0, iv i2] [(.int i2)]
 refine g_istoreN X5 hx (H d25_14) (l' := #[rv a1, iv p2, iv i0, iv i2]) rfl ?_
 refine g_iloadN X5 hx (H d25_15) rfl ?_
 refine g_iloadN X5 hx (H d25_16) rfl ?_
 refine g_icmpYes X5 hx 22 (H d25_17) (tlt (by decide : (i0 < i2))).1 (by decide) (by decide) ?_
 refine g_iloadN X5 hx (H d25_22) rfl ?_
 refine Go.st (fun _ kk => X5.ldcInt hx hown (mvT hZ (tw112 hw)) (g := (mkF m 23 #[rv a1, iv p2, iv i0, iv i2] [(.int p2)])) rfl (H d25_23) _ kk) ?_
 show Gs p e below _ T5 m 25 #[rv a1, iv p2, iv i0, iv i2] [(.int i65536), (.int p2)]
 refine g_icmpNo X5 hx (H d25_25) (tlt (own_ch2 hch)).2.1 ?_
 refine g_aloadN X5 hx (H d25_28) rfl rfl ?_
 refine g_iloadN X5 hx (H d25_29) rfl ?_
 refine g_iloadN X5 hx (H d25_30) rfl ?_
 refine g_iloadN X5 hx (H d25_31) rfl ?_
 refine g_static X5 hx hZ (rm262 l Z a0 hw a1 p2 v0 v1 kb h0 n0 Z0 V_a1 hb0 hb1 hch S__assertionsDisabled S_HI_BYTE_SHIFT S_LO_BYTE_SHIFT hfm) hown (tw113 hw) (tw114 hw) (tw74 hw) (tw115 hw) (by decide) 0 (by decide) (by decide) (by rw [hml]; rfl) [(.ref a1), (.int p2), (.int i0), (.int i2)] [] (lenOf pd_10 rfl) (Nat.le_of_eq rfl) eq5 (by decide) (by decide) rfl rfl (H d25_32) fun v6 T6 Lc6 X6 hQ6 => ?_
 obtain ⟨r0_6, rfl, hp6, N6q, eq6⟩ := hQ6
 have N6 := Fr.app N5 N6q
 show Gs p e below _ T6 m 35 #[rv a1, iv p2, iv i0, iv i2] [(.int r0_6)]
 exact Go.ret (Q := Qm252 Z a1 p2 v0 v1 kb h0 n0) X6 (v := some (.int r0_6)) (fun h => by rw [hret] at h; cases h) hlk (fun fs hr => retOut X6 hx hret rfl (Or.inl ⟨rfl, Or.inl rfl, _, rfl⟩) (H d25_35) hr) eq6 ⟨_, rfl, hp6, N6, rfl⟩ (by decide) (by decide)
def Qm283_o (Z : State) (a1 : Addr) (h0 : Heap) (n0 : Nat) (v : Option Value) (h : Heap) (L : List Loc) : Prop := v = some (.int i3) ∧ Fr n0 L ∧ h = h0
theorem rm283_o (l : Launch) (Z : State) (a0 : Array Value) (hw : Hw a0 Z) (a1 : Addr) (h0 : Heap) (n0 : Nat) (Z0 : n0 ≤ h0.size) (V_a1 : Arn Z h0 a1 .byte i6) :
  Met l Z h0 yy19 jdk_52_method_6_code 1 (some .int) (rmk 0 0 0 0) #[(.ref a1)] (Qm283_o Z a1 h0 n0) := by
 refine enter (plainFor_of_name pn_28) (fun m => ef_28 m a1) fun p e s m below meth c s₁ hx hby hml hown hnm hZ X0 e0 hret hlk => ?_
 have N0 := Fr.nil n0; have H := @hb c _ hby
 refine g_aloadN X0 hx (H d28_0) rfl rfl ?_
 obtain ⟨clq2, Arq2, saq2, naq2⟩ := id V_a1
 refine g_len X0 hx hZ e0 Arq2 saq2 naq2 (H d28_1) ?_
 refine g_iconst X0 hx i1 (H d28_2) rfl ?_
 refine g_ishr X0 hx (H d28_3) ?_
 rw [show (i6 >>> (i1 &&& 31)) = i3 from by decide]
 show Gs p e below _ s₁ m 4 #[rv a1] [(.int i3)]
 exact Go.ret (Q := Qm283_o Z a1 h0 n0) X0 (v := some (.int i3)) (fun h => by rw [hret] at h; cases h) hlk (fun fs hr => retOut X0 hx hret rfl (Or.inl ⟨rfl, Or.inl rfl, _, rfl⟩) (H d28_4) hr) e0 ⟨rfl, N0, rfl⟩ (by decide) (by decide)
def Qm303_o (Z : State) (a1 : Addr) (h0 : Heap) (n0 : Nat) (v : Option Value) (h : Heap) (L : List Loc) : Prop := v = some (.int i0) ∧ Fr n0 L ∧ h = h0
theorem rm303_o (l : Launch) (Z : State) (a0 : Array Value) (hw : Hw a0 Z) (a1 : Addr) (h0 : Heap) (n0 : Nat) (Z0 : n0 ≤ h0.size) :
  Met l Z h0 yy20 jdk_41_method_12_code 4 (some .int) (rmk 0 0 0 0) #[(.int i0), (.int i3), (.int i3), (.ref a1)] (Qm303_o Z a1 h0 n0) := by
 refine enter (plainFor_of_name pn_30) (fun m => ef_30 m i0 i3 i3 a1) fun p e s m below meth c s₁ hx hby hml hown hnm hZ X0 e0 hret hlk => ?_
 have N0 := Fr.nil n0; have H := @hb c _ hby
 refine g_iloadN X0 hx (H d30_0) rfl ?_
 refine g_ifNo X0 hx (H d30_1) (flt (by decide : ¬ (i0 < i0))).1 ?_
 refine g_iloadN X0 hx (H d30_4) rfl ?_
 refine g_iloadN X0 hx (H d30_5) rfl ?_
 refine g_icmpNo X0 hx (H d30_6) (flt (by decide : ¬ (i3 < i0))).2.2.1 ?_
 refine g_iloadN X0 hx (H d30_9) rfl ?_
 refine g_iloadN X0 hx (H d30_10) rfl ?_
 refine g_icmpYes X0 hx 22 (H d30_11) (flt (by decide : ¬ (i3 < i3))).2.2.2 (by decide) (by decide) ?_
 refine g_iloadN X0 hx (H d30_22) rfl ?_
 exact Go.ret (Q := Qm303_o Z a1 h0 n0) X0 (v := some (.int i0)) (fun h => by rw [hret] at h; cases h) hlk (fun fs hr => retOut X0 hx hret rfl (Or.inl ⟨rfl, Or.inl rfl, _, rfl⟩) (H d30_23) hr) e0 ⟨rfl, N0, rfl⟩ (by decide) (by decide)
def Qm303n_o (Z : State)  (h0 : Heap) (n0 : Nat) (v : Option Value) (h : Heap) (L : List Loc) : Prop := v = some (.int i0) ∧ Fr n0 L ∧ h = h0
theorem rm303n_o (l : Launch) (Z : State) (a0 : Array Value) (hw : Hw a0 Z)  (h0 : Heap) (n0 : Nat) (Z0 : n0 ≤ h0.size) :
  Met l Z h0 yy20 jdk_41_method_12_code 4 (some .int) (rmk 0 0 0 0) #[(.int i0), (.int i3), (.int i3), .null] (Qm303n_o Z  h0 n0) := by
 refine enter (plainFor_of_name pn_30) (fun m => ef_303n m i0 i3 i3) fun p e s m below meth c s₁ hx hby hml hown hnm hZ X0 e0 hret hlk => ?_
 have N0 := Fr.nil n0; have H := @hb c _ hby
 refine g_iloadN X0 hx (H d30_0) rfl ?_
 refine g_ifNo X0 hx (H d30_1) (flt (by decide : ¬ (i0 < i0))).1 ?_
 refine g_iloadN X0 hx (H d30_4) rfl ?_
 refine g_iloadN X0 hx (H d30_5) rfl ?_
 refine g_icmpNo X0 hx (H d30_6) (flt (by decide : ¬ (i3 < i0))).2.2.1 ?_
 refine g_iloadN X0 hx (H d30_9) rfl ?_
 refine g_iloadN X0 hx (H d30_10) rfl ?_
 refine g_icmpYes X0 hx 22 (H d30_11) (flt (by decide : ¬ (i3 < i3))).2.2.2 (by decide) (by decide) ?_
 refine g_iloadN X0 hx (H d30_22) rfl ?_
 exact Go.ret (Q := Qm303n_o Z  h0 n0) X0 (v := some (.int i0)) (fun h => by rw [hret] at h; cases h) hlk (fun fs hr => retOut X0 hx hret rfl (Or.inl ⟨rfl, Or.inl rfl, _, rfl⟩) (H d30_23) hr) e0 ⟨rfl, N0, rfl⟩ (by decide) (by decide)
def Qm293 (Z : State)  (h0 : Heap) (n0 : Nat) (v : Option Value) (h : Heap) (L : List Loc) : Prop := v = none ∧ Fr n0 L ∧ h = h0
theorem rm293 (l : Launch) (Z : State) (a0 : Array Value) (hw : Hw a0 Z)  (h0 : Heap) (n0 : Nat) (Z0 : n0 ≤ h0.size) (hfm : ∃ v : Value, v.isRef = true ∧ Sta Z h0 s6_ s7_ s8_ v) :
  Met l Z h0 yy21 jdk_42_method_158_code 3 none (rmk 1 0 0 15) #[(.int i0), (.int i3), (.int i3)] (Qm293 Z  h0 n0) := by
 refine enter (plainFor_of_name pn_29) (fun m => ef_29 m i0 i3 i3) fun p e s m below meth c s₁ hx hby hml hown hnm hZ X0 e0 hret hlk => ?_
 have N0 := Fr.nil n0; have H := @hb c _ hby
 refine g_iloadN X0 hx (H d29_0) rfl ?_
 refine g_iloadN X0 hx (H d29_1) rfl ?_
 refine g_iloadN X0 hx (H d29_2) rfl ?_
 obtain ⟨vfm, hvf, hSf⟩ := hfm
 rcases ref_cases hvf with rfl | ⟨wfm, rfl⟩
 ·skip
  refine g_getS X0 hx hZ hown (tw125 hw) e0 hSf (H d29_3) fun T1 X1 e1 => ?_
  refine g_static X1 hx hZ (rm303n_o l Z a0 hw  h0 n0 Z0 ) hown (tw127 hw) (tw128 hw) (tw126 hw) (tw129 hw) (by decide) 0 (by decide) (by decide) (by rw [hml]; rfl) [(.int i0), (.int i3), (.int i3), .null] [] (lenOf pd_11 rfl) (Nat.le_of_eq rfl) e1 (by decide) (by decide) rfl rfl (H d29_6) fun v2 T2 Lc2 X2 hQ2 => ?_
  obtain ⟨rfl, N2q, eq2⟩ := hQ2
  have N2 := Fr.app N0 N2q
  show Gs p e below _ T2 m 9 #[iv i0, iv i3, iv i3] [(.int i0)]
  refine g_pop X2 hx (H d29_9) rfl ?_
  exact Go.ret (Q := Qm293 Z  h0 n0) X2 (v := none) (fun _ => rfl) hlk (fun fs hr => X2.returnOut hx hret (H d29_10) hr) eq2 ⟨rfl, N2, rfl⟩ (by decide) (by decide)
 ·skip
  refine g_getS X0 hx hZ hown (tw125 hw) e0 hSf (H d29_3) fun T3 X3 e3 => ?_
  refine g_static X3 hx hZ (rm303_o l Z a0 hw wfm h0 n0 Z0 ) hown (tw127 hw) (tw128 hw) (tw126 hw) (tw129 hw) (by decide) 0 (by decide) (by decide) (by rw [hml]; rfl) [(.int i0), (.int i3), (.int i3), (.ref wfm)] [] (lenOf pd_11 rfl) (Nat.le_of_eq rfl) e3 (by decide) (by decide) rfl rfl (H d29_6) fun v4 T4 Lc4 X4 hQ4 => ?_
  obtain ⟨rfl, N4q, eq4⟩ := hQ4
  have N4 := Fr.app N0 N4q
  show Gs p e below _ T4 m 9 #[iv i0, iv i3, iv i3] [(.int i0)]
  refine g_pop X4 hx (H d29_9) rfl ?_
  exact Go.ret (Q := Qm293 Z  h0 n0) X4 (v := none) (fun _ => rfl) hlk (fun fs hr => X4.returnOut hx hret (H d29_10) hr) eq4 ⟨rfl, N4, rfl⟩ (by decide) (by decide)
def Qm273_o (Z : State) (a1 : Addr) (h0 : Heap) (n0 : Nat) (v : Option Value) (h : Heap) (L : List Loc) : Prop := v = none ∧ Fr n0 L ∧ h = h0
theorem rm273_o (l : Launch) (Z : State) (a0 : Array Value) (hw : Hw a0 Z) (a1 : Addr) (h0 : Heap) (n0 : Nat) (Z0 : n0 ≤ h0.size) (V_a1 : Arn Z h0 a1 .byte i6) (hfm : ∃ v : Value, v.isRef = true ∧ Sta Z h0 s6_ s7_ s8_ v) :
  Met l Z h0 yy22 jdk_52_method_93_code 3 none (rmk 2 0 0 29) #[(.int i0), (.int i3), (.ref a1)] (Qm273_o Z a1 h0 n0) := by
 refine enter (plainFor_of_name pn_27) (fun m => ef_27 m i0 i3 a1) fun p e s m below meth c s₁ hx hby hml hown hnm hZ X0 e0 hret hlk => ?_
 have N0 := Fr.nil n0; have H := @hb c _ hby
 refine g_iloadN X0 hx (H d27_0) rfl ?_
 refine g_iloadN X0 hx (H d27_1) rfl ?_
 refine g_aloadN X0 hx (H d27_2) rfl rfl ?_
 refine g_static X0 hx hZ (rm283_o l Z a0 hw a1 h0 n0 Z0 V_a1) hown (tw119 hw) (tw120 hw) (tw74 hw) (tw121 hw) (by decide) 2 (by decide) (by decide) (by rw [hml]; rfl) [(.ref a1)] [(.int i3), (.int i0)] (lenOf pd_12 rfl) (Nat.le_of_eq rfl) e0 (by decide) (by decide) rfl rfl (H d27_3) fun v2 T2 Lc2 X2 hQ2 => ?_
 obtain ⟨rfl, N2q, eq2⟩ := hQ2
 have N2 := Fr.app N0 N2q
 show Gs p e below _ T2 m 6 #[iv i0, iv i3, rv a1] [(.int i3), (.int i3), (.int i0)]
 refine g_static X2 hx hZ (rm293 l Z a0 hw  h0 n0 Z0 hfm) hown (tw122 hw) (tw123 hw) (tw8 hw) (tw124 hw) (by decide) 0 (by decide) (by decide) (by rw [hml]; rfl) [(.int i0), (.int i3), (.int i3)] [] (lenOf pd_13 rfl) (Nat.le_of_eq rfl) eq2 (by decide) (by decide) rfl rfl (H d27_6) fun v3 T3 Lc3 X3 hQ3 => ?_
 obtain ⟨rfl, N3q, eq3⟩ := hQ3
 have N3 := Fr.app N2 N3q
 show Gs p e below _ T3 m 9 #[iv i0, iv i3, rv a1] []
 exact Go.ret (Q := Qm273_o Z a1 h0 n0) X3 (v := none) (fun _ => rfl) hlk (fun fs hr => X3.returnOut hx hret (H d27_9) hr) eq3 ⟨rfl, N3, rfl⟩ (by decide) (by decide)
def Qm313 (Z : State) (a1 : Addr) (p2 : Int32) (v0 : Int32) (v1 : Int32) (v2 : Int32) (kb : ClassId) (h0 : Heap) (n0 : Nat) (v : Option Value) (h : Heap) (L : List Loc) : Prop := ∃ (r0 : Int32), v = some (.int r0) ∧ ((r0 < 0) ↔ (¬ v0 = p2 ∧ ¬ v1 = p2 ∧ ¬ v2 = p2)) ∧ Fr n0 L ∧ h = h0
theorem rm313 (l : Launch) (Z : State) (a0 : Array Value) (hw : Hw a0 Z) (a1 : Addr) (p2 : Int32) (v0 : Int32) (v1 : Int32) (v2 : Int32) (kb : ClassId) (h0 : Heap) (n0 : Nat) (Z0 : n0 ≤ h0.size) (V_a1 : Arv Z h0 a1 kb .byte i6 [(.int (nar .byte ((v0 >>> (i0 &&& 31)).toInt8.toInt32))), (.int (nar .byte ((v0 >>> (i8 &&& 31)).toInt8.toInt32))), (.int (nar .byte ((v1 >>> (i0 &&& 31)).toInt8.toInt32))), (.int (nar .byte ((v1 >>> (i8 &&& 31)).toInt8.toInt32))), (.int (nar .byte ((v2 >>> (i0 &&& 31)).toInt8.toInt32))), (.int (nar .byte ((v2 >>> (i8 &&& 31)).toInt8.toInt32)))] (.int i0)) (hb0 : 0 ≤ v0.toInt ∧ v0.toInt ≤ 65535) (hb1 : 0 ≤ v1.toInt ∧ v1.toInt ≤ 65535) (hb2 : 0 ≤ v2.toInt ∧ v2.toInt ≤ 65535) (hch : 0 ≤ p2.toInt ∧ p2.toInt ≤ 127) (S__assertionsDisabled : Sta Z h0 s1_ s2_ "Z" (.int i1)) (S_HI_BYTE_SHIFT : Sta Z h0 s1_ s3_ "I" (.int i0)) (S_LO_BYTE_SHIFT : Sta Z h0 s1_ s4_ "I" (.int i8)) :
  Met l Z h0 yy23 jdk_52_method_48_code 5 (some .int) (rmk 1 0 0 13) #[(.ref a1), (.int p2), (.int i0), (.int i3)] (Qm313 Z a1 p2 v0 v1 v2 kb h0 n0) := by
 refine enter (plainFor_of_name pn_31) (fun m => ef_31 m a1 p2 i0 i3) fun p e s m below meth c s₁ hx hby hml hown hnm hZ X0 e0 hret hlk => ?_
 have N0 := Fr.nil n0; have H := @hb c _ hby
 refine g_iloadN X0 hx (H d31_0) rfl ?_
 refine g_istore X0 hx (H d31_1) (l' := #[rv a1, iv p2, iv i0, iv i3, iv i0]) rfl ?_
 refine g_iload X0 hx (H d31_3) rfl ?_
 refine g_iloadN X0 hx (H d31_5) rfl ?_
 refine g_icmpNo X0 hx (H d31_6) (tlt (by decide : (i0 < i3))).2.1 ?_
 refine g_aloadN X0 hx (H d31_9) rfl rfl ?_
 refine g_iload X0 hx (H d31_10) rfl ?_
 refine g_static X0 hx hZ (rm2430_o l Z a0 hw a1 (nar .byte ((v0 >>> (i0 &&& 31)).toInt8.toInt32)) (nar .byte ((v0 >>> (i8 &&& 31)).toInt8.toInt32)) (nar .byte ((v1 >>> (i0 &&& 31)).toInt8.toInt32)) (nar .byte ((v1 >>> (i8 &&& 31)).toInt8.toInt32)) (nar .byte ((v2 >>> (i0 &&& 31)).toInt8.toInt32)) (nar .byte ((v2 >>> (i8 &&& 31)).toInt8.toInt32)) kb h0 n0 Z0 V_a1 S__assertionsDisabled S_HI_BYTE_SHIFT S_LO_BYTE_SHIFT) hown (tw104 hw) (tw105 hw) (tw74 hw) (tw106 hw) (by decide) 0 (by decide) (by decide) (by rw [hml]; rfl) [(.ref a1), (.int i0)] [] (lenOf pd_5 rfl) (Nat.le_of_eq rfl) e0 (by decide) (by decide) rfl rfl (H d31_12) fun v3 T3 Lc3 X3 hQ3 => ?_
 obtain ⟨rfl, N3q, eq3⟩ := hQ3
 have N3 := Fr.app N0 N3q
 show Gs p e below _ T3 m 15 #[rv a1, iv p2, iv i0, iv i3, iv i0] [(.int (nar .char (((((nar .byte ((v0 >>> (i0 &&& 31)).toInt8.toInt32)) &&& i255) <<< (i0 &&& 31)) ||| (((nar .byte ((v0 >>> (i8 &&& 31)).toInt8.toInt32)) &&& i255) <<< (i8 &&& 31))).toUInt32.toUInt16.toUInt32.toInt32)))]
 rw [own_get hb0]
 show Gs p e below _ T3 m 15 #[rv a1, iv p2, iv i0, iv i3, iv i0] [(.int v0)]
 refine g_iloadN X3 hx (H d31_15) rfl ?_
 by_cases hc_16 : v0 = p2
 ·skip
  refine g_icmpNo X3 hx (H d31_16) (teq hc_16).2 ?_
  refine g_iload X3 hx (H d31_19) rfl ?_
  exact Go.ret (Q := Qm313 Z a1 p2 v0 v1 v2 kb h0 n0) X3 (v := some (.int i0)) (fun h => by rw [hret] at h; cases h) hlk (fun fs hr => retOut X3 hx hret rfl (Or.inl ⟨rfl, Or.inl rfl, _, rfl⟩) (H d31_21) hr) eq3 ⟨_, rfl, ⟨fun q => absurd q (by decide), fun q => absurd hc_16 (q.1)⟩, N3, rfl⟩ (by decide) (by decide)
 ·skip
  refine g_icmpYes X3 hx 22 (H d31_16) (feq hc_16).2 (by decide) (by decide) ?_
  refine g_iinc X3 hx (H d31_22) rfl (l' := #[rv a1, iv p2, iv i0, iv i3, iv i1]) rfl ?_
  refine g_goto X3 hx 3 (H d31_25) (by decide) (by decide) ?_
  refine g_iload X3 hx (H d31_3) rfl ?_
  refine g_iloadN X3 hx (H d31_5) rfl ?_
  refine g_icmpNo X3 hx (H d31_6) (tlt (by decide : (i1 < i3))).2.1 ?_
  refine g_aloadN X3 hx (H d31_9) rfl rfl ?_
  refine g_iload X3 hx (H d31_10) rfl ?_
  refine g_static X3 hx hZ (rm2431_o l Z a0 hw a1 (nar .byte ((v0 >>> (i0 &&& 31)).toInt8.toInt32)) (nar .byte ((v0 >>> (i8 &&& 31)).toInt8.toInt32)) (nar .byte ((v1 >>> (i0 &&& 31)).toInt8.toInt32)) (nar .byte ((v1 >>> (i8 &&& 31)).toInt8.toInt32)) (nar .byte ((v2 >>> (i0 &&& 31)).toInt8.toInt32)) (nar .byte ((v2 >>> (i8 &&& 31)).toInt8.toInt32)) kb h0 n0 Z0 V_a1 S__assertionsDisabled S_HI_BYTE_SHIFT S_LO_BYTE_SHIFT) hown (tw104 hw) (tw105 hw) (tw74 hw) (tw106 hw) (by decide) 0 (by decide) (by decide) (by rw [hml]; rfl) [(.ref a1), (.int i1)] [] (lenOf pd_5 rfl) (Nat.le_of_eq rfl) eq3 (by decide) (by decide) rfl rfl (H d31_12) fun v4 T4 Lc4 X4 hQ4 => ?_
  obtain ⟨rfl, N4q, eq4⟩ := hQ4
  have N4 := Fr.app N3 N4q
  show Gs p e below _ T4 m 15 #[rv a1, iv p2, iv i0, iv i3, iv i1] [(.int (nar .char (((((nar .byte ((v1 >>> (i0 &&& 31)).toInt8.toInt32)) &&& i255) <<< (i0 &&& 31)) ||| (((nar .byte ((v1 >>> (i8 &&& 31)).toInt8.toInt32)) &&& i255) <<< (i8 &&& 31))).toUInt32.toUInt16.toUInt32.toInt32)))]
  rw [own_get hb1]
  show Gs p e below _ T4 m 15 #[rv a1, iv p2, iv i0, iv i3, iv i1] [(.int v1)]
  refine g_iloadN X4 hx (H d31_15) rfl ?_
  by_cases hc_17 : v1 = p2
  ·skip
   refine g_icmpNo X4 hx (H d31_16) (teq hc_17).2 ?_
   refine g_iload X4 hx (H d31_19) rfl ?_
   exact Go.ret (Q := Qm313 Z a1 p2 v0 v1 v2 kb h0 n0) X4 (v := some (.int i1)) (fun h => by rw [hret] at h; cases h) hlk (fun fs hr => retOut X4 hx hret rfl (Or.inl ⟨rfl, Or.inl rfl, _, rfl⟩) (H d31_21) hr) eq4 ⟨_, rfl, ⟨fun q => absurd q (by decide), fun q => absurd hc_17 (q.2.1)⟩, N4, rfl⟩ (by decide) (by decide)
  ·skip
   refine g_icmpYes X4 hx 22 (H d31_16) (feq hc_17).2 (by decide) (by decide) ?_
   refine g_iinc X4 hx (H d31_22) rfl (l' := #[rv a1, iv p2, iv i0, iv i3, iv i2]) rfl ?_
   refine g_goto X4 hx 3 (H d31_25) (by decide) (by decide) ?_
   refine g_iload X4 hx (H d31_3) rfl ?_
   refine g_iloadN X4 hx (H d31_5) rfl ?_
   refine g_icmpNo X4 hx (H d31_6) (tlt (by decide : (i2 < i3))).2.1 ?_
   refine g_aloadN X4 hx (H d31_9) rfl rfl ?_
   refine g_iload X4 hx (H d31_10) rfl ?_
   refine g_static X4 hx hZ (rm2432_o l Z a0 hw a1 (nar .byte ((v0 >>> (i0 &&& 31)).toInt8.toInt32)) (nar .byte ((v0 >>> (i8 &&& 31)).toInt8.toInt32)) (nar .byte ((v1 >>> (i0 &&& 31)).toInt8.toInt32)) (nar .byte ((v1 >>> (i8 &&& 31)).toInt8.toInt32)) (nar .byte ((v2 >>> (i0 &&& 31)).toInt8.toInt32)) (nar .byte ((v2 >>> (i8 &&& 31)).toInt8.toInt32)) kb h0 n0 Z0 V_a1 S__assertionsDisabled S_HI_BYTE_SHIFT S_LO_BYTE_SHIFT) hown (tw104 hw) (tw105 hw) (tw74 hw) (tw106 hw) (by decide) 0 (by decide) (by decide) (by rw [hml]; rfl) [(.ref a1), (.int i2)] [] (lenOf pd_5 rfl) (Nat.le_of_eq rfl) eq4 (by decide) (by decide) rfl rfl (H d31_12) fun v5 T5 Lc5 X5 hQ5 => ?_
   obtain ⟨rfl, N5q, eq5⟩ := hQ5
   have N5 := Fr.app N4 N5q
   show Gs p e below _ T5 m 15 #[rv a1, iv p2, iv i0, iv i3, iv i2] [(.int (nar .char (((((nar .byte ((v2 >>> (i0 &&& 31)).toInt8.toInt32)) &&& i255) <<< (i0 &&& 31)) ||| (((nar .byte ((v2 >>> (i8 &&& 31)).toInt8.toInt32)) &&& i255) <<< (i8 &&& 31))).toUInt32.toUInt16.toUInt32.toInt32)))]
   rw [own_get hb2]
   show Gs p e below _ T5 m 15 #[rv a1, iv p2, iv i0, iv i3, iv i2] [(.int v2)]
   refine g_iloadN X5 hx (H d31_15) rfl ?_
   by_cases hc_18 : v2 = p2
   ·skip
    refine g_icmpNo X5 hx (H d31_16) (teq hc_18).2 ?_
    refine g_iload X5 hx (H d31_19) rfl ?_
    exact Go.ret (Q := Qm313 Z a1 p2 v0 v1 v2 kb h0 n0) X5 (v := some (.int i2)) (fun h => by rw [hret] at h; cases h) hlk (fun fs hr => retOut X5 hx hret rfl (Or.inl ⟨rfl, Or.inl rfl, _, rfl⟩) (H d31_21) hr) eq5 ⟨_, rfl, ⟨fun q => absurd q (by decide), fun q => absurd hc_18 (q.2.2)⟩, N5, rfl⟩ (by decide) (by decide)
   ·skip
    refine g_icmpYes X5 hx 22 (H d31_16) (feq hc_18).2 (by decide) (by decide) ?_
    refine g_iinc X5 hx (H d31_22) rfl (l' := #[rv a1, iv p2, iv i0, iv i3, iv i3]) rfl ?_
    refine g_goto X5 hx 3 (H d31_25) (by decide) (by decide) ?_
    refine g_iload X5 hx (H d31_3) rfl ?_
    refine g_iloadN X5 hx (H d31_5) rfl ?_
    refine g_icmpYes X5 hx 28 (H d31_6) (flt (by decide : ¬ (i3 < i3))).2.1 (by decide) (by decide) ?_
    refine g_iconst X5 hx im1 (H d31_28) rfl ?_
    exact Go.ret (Q := Qm313 Z a1 p2 v0 v1 v2 kb h0 n0) X5 (v := some (.int im1)) (fun h => by rw [hret] at h; cases h) hlk (fun fs hr => retOut X5 hx hret rfl (Or.inl ⟨rfl, Or.inl rfl, _, rfl⟩) (H d31_29) hr) eq5 ⟨_, rfl, ⟨fun _ => ⟨hc_16, hc_17, hc_18⟩, fun _ => by decide⟩, N5, rfl⟩ (by decide) (by decide)
def Qm263 (Z : State) (a1 : Addr) (p2 : Int32) (v0 : Int32) (v1 : Int32) (v2 : Int32) (kb : ClassId) (h0 : Heap) (n0 : Nat) (v : Option Value) (h : Heap) (L : List Loc) : Prop := ∃ (r0 : Int32), v = some (.int r0) ∧ ((r0 < 0) ↔ (¬ v0 = p2 ∧ ¬ v1 = p2 ∧ ¬ v2 = p2)) ∧ Fr n0 L ∧ h = h0
theorem rm263 (l : Launch) (Z : State) (a0 : Array Value) (hw : Hw a0 Z) (a1 : Addr) (p2 : Int32) (v0 : Int32) (v1 : Int32) (v2 : Int32) (kb : ClassId) (h0 : Heap) (n0 : Nat) (Z0 : n0 ≤ h0.size) (V_a1 : Arv Z h0 a1 kb .byte i6 [(.int (nar .byte ((v0 >>> (i0 &&& 31)).toInt8.toInt32))), (.int (nar .byte ((v0 >>> (i8 &&& 31)).toInt8.toInt32))), (.int (nar .byte ((v1 >>> (i0 &&& 31)).toInt8.toInt32))), (.int (nar .byte ((v1 >>> (i8 &&& 31)).toInt8.toInt32))), (.int (nar .byte ((v2 >>> (i0 &&& 31)).toInt8.toInt32))), (.int (nar .byte ((v2 >>> (i8 &&& 31)).toInt8.toInt32)))] (.int i0)) (hb0 : 0 ≤ v0.toInt ∧ v0.toInt ≤ 65535) (hb1 : 0 ≤ v1.toInt ∧ v1.toInt ≤ 65535) (hb2 : 0 ≤ v2.toInt ∧ v2.toInt ≤ 65535) (hch : 0 ≤ p2.toInt ∧ p2.toInt ≤ 127) (S__assertionsDisabled : Sta Z h0 s1_ s2_ "Z" (.int i1)) (S_HI_BYTE_SHIFT : Sta Z h0 s1_ s3_ "I" (.int i0)) (S_LO_BYTE_SHIFT : Sta Z h0 s1_ s4_ "I" (.int i8)) (hfm : ∃ v : Value, v.isRef = true ∧ Sta Z h0 s6_ s7_ s8_ v) :
  Met l Z h0 yy24 jdk_52_method_47_code 4 (some .int) (rmk 3 0 0 43) #[(.ref a1), (.int p2), (.int i0), (.int i3)] (Qm263 Z a1 p2 v0 v1 v2 kb h0 n0) := by
 refine enter (plainFor_of_name pn_26) (fun m => ef_26 m a1 p2 i0 i3) fun p e s m below meth c s₁ hx hby hml hown hnm hZ X0 e0 hret hlk => ?_
 have N0 := Fr.nil n0; have H := @hb c _ hby
 refine g_iloadN X0 hx (H d26_0) rfl ?_
 refine g_iloadN X0 hx (H d26_1) rfl ?_
 refine g_aloadN X0 hx (H d26_2) rfl rfl ?_
 refine g_static X0 hx hZ (rm273_o l Z a0 hw a1 h0 n0 Z0 (Arv.arn V_a1) hfm) hown (tw116 hw) (tw117 hw) (tw74 hw) (tw118 hw) (by decide) 0 (by decide) (by decide) (by rw [hml]; rfl) [(.int i0), (.int i3), (.ref a1)] [] (lenOf pd_14 rfl) (Nat.le_of_eq rfl) e0 (by decide) (by decide) rfl rfl (H d26_3) fun v3 T3 Lc3 X3 hQ3 => ?_
 obtain ⟨rfl, N3q, eq3⟩ := hQ3
 have N3 := Fr.app N0 N3q
 show Gs p e below _ T3 m 6 #[rv a1, iv p2, iv i0, iv i3] []
 refine g_aloadN X3 hx (H d26_6) rfl rfl ?_
 refine g_iloadN X3 hx (H d26_7) rfl ?_
 refine g_iloadN X3 hx (H d26_8) rfl ?_
 refine g_iloadN X3 hx (H d26_9) rfl ?_
 refine g_static X3 hx hZ (rm313 l Z a0 hw a1 p2 v0 v1 v2 kb h0 n0 Z0 V_a1 hb0 hb1 hb2 hch S__assertionsDisabled S_HI_BYTE_SHIFT S_LO_BYTE_SHIFT) hown (tw130 hw) (tw131 hw) (tw74 hw) (tw132 hw) (by decide) 0 (by decide) (by decide) (by rw [hml]; rfl) [(.ref a1), (.int p2), (.int i0), (.int i3)] [] (lenOf pd_10 rfl) (Nat.le_of_eq rfl) eq3 (by decide) (by decide) rfl rfl (H d26_10) fun v4 T4 Lc4 X4 hQ4 => ?_
 obtain ⟨r0_4, rfl, hp4, N4q, eq4⟩ := hQ4
 have N4 := Fr.app N3 N4q
 show Gs p e below _ T4 m 13 #[rv a1, iv p2, iv i0, iv i3] [(.int r0_4)]
 exact Go.ret (Q := Qm263 Z a1 p2 v0 v1 v2 kb h0 n0) X4 (v := some (.int r0_4)) (fun h => by rw [hret] at h; cases h) hlk (fun fs hr => retOut X4 hx hret rfl (Or.inl ⟨rfl, Or.inl rfl, _, rfl⟩) (H d26_13) hr) eq4 ⟨_, rfl, hp4, N4, rfl⟩ (by decide) (by decide)
def Qm253 (Z : State) (a1 : Addr) (p2 : Int32) (v0 : Int32) (v1 : Int32) (v2 : Int32) (kb : ClassId) (h0 : Heap) (n0 : Nat) (v : Option Value) (h : Heap) (L : List Loc) : Prop := ∃ (r0 : Int32), v = some (.int r0) ∧ ((r0 < 0) ↔ (¬ v0 = p2 ∧ ¬ v1 = p2 ∧ ¬ v2 = p2)) ∧ Fr n0 L ∧ h = h0
theorem rm253 (l : Launch) (Z : State) (a0 : Array Value) (hw : Hw a0 Z) (a1 : Addr) (p2 : Int32) (v0 : Int32) (v1 : Int32) (v2 : Int32) (kb : ClassId) (h0 : Heap) (n0 : Nat) (Z0 : n0 ≤ h0.size) (V_a1 : Arv Z h0 a1 kb .byte i6 [(.int (nar .byte ((v0 >>> (i0 &&& 31)).toInt8.toInt32))), (.int (nar .byte ((v0 >>> (i8 &&& 31)).toInt8.toInt32))), (.int (nar .byte ((v1 >>> (i0 &&& 31)).toInt8.toInt32))), (.int (nar .byte ((v1 >>> (i8 &&& 31)).toInt8.toInt32))), (.int (nar .byte ((v2 >>> (i0 &&& 31)).toInt8.toInt32))), (.int (nar .byte ((v2 >>> (i8 &&& 31)).toInt8.toInt32)))] (.int i0)) (hb0 : 0 ≤ v0.toInt ∧ v0.toInt ≤ 65535) (hb1 : 0 ≤ v1.toInt ∧ v1.toInt ≤ 65535) (hb2 : 0 ≤ v2.toInt ∧ v2.toInt ≤ 65535) (hch : 0 ≤ p2.toInt ∧ p2.toInt ≤ 127) (S__assertionsDisabled : Sta Z h0 s1_ s2_ "Z" (.int i1)) (S_HI_BYTE_SHIFT : Sta Z h0 s1_ s3_ "I" (.int i0)) (S_LO_BYTE_SHIFT : Sta Z h0 s1_ s4_ "I" (.int i8)) (hfm : ∃ v : Value, v.isRef = true ∧ Sta Z h0 s6_ s7_ s8_ v) :
  Met l Z h0 yy25 jdk_52_method_40_code 4 (some .int) (rmk 4 0 0 58) #[(.ref a1), (.int p2), (.int i0), (.int i3)] (Qm253 Z a1 p2 v0 v1 v2 kb h0 n0) := by
 refine enter (plainFor_of_name pn_25) (fun m => ef_25 m a1 p2 i0 i3) fun p e s m below meth c s₁ hx hby hml hown hnm hZ X0 e0 hret hlk => ?_
 have N0 := Fr.nil n0; have H := @hb c _ hby
 refine g_iloadN X0 hx (H d25_0) rfl ?_
 refine g_iconst X0 hx i0 (H d25_1) rfl ?_
 refine g_static X0 hx hZ (rm13z_o l Z a0 hw  h0 n0 Z0 ) hown (tw110 hw) (tw66 hw) (tw67 hw) (tw68 hw) (by decide) 0 (by decide) (by decide) (by rw [hml]; rfl) [(.int i0), (.int i0)] [] (lenOf pd_9 rfl) (Nat.le_of_eq rfl) e0 (by decide) (by decide) rfl rfl (H d25_2) fun v3 T3 Lc3 X3 hQ3 => ?_
 obtain ⟨rfl, N3q, eq3⟩ := hQ3
 have N3 := Fr.app N0 N3q
 show Gs p e below _ T3 m 5 #[rv a1, iv p2, iv i0, iv i3] [(.int i0)]
 refine g_istoreN X3 hx (H d25_5) (l' := #[rv a1, iv p2, iv i0, iv i3]) rfl ?_
 refine g_iloadN X3 hx (H d25_6) rfl ?_
 refine g_aloadN X3 hx (H d25_7) rfl rfl ?_
 obtain ⟨clq4, Arq4, caq4, saq4, naq4, haq4, gaq4⟩ := id V_a1
 refine g_len X3 hx hZ eq3 Arq4 saq4 naq4 (H d25_8) ?_
 refine g_iconst X3 hx i1 (H d25_9) rfl ?_
 refine g_ishr X3 hx (H d25_10) ?_
 rw [show (i6 >>> (i1 &&& 31)) = i3 from by decide]
 show Gs p e below _ T3 m 11 #[rv a1, iv p2, iv i0, iv i3] [(.int i3), (.int i3)]
 refine g_static X3 hx hZ (rm143_o l Z a0 hw  h0 n0 Z0 ) hown (tw111 hw) (tw70 hw) (tw67 hw) (tw71 hw) (by decide) 0 (by decide) (by decide) (by rw [hml]; rfl) [(.int i3), (.int i3)] [] (lenOf pd_9 rfl) (Nat.le_of_eq rfl) eq3 (by decide) (by decide) rfl rfl (H d25_11) fun v5 T5 Lc5 X5 hQ5 => ?_
 obtain ⟨rfl, N5q, eq5⟩ := hQ5
 have N5 := Fr.app N3 N5q
 show Gs p e below _ T5 m 14 #[rv a1, iv p2, iv i0, iv i3] [(.int i3)]
 refine g_istoreN X5 hx (H d25_14) (l' := #[rv a1, iv p2, iv i0, iv i3]) rfl ?_
 refine g_iloadN X5 hx (H d25_15) rfl ?_
 refine g_iloadN X5 hx (H d25_16) rfl ?_
 refine g_icmpYes X5 hx 22 (H d25_17) (tlt (by decide : (i0 < i3))).1 (by decide) (by decide) ?_
 refine g_iloadN X5 hx (H d25_22) rfl ?_
 refine Go.st (fun _ kk => X5.ldcInt hx hown (mvT hZ (tw112 hw)) (g := (mkF m 23 #[rv a1, iv p2, iv i0, iv i3] [(.int p2)])) rfl (H d25_23) _ kk) ?_
 show Gs p e below _ T5 m 25 #[rv a1, iv p2, iv i0, iv i3] [(.int i65536), (.int p2)]
 refine g_icmpNo X5 hx (H d25_25) (tlt (own_ch2 hch)).2.1 ?_
 refine g_aloadN X5 hx (H d25_28) rfl rfl ?_
 refine g_iloadN X5 hx (H d25_29) rfl ?_
 refine g_iloadN X5 hx (H d25_30) rfl ?_
 refine g_iloadN X5 hx (H d25_31) rfl ?_
 refine g_static X5 hx hZ (rm263 l Z a0 hw a1 p2 v0 v1 v2 kb h0 n0 Z0 V_a1 hb0 hb1 hb2 hch S__assertionsDisabled S_HI_BYTE_SHIFT S_LO_BYTE_SHIFT hfm) hown (tw113 hw) (tw114 hw) (tw74 hw) (tw115 hw) (by decide) 0 (by decide) (by decide) (by rw [hml]; rfl) [(.ref a1), (.int p2), (.int i0), (.int i3)] [] (lenOf pd_10 rfl) (Nat.le_of_eq rfl) eq5 (by decide) (by decide) rfl rfl (H d25_32) fun v6 T6 Lc6 X6 hQ6 => ?_
 obtain ⟨r0_6, rfl, hp6, N6q, eq6⟩ := hQ6
 have N6 := Fr.app N5 N6q
 show Gs p e below _ T6 m 35 #[rv a1, iv p2, iv i0, iv i3] [(.int r0_6)]
 exact Go.ret (Q := Qm253 Z a1 p2 v0 v1 v2 kb h0 n0) X6 (v := some (.int r0_6)) (fun h => by rw [hret] at h; cases h) hlk (fun fs hr => retOut X6 hx hret rfl (Or.inl ⟨rfl, Or.inl rfl, _, rfl⟩) (H d25_35) hr) eq6 ⟨_, rfl, hp6, N6, rfl⟩ (by decide) (by decide)
def Qm284_o (Z : State) (a1 : Addr) (h0 : Heap) (n0 : Nat) (v : Option Value) (h : Heap) (L : List Loc) : Prop := v = some (.int i4) ∧ Fr n0 L ∧ h = h0
theorem rm284_o (l : Launch) (Z : State) (a0 : Array Value) (hw : Hw a0 Z) (a1 : Addr) (h0 : Heap) (n0 : Nat) (Z0 : n0 ≤ h0.size) (V_a1 : Arn Z h0 a1 .byte i8) :
  Met l Z h0 yy19 jdk_52_method_6_code 1 (some .int) (rmk 0 0 0 0) #[(.ref a1)] (Qm284_o Z a1 h0 n0) := by
 refine enter (plainFor_of_name pn_28) (fun m => ef_28 m a1) fun p e s m below meth c s₁ hx hby hml hown hnm hZ X0 e0 hret hlk => ?_
 have N0 := Fr.nil n0; have H := @hb c _ hby
 refine g_aloadN X0 hx (H d28_0) rfl rfl ?_
 obtain ⟨clq2, Arq2, saq2, naq2⟩ := id V_a1
 refine g_len X0 hx hZ e0 Arq2 saq2 naq2 (H d28_1) ?_
 refine g_iconst X0 hx i1 (H d28_2) rfl ?_
 refine g_ishr X0 hx (H d28_3) ?_
 rw [show (i8 >>> (i1 &&& 31)) = i4 from by decide]
 show Gs p e below _ s₁ m 4 #[rv a1] [(.int i4)]
 exact Go.ret (Q := Qm284_o Z a1 h0 n0) X0 (v := some (.int i4)) (fun h => by rw [hret] at h; cases h) hlk (fun fs hr => retOut X0 hx hret rfl (Or.inl ⟨rfl, Or.inl rfl, _, rfl⟩) (H d28_4) hr) e0 ⟨rfl, N0, rfl⟩ (by decide) (by decide)
def Qm304_o (Z : State) (a1 : Addr) (h0 : Heap) (n0 : Nat) (v : Option Value) (h : Heap) (L : List Loc) : Prop := v = some (.int i0) ∧ Fr n0 L ∧ h = h0
theorem rm304_o (l : Launch) (Z : State) (a0 : Array Value) (hw : Hw a0 Z) (a1 : Addr) (h0 : Heap) (n0 : Nat) (Z0 : n0 ≤ h0.size) :
  Met l Z h0 yy20 jdk_41_method_12_code 4 (some .int) (rmk 0 0 0 0) #[(.int i0), (.int i4), (.int i4), (.ref a1)] (Qm304_o Z a1 h0 n0) := by
 refine enter (plainFor_of_name pn_30) (fun m => ef_30 m i0 i4 i4 a1) fun p e s m below meth c s₁ hx hby hml hown hnm hZ X0 e0 hret hlk => ?_
 have N0 := Fr.nil n0; have H := @hb c _ hby
 refine g_iloadN X0 hx (H d30_0) rfl ?_
 refine g_ifNo X0 hx (H d30_1) (flt (by decide : ¬ (i0 < i0))).1 ?_
 refine g_iloadN X0 hx (H d30_4) rfl ?_
 refine g_iloadN X0 hx (H d30_5) rfl ?_
 refine g_icmpNo X0 hx (H d30_6) (flt (by decide : ¬ (i4 < i0))).2.2.1 ?_
 refine g_iloadN X0 hx (H d30_9) rfl ?_
 refine g_iloadN X0 hx (H d30_10) rfl ?_
 refine g_icmpYes X0 hx 22 (H d30_11) (flt (by decide : ¬ (i4 < i4))).2.2.2 (by decide) (by decide) ?_
 refine g_iloadN X0 hx (H d30_22) rfl ?_
 exact Go.ret (Q := Qm304_o Z a1 h0 n0) X0 (v := some (.int i0)) (fun h => by rw [hret] at h; cases h) hlk (fun fs hr => retOut X0 hx hret rfl (Or.inl ⟨rfl, Or.inl rfl, _, rfl⟩) (H d30_23) hr) e0 ⟨rfl, N0, rfl⟩ (by decide) (by decide)
def Qm304n_o (Z : State)  (h0 : Heap) (n0 : Nat) (v : Option Value) (h : Heap) (L : List Loc) : Prop := v = some (.int i0) ∧ Fr n0 L ∧ h = h0
theorem rm304n_o (l : Launch) (Z : State) (a0 : Array Value) (hw : Hw a0 Z)  (h0 : Heap) (n0 : Nat) (Z0 : n0 ≤ h0.size) :
  Met l Z h0 yy20 jdk_41_method_12_code 4 (some .int) (rmk 0 0 0 0) #[(.int i0), (.int i4), (.int i4), .null] (Qm304n_o Z  h0 n0) := by
 refine enter (plainFor_of_name pn_30) (fun m => ef_304n m i0 i4 i4) fun p e s m below meth c s₁ hx hby hml hown hnm hZ X0 e0 hret hlk => ?_
 have N0 := Fr.nil n0; have H := @hb c _ hby
 refine g_iloadN X0 hx (H d30_0) rfl ?_
 refine g_ifNo X0 hx (H d30_1) (flt (by decide : ¬ (i0 < i0))).1 ?_
 refine g_iloadN X0 hx (H d30_4) rfl ?_
 refine g_iloadN X0 hx (H d30_5) rfl ?_
 refine g_icmpNo X0 hx (H d30_6) (flt (by decide : ¬ (i4 < i0))).2.2.1 ?_
 refine g_iloadN X0 hx (H d30_9) rfl ?_
 refine g_iloadN X0 hx (H d30_10) rfl ?_
 refine g_icmpYes X0 hx 22 (H d30_11) (flt (by decide : ¬ (i4 < i4))).2.2.2 (by decide) (by decide) ?_
 refine g_iloadN X0 hx (H d30_22) rfl ?_
 exact Go.ret (Q := Qm304n_o Z  h0 n0) X0 (v := some (.int i0)) (fun h => by rw [hret] at h; cases h) hlk (fun fs hr => retOut X0 hx hret rfl (Or.inl ⟨rfl, Or.inl rfl, _, rfl⟩) (H d30_23) hr) e0 ⟨rfl, N0, rfl⟩ (by decide) (by decide)
def Qm294 (Z : State)  (h0 : Heap) (n0 : Nat) (v : Option Value) (h : Heap) (L : List Loc) : Prop := v = none ∧ Fr n0 L ∧ h = h0
theorem rm294 (l : Launch) (Z : State) (a0 : Array Value) (hw : Hw a0 Z)  (h0 : Heap) (n0 : Nat) (Z0 : n0 ≤ h0.size) (hfm : ∃ v : Value, v.isRef = true ∧ Sta Z h0 s6_ s7_ s8_ v) :
  Met l Z h0 yy21 jdk_42_method_158_code 3 none (rmk 1 0 0 15) #[(.int i0), (.int i4), (.int i4)] (Qm294 Z  h0 n0) := by
 refine enter (plainFor_of_name pn_29) (fun m => ef_29 m i0 i4 i4) fun p e s m below meth c s₁ hx hby hml hown hnm hZ X0 e0 hret hlk => ?_
 have N0 := Fr.nil n0; have H := @hb c _ hby
 refine g_iloadN X0 hx (H d29_0) rfl ?_
 refine g_iloadN X0 hx (H d29_1) rfl ?_
 refine g_iloadN X0 hx (H d29_2) rfl ?_
 obtain ⟨vfm, hvf, hSf⟩ := hfm
 rcases ref_cases hvf with rfl | ⟨wfm, rfl⟩
 ·skip
  refine g_getS X0 hx hZ hown (tw125 hw) e0 hSf (H d29_3) fun T1 X1 e1 => ?_
  refine g_static X1 hx hZ (rm304n_o l Z a0 hw  h0 n0 Z0 ) hown (tw127 hw) (tw128 hw) (tw126 hw) (tw129 hw) (by decide) 0 (by decide) (by decide) (by rw [hml]; rfl) [(.int i0), (.int i4), (.int i4), .null] [] (lenOf pd_11 rfl) (Nat.le_of_eq rfl) e1 (by decide) (by decide) rfl rfl (H d29_6) fun v2 T2 Lc2 X2 hQ2 => ?_
  obtain ⟨rfl, N2q, eq2⟩ := hQ2
  have N2 := Fr.app N0 N2q
  show Gs p e below _ T2 m 9 #[iv i0, iv i4, iv i4] [(.int i0)]
  refine g_pop X2 hx (H d29_9) rfl ?_
  exact Go.ret (Q := Qm294 Z  h0 n0) X2 (v := none) (fun _ => rfl) hlk (fun fs hr => X2.returnOut hx hret (H d29_10) hr) eq2 ⟨rfl, N2, rfl⟩ (by decide) (by decide)
 ·skip
  refine g_getS X0 hx hZ hown (tw125 hw) e0 hSf (H d29_3) fun T3 X3 e3 => ?_
  refine g_static X3 hx hZ (rm304_o l Z a0 hw wfm h0 n0 Z0 ) hown (tw127 hw) (tw128 hw) (tw126 hw) (tw129 hw) (by decide) 0 (by decide) (by decide) (by rw [hml]; rfl) [(.int i0), (.int i4), (.int i4), (.ref wfm)] [] (lenOf pd_11 rfl) (Nat.le_of_eq rfl) e3 (by decide) (by decide) rfl rfl (H d29_6) fun v4 T4 Lc4 X4 hQ4 => ?_
  obtain ⟨rfl, N4q, eq4⟩ := hQ4
  have N4 := Fr.app N0 N4q
  show Gs p e below _ T4 m 9 #[iv i0, iv i4, iv i4] [(.int i0)]
  refine g_pop X4 hx (H d29_9) rfl ?_
  exact Go.ret (Q := Qm294 Z  h0 n0) X4 (v := none) (fun _ => rfl) hlk (fun fs hr => X4.returnOut hx hret (H d29_10) hr) eq4 ⟨rfl, N4, rfl⟩ (by decide) (by decide)
def Qm274_o (Z : State) (a1 : Addr) (h0 : Heap) (n0 : Nat) (v : Option Value) (h : Heap) (L : List Loc) : Prop := v = none ∧ Fr n0 L ∧ h = h0
theorem rm274_o (l : Launch) (Z : State) (a0 : Array Value) (hw : Hw a0 Z) (a1 : Addr) (h0 : Heap) (n0 : Nat) (Z0 : n0 ≤ h0.size) (V_a1 : Arn Z h0 a1 .byte i8) (hfm : ∃ v : Value, v.isRef = true ∧ Sta Z h0 s6_ s7_ s8_ v) :
  Met l Z h0 yy22 jdk_52_method_93_code 3 none (rmk 2 0 0 29) #[(.int i0), (.int i4), (.ref a1)] (Qm274_o Z a1 h0 n0) := by
 refine enter (plainFor_of_name pn_27) (fun m => ef_27 m i0 i4 a1) fun p e s m below meth c s₁ hx hby hml hown hnm hZ X0 e0 hret hlk => ?_
 have N0 := Fr.nil n0; have H := @hb c _ hby
 refine g_iloadN X0 hx (H d27_0) rfl ?_
 refine g_iloadN X0 hx (H d27_1) rfl ?_
 refine g_aloadN X0 hx (H d27_2) rfl rfl ?_
 refine g_static X0 hx hZ (rm284_o l Z a0 hw a1 h0 n0 Z0 V_a1) hown (tw119 hw) (tw120 hw) (tw74 hw) (tw121 hw) (by decide) 2 (by decide) (by decide) (by rw [hml]; rfl) [(.ref a1)] [(.int i4), (.int i0)] (lenOf pd_12 rfl) (Nat.le_of_eq rfl) e0 (by decide) (by decide) rfl rfl (H d27_3) fun v2 T2 Lc2 X2 hQ2 => ?_
 obtain ⟨rfl, N2q, eq2⟩ := hQ2
 have N2 := Fr.app N0 N2q
 show Gs p e below _ T2 m 6 #[iv i0, iv i4, rv a1] [(.int i4), (.int i4), (.int i0)]
 refine g_static X2 hx hZ (rm294 l Z a0 hw  h0 n0 Z0 hfm) hown (tw122 hw) (tw123 hw) (tw8 hw) (tw124 hw) (by decide) 0 (by decide) (by decide) (by rw [hml]; rfl) [(.int i0), (.int i4), (.int i4)] [] (lenOf pd_13 rfl) (Nat.le_of_eq rfl) eq2 (by decide) (by decide) rfl rfl (H d27_6) fun v3 T3 Lc3 X3 hQ3 => ?_
 obtain ⟨rfl, N3q, eq3⟩ := hQ3
 have N3 := Fr.app N2 N3q
 show Gs p e below _ T3 m 9 #[iv i0, iv i4, rv a1] []
 exact Go.ret (Q := Qm274_o Z a1 h0 n0) X3 (v := none) (fun _ => rfl) hlk (fun fs hr => X3.returnOut hx hret (H d27_9) hr) eq3 ⟨rfl, N3, rfl⟩ (by decide) (by decide)
def Qm314 (Z : State) (a1 : Addr) (p2 : Int32) (v0 : Int32) (v1 : Int32) (v2 : Int32) (v3 : Int32) (kb : ClassId) (h0 : Heap) (n0 : Nat) (v : Option Value) (h : Heap) (L : List Loc) : Prop := ∃ (r0 : Int32), v = some (.int r0) ∧ ((r0 < 0) ↔ (¬ v0 = p2 ∧ ¬ v1 = p2 ∧ ¬ v2 = p2 ∧ ¬ v3 = p2)) ∧ Fr n0 L ∧ h = h0
theorem rm314 (l : Launch) (Z : State) (a0 : Array Value) (hw : Hw a0 Z) (a1 : Addr) (p2 : Int32) (v0 : Int32) (v1 : Int32) (v2 : Int32) (v3 : Int32) (kb : ClassId) (h0 : Heap) (n0 : Nat) (Z0 : n0 ≤ h0.size) (V_a1 : Arv Z h0 a1 kb .byte i8 [(.int (nar .byte ((v0 >>> (i0 &&& 31)).toInt8.toInt32))), (.int (nar .byte ((v0 >>> (i8 &&& 31)).toInt8.toInt32))), (.int (nar .byte ((v1 >>> (i0 &&& 31)).toInt8.toInt32))), (.int (nar .byte ((v1 >>> (i8 &&& 31)).toInt8.toInt32))), (.int (nar .byte ((v2 >>> (i0 &&& 31)).toInt8.toInt32))), (.int (nar .byte ((v2 >>> (i8 &&& 31)).toInt8.toInt32))), (.int (nar .byte ((v3 >>> (i0 &&& 31)).toInt8.toInt32))), (.int (nar .byte ((v3 >>> (i8 &&& 31)).toInt8.toInt32)))] (.int i0)) (hb0 : 0 ≤ v0.toInt ∧ v0.toInt ≤ 65535) (hb1 : 0 ≤ v1.toInt ∧ v1.toInt ≤ 65535) (hb2 : 0 ≤ v2.toInt ∧ v2.toInt ≤ 65535) (hb3 : 0 ≤ v3.toInt ∧ v3.toInt ≤ 65535) (hch : 0 ≤ p2.toInt ∧ p2.toInt ≤ 127) (S__assertionsDisabled : Sta Z h0 s1_ s2_ "Z" (.int i1)) (S_HI_BYTE_SHIFT : Sta Z h0 s1_ s3_ "I" (.int i0)) (S_LO_BYTE_SHIFT : Sta Z h0 s1_ s4_ "I" (.int i8)) :
  Met l Z h0 yy23 jdk_52_method_48_code 5 (some .int) (rmk 1 0 0 13) #[(.ref a1), (.int p2), (.int i0), (.int i4)] (Qm314 Z a1 p2 v0 v1 v2 v3 kb h0 n0) := by
 refine enter (plainFor_of_name pn_31) (fun m => ef_31 m a1 p2 i0 i4) fun p e s m below meth c s₁ hx hby hml hown hnm hZ X0 e0 hret hlk => ?_
 have N0 := Fr.nil n0; have H := @hb c _ hby
 refine g_iloadN X0 hx (H d31_0) rfl ?_
 refine g_istore X0 hx (H d31_1) (l' := #[rv a1, iv p2, iv i0, iv i4, iv i0]) rfl ?_
 refine g_iload X0 hx (H d31_3) rfl ?_
 refine g_iloadN X0 hx (H d31_5) rfl ?_
 refine g_icmpNo X0 hx (H d31_6) (tlt (by decide : (i0 < i4))).2.1 ?_
 refine g_aloadN X0 hx (H d31_9) rfl rfl ?_
 refine g_iload X0 hx (H d31_10) rfl ?_
 refine g_static X0 hx hZ (rm2440_o l Z a0 hw a1 (nar .byte ((v0 >>> (i0 &&& 31)).toInt8.toInt32)) (nar .byte ((v0 >>> (i8 &&& 31)).toInt8.toInt32)) (nar .byte ((v1 >>> (i0 &&& 31)).toInt8.toInt32)) (nar .byte ((v1 >>> (i8 &&& 31)).toInt8.toInt32)) (nar .byte ((v2 >>> (i0 &&& 31)).toInt8.toInt32)) (nar .byte ((v2 >>> (i8 &&& 31)).toInt8.toInt32)) (nar .byte ((v3 >>> (i0 &&& 31)).toInt8.toInt32)) (nar .byte ((v3 >>> (i8 &&& 31)).toInt8.toInt32)) kb h0 n0 Z0 V_a1 S__assertionsDisabled S_HI_BYTE_SHIFT S_LO_BYTE_SHIFT) hown (tw104 hw) (tw105 hw) (tw74 hw) (tw106 hw) (by decide) 0 (by decide) (by decide) (by rw [hml]; rfl) [(.ref a1), (.int i0)] [] (lenOf pd_5 rfl) (Nat.le_of_eq rfl) e0 (by decide) (by decide) rfl rfl (H d31_12) fun v3 T3 Lc3 X3 hQ3 => ?_
 obtain ⟨rfl, N3q, eq3⟩ := hQ3
 have N3 := Fr.app N0 N3q
 show Gs p e below _ T3 m 15 #[rv a1, iv p2, iv i0, iv i4, iv i0] [(.int (nar .char (((((nar .byte ((v0 >>> (i0 &&& 31)).toInt8.toInt32)) &&& i255) <<< (i0 &&& 31)) ||| (((nar .byte ((v0 >>> (i8 &&& 31)).toInt8.toInt32)) &&& i255) <<< (i8 &&& 31))).toUInt32.toUInt16.toUInt32.toInt32)))]
 rw [own_get hb0]
 show Gs p e below _ T3 m 15 #[rv a1, iv p2, iv i0, iv i4, iv i0] [(.int v0)]
 refine g_iloadN X3 hx (H d31_15) rfl ?_
 by_cases hc_19 : v0 = p2
 ·skip
  refine g_icmpNo X3 hx (H d31_16) (teq hc_19).2 ?_
  refine g_iload X3 hx (H d31_19) rfl ?_
  exact Go.ret (Q := Qm314 Z a1 p2 v0 v1 v2 v3 kb h0 n0) X3 (v := some (.int i0)) (fun h => by rw [hret] at h; cases h) hlk (fun fs hr => retOut X3 hx hret rfl (Or.inl ⟨rfl, Or.inl rfl, _, rfl⟩) (H d31_21) hr) eq3 ⟨_, rfl, ⟨fun q => absurd q (by decide), fun q => absurd hc_19 (q.1)⟩, N3, rfl⟩ (by decide) (by decide)
 ·skip
  refine g_icmpYes X3 hx 22 (H d31_16) (feq hc_19).2 (by decide) (by decide) ?_
  refine g_iinc X3 hx (H d31_22) rfl (l' := #[rv a1, iv p2, iv i0, iv i4, iv i1]) rfl ?_
  refine g_goto X3 hx 3 (H d31_25) (by decide) (by decide) ?_
  refine g_iload X3 hx (H d31_3) rfl ?_
  refine g_iloadN X3 hx (H d31_5) rfl ?_
  refine g_icmpNo X3 hx (H d31_6) (tlt (by decide : (i1 < i4))).2.1 ?_
  refine g_aloadN X3 hx (H d31_9) rfl rfl ?_
  refine g_iload X3 hx (H d31_10) rfl ?_
  refine g_static X3 hx hZ (rm2441_o l Z a0 hw a1 (nar .byte ((v0 >>> (i0 &&& 31)).toInt8.toInt32)) (nar .byte ((v0 >>> (i8 &&& 31)).toInt8.toInt32)) (nar .byte ((v1 >>> (i0 &&& 31)).toInt8.toInt32)) (nar .byte ((v1 >>> (i8 &&& 31)).toInt8.toInt32)) (nar .byte ((v2 >>> (i0 &&& 31)).toInt8.toInt32)) (nar .byte ((v2 >>> (i8 &&& 31)).toInt8.toInt32)) (nar .byte ((v3 >>> (i0 &&& 31)).toInt8.toInt32)) (nar .byte ((v3 >>> (i8 &&& 31)).toInt8.toInt32)) kb h0 n0 Z0 V_a1 S__assertionsDisabled S_HI_BYTE_SHIFT S_LO_BYTE_SHIFT) hown (tw104 hw) (tw105 hw) (tw74 hw) (tw106 hw) (by decide) 0 (by decide) (by decide) (by rw [hml]; rfl) [(.ref a1), (.int i1)] [] (lenOf pd_5 rfl) (Nat.le_of_eq rfl) eq3 (by decide) (by decide) rfl rfl (H d31_12) fun v4 T4 Lc4 X4 hQ4 => ?_
  obtain ⟨rfl, N4q, eq4⟩ := hQ4
  have N4 := Fr.app N3 N4q
  show Gs p e below _ T4 m 15 #[rv a1, iv p2, iv i0, iv i4, iv i1] [(.int (nar .char (((((nar .byte ((v1 >>> (i0 &&& 31)).toInt8.toInt32)) &&& i255) <<< (i0 &&& 31)) ||| (((nar .byte ((v1 >>> (i8 &&& 31)).toInt8.toInt32)) &&& i255) <<< (i8 &&& 31))).toUInt32.toUInt16.toUInt32.toInt32)))]
  rw [own_get hb1]
  show Gs p e below _ T4 m 15 #[rv a1, iv p2, iv i0, iv i4, iv i1] [(.int v1)]
  refine g_iloadN X4 hx (H d31_15) rfl ?_
  by_cases hc_20 : v1 = p2
  ·skip
   refine g_icmpNo X4 hx (H d31_16) (teq hc_20).2 ?_
   refine g_iload X4 hx (H d31_19) rfl ?_
   exact Go.ret (Q := Qm314 Z a1 p2 v0 v1 v2 v3 kb h0 n0) X4 (v := some (.int i1)) (fun h => by rw [hret] at h; cases h) hlk (fun fs hr => retOut X4 hx hret rfl (Or.inl ⟨rfl, Or.inl rfl, _, rfl⟩) (H d31_21) hr) eq4 ⟨_, rfl, ⟨fun q => absurd q (by decide), fun q => absurd hc_20 (q.2.1)⟩, N4, rfl⟩ (by decide) (by decide)
  ·skip
   refine g_icmpYes X4 hx 22 (H d31_16) (feq hc_20).2 (by decide) (by decide) ?_
   refine g_iinc X4 hx (H d31_22) rfl (l' := #[rv a1, iv p2, iv i0, iv i4, iv i2]) rfl ?_
   refine g_goto X4 hx 3 (H d31_25) (by decide) (by decide) ?_
   refine g_iload X4 hx (H d31_3) rfl ?_
   refine g_iloadN X4 hx (H d31_5) rfl ?_
   refine g_icmpNo X4 hx (H d31_6) (tlt (by decide : (i2 < i4))).2.1 ?_
   refine g_aloadN X4 hx (H d31_9) rfl rfl ?_
   refine g_iload X4 hx (H d31_10) rfl ?_
   refine g_static X4 hx hZ (rm2442_o l Z a0 hw a1 (nar .byte ((v0 >>> (i0 &&& 31)).toInt8.toInt32)) (nar .byte ((v0 >>> (i8 &&& 31)).toInt8.toInt32)) (nar .byte ((v1 >>> (i0 &&& 31)).toInt8.toInt32)) (nar .byte ((v1 >>> (i8 &&& 31)).toInt8.toInt32)) (nar .byte ((v2 >>> (i0 &&& 31)).toInt8.toInt32)) (nar .byte ((v2 >>> (i8 &&& 31)).toInt8.toInt32)) (nar .byte ((v3 >>> (i0 &&& 31)).toInt8.toInt32)) (nar .byte ((v3 >>> (i8 &&& 31)).toInt8.toInt32)) kb h0 n0 Z0 V_a1 S__assertionsDisabled S_HI_BYTE_SHIFT S_LO_BYTE_SHIFT) hown (tw104 hw) (tw105 hw) (tw74 hw) (tw106 hw) (by decide) 0 (by decide) (by decide) (by rw [hml]; rfl) [(.ref a1), (.int i2)] [] (lenOf pd_5 rfl) (Nat.le_of_eq rfl) eq4 (by decide) (by decide) rfl rfl (H d31_12) fun v5 T5 Lc5 X5 hQ5 => ?_
   obtain ⟨rfl, N5q, eq5⟩ := hQ5
   have N5 := Fr.app N4 N5q
   show Gs p e below _ T5 m 15 #[rv a1, iv p2, iv i0, iv i4, iv i2] [(.int (nar .char (((((nar .byte ((v2 >>> (i0 &&& 31)).toInt8.toInt32)) &&& i255) <<< (i0 &&& 31)) ||| (((nar .byte ((v2 >>> (i8 &&& 31)).toInt8.toInt32)) &&& i255) <<< (i8 &&& 31))).toUInt32.toUInt16.toUInt32.toInt32)))]
   rw [own_get hb2]
   show Gs p e below _ T5 m 15 #[rv a1, iv p2, iv i0, iv i4, iv i2] [(.int v2)]
   refine g_iloadN X5 hx (H d31_15) rfl ?_
   by_cases hc_21 : v2 = p2
   ·skip
    refine g_icmpNo X5 hx (H d31_16) (teq hc_21).2 ?_
    refine g_iload X5 hx (H d31_19) rfl ?_
    exact Go.ret (Q := Qm314 Z a1 p2 v0 v1 v2 v3 kb h0 n0) X5 (v := some (.int i2)) (fun h => by rw [hret] at h; cases h) hlk (fun fs hr => retOut X5 hx hret rfl (Or.inl ⟨rfl, Or.inl rfl, _, rfl⟩) (H d31_21) hr) eq5 ⟨_, rfl, ⟨fun q => absurd q (by decide), fun q => absurd hc_21 (q.2.2.1)⟩, N5, rfl⟩ (by decide) (by decide)
   ·skip
    refine g_icmpYes X5 hx 22 (H d31_16) (feq hc_21).2 (by decide) (by decide) ?_
    refine g_iinc X5 hx (H d31_22) rfl (l' := #[rv a1, iv p2, iv i0, iv i4, iv i3]) rfl ?_
    refine g_goto X5 hx 3 (H d31_25) (by decide) (by decide) ?_
    refine g_iload X5 hx (H d31_3) rfl ?_
    refine g_iloadN X5 hx (H d31_5) rfl ?_
    refine g_icmpNo X5 hx (H d31_6) (tlt (by decide : (i3 < i4))).2.1 ?_
    refine g_aloadN X5 hx (H d31_9) rfl rfl ?_
    refine g_iload X5 hx (H d31_10) rfl ?_
    refine g_static X5 hx hZ (rm2443_o l Z a0 hw a1 (nar .byte ((v0 >>> (i0 &&& 31)).toInt8.toInt32)) (nar .byte ((v0 >>> (i8 &&& 31)).toInt8.toInt32)) (nar .byte ((v1 >>> (i0 &&& 31)).toInt8.toInt32)) (nar .byte ((v1 >>> (i8 &&& 31)).toInt8.toInt32)) (nar .byte ((v2 >>> (i0 &&& 31)).toInt8.toInt32)) (nar .byte ((v2 >>> (i8 &&& 31)).toInt8.toInt32)) (nar .byte ((v3 >>> (i0 &&& 31)).toInt8.toInt32)) (nar .byte ((v3 >>> (i8 &&& 31)).toInt8.toInt32)) kb h0 n0 Z0 V_a1 S__assertionsDisabled S_HI_BYTE_SHIFT S_LO_BYTE_SHIFT) hown (tw104 hw) (tw105 hw) (tw74 hw) (tw106 hw) (by decide) 0 (by decide) (by decide) (by rw [hml]; rfl) [(.ref a1), (.int i3)] [] (lenOf pd_5 rfl) (Nat.le_of_eq rfl) eq5 (by decide) (by decide) rfl rfl (H d31_12) fun v6 T6 Lc6 X6 hQ6 => ?_
    obtain ⟨rfl, N6q, eq6⟩ := hQ6
    have N6 := Fr.app N5 N6q
    show Gs p e below _ T6 m 15 #[rv a1, iv p2, iv i0, iv i4, iv i3] [(.int (nar .char (((((nar .byte ((v3 >>> (i0 &&& 31)).toInt8.toInt32)) &&& i255) <<< (i0 &&& 31)) ||| (((nar .byte ((v3 >>> (i8 &&& 31)).toInt8.toInt32)) &&& i255) <<< (i8 &&& 31))).toUInt32.toUInt16.toUInt32.toInt32)))]
    rw [own_get hb3]
    show Gs p e below _ T6 m 15 #[rv a1, iv p2, iv i0, iv i4, iv i3] [(.int v3)]
    refine g_iloadN X6 hx (H d31_15) rfl ?_
    by_cases hc_22 : v3 = p2
    ·skip
     refine g_icmpNo X6 hx (H d31_16) (teq hc_22).2 ?_
     refine g_iload X6 hx (H d31_19) rfl ?_
     exact Go.ret (Q := Qm314 Z a1 p2 v0 v1 v2 v3 kb h0 n0) X6 (v := some (.int i3)) (fun h => by rw [hret] at h; cases h) hlk (fun fs hr => retOut X6 hx hret rfl (Or.inl ⟨rfl, Or.inl rfl, _, rfl⟩) (H d31_21) hr) eq6 ⟨_, rfl, ⟨fun q => absurd q (by decide), fun q => absurd hc_22 (q.2.2.2)⟩, N6, rfl⟩ (by decide) (by decide)
    ·skip
     refine g_icmpYes X6 hx 22 (H d31_16) (feq hc_22).2 (by decide) (by decide) ?_
     refine g_iinc X6 hx (H d31_22) rfl (l' := #[rv a1, iv p2, iv i0, iv i4, iv i4]) rfl ?_
     refine g_goto X6 hx 3 (H d31_25) (by decide) (by decide) ?_
     refine g_iload X6 hx (H d31_3) rfl ?_
     refine g_iloadN X6 hx (H d31_5) rfl ?_
     refine g_icmpYes X6 hx 28 (H d31_6) (flt (by decide : ¬ (i4 < i4))).2.1 (by decide) (by decide) ?_
     refine g_iconst X6 hx im1 (H d31_28) rfl ?_
     exact Go.ret (Q := Qm314 Z a1 p2 v0 v1 v2 v3 kb h0 n0) X6 (v := some (.int im1)) (fun h => by rw [hret] at h; cases h) hlk (fun fs hr => retOut X6 hx hret rfl (Or.inl ⟨rfl, Or.inl rfl, _, rfl⟩) (H d31_29) hr) eq6 ⟨_, rfl, ⟨fun _ => ⟨hc_19, hc_20, hc_21, hc_22⟩, fun _ => by decide⟩, N6, rfl⟩ (by decide) (by decide)
def Qm264 (Z : State) (a1 : Addr) (p2 : Int32) (v0 : Int32) (v1 : Int32) (v2 : Int32) (v3 : Int32) (kb : ClassId) (h0 : Heap) (n0 : Nat) (v : Option Value) (h : Heap) (L : List Loc) : Prop := ∃ (r0 : Int32), v = some (.int r0) ∧ ((r0 < 0) ↔ (¬ v0 = p2 ∧ ¬ v1 = p2 ∧ ¬ v2 = p2 ∧ ¬ v3 = p2)) ∧ Fr n0 L ∧ h = h0
theorem rm264 (l : Launch) (Z : State) (a0 : Array Value) (hw : Hw a0 Z) (a1 : Addr) (p2 : Int32) (v0 : Int32) (v1 : Int32) (v2 : Int32) (v3 : Int32) (kb : ClassId) (h0 : Heap) (n0 : Nat) (Z0 : n0 ≤ h0.size) (V_a1 : Arv Z h0 a1 kb .byte i8 [(.int (nar .byte ((v0 >>> (i0 &&& 31)).toInt8.toInt32))), (.int (nar .byte ((v0 >>> (i8 &&& 31)).toInt8.toInt32))), (.int (nar .byte ((v1 >>> (i0 &&& 31)).toInt8.toInt32))), (.int (nar .byte ((v1 >>> (i8 &&& 31)).toInt8.toInt32))), (.int (nar .byte ((v2 >>> (i0 &&& 31)).toInt8.toInt32))), (.int (nar .byte ((v2 >>> (i8 &&& 31)).toInt8.toInt32))), (.int (nar .byte ((v3 >>> (i0 &&& 31)).toInt8.toInt32))), (.int (nar .byte ((v3 >>> (i8 &&& 31)).toInt8.toInt32)))] (.int i0)) (hb0 : 0 ≤ v0.toInt ∧ v0.toInt ≤ 65535) (hb1 : 0 ≤ v1.toInt ∧ v1.toInt ≤ 65535) (hb2 : 0 ≤ v2.toInt ∧ v2.toInt ≤ 65535) (hb3 : 0 ≤ v3.toInt ∧ v3.toInt ≤ 65535) (hch : 0 ≤ p2.toInt ∧ p2.toInt ≤ 127) (S__assertionsDisabled : Sta Z h0 s1_ s2_ "Z" (.int i1)) (S_HI_BYTE_SHIFT : Sta Z h0 s1_ s3_ "I" (.int i0)) (S_LO_BYTE_SHIFT : Sta Z h0 s1_ s4_ "I" (.int i8)) (hfm : ∃ v : Value, v.isRef = true ∧ Sta Z h0 s6_ s7_ s8_ v) :
  Met l Z h0 yy24 jdk_52_method_47_code 4 (some .int) (rmk 3 0 0 43) #[(.ref a1), (.int p2), (.int i0), (.int i4)] (Qm264 Z a1 p2 v0 v1 v2 v3 kb h0 n0) := by
 refine enter (plainFor_of_name pn_26) (fun m => ef_26 m a1 p2 i0 i4) fun p e s m below meth c s₁ hx hby hml hown hnm hZ X0 e0 hret hlk => ?_
 have N0 := Fr.nil n0; have H := @hb c _ hby
 refine g_iloadN X0 hx (H d26_0) rfl ?_
 refine g_iloadN X0 hx (H d26_1) rfl ?_
 refine g_aloadN X0 hx (H d26_2) rfl rfl ?_
 refine g_static X0 hx hZ (rm274_o l Z a0 hw a1 h0 n0 Z0 (Arv.arn V_a1) hfm) hown (tw116 hw) (tw117 hw) (tw74 hw) (tw118 hw) (by decide) 0 (by decide) (by decide) (by rw [hml]; rfl) [(.int i0), (.int i4), (.ref a1)] [] (lenOf pd_14 rfl) (Nat.le_of_eq rfl) e0 (by decide) (by decide) rfl rfl (H d26_3) fun v3 T3 Lc3 X3 hQ3 => ?_
 obtain ⟨rfl, N3q, eq3⟩ := hQ3
 have N3 := Fr.app N0 N3q
 show Gs p e below _ T3 m 6 #[rv a1, iv p2, iv i0, iv i4] []
 refine g_aloadN X3 hx (H d26_6) rfl rfl ?_
 refine g_iloadN X3 hx (H d26_7) rfl ?_
 refine g_iloadN X3 hx (H d26_8) rfl ?_
 refine g_iloadN X3 hx (H d26_9) rfl ?_
 refine g_static X3 hx hZ (rm314 l Z a0 hw a1 p2 v0 v1 v2 v3 kb h0 n0 Z0 V_a1 hb0 hb1 hb2 hb3 hch S__assertionsDisabled S_HI_BYTE_SHIFT S_LO_BYTE_SHIFT) hown (tw130 hw) (tw131 hw) (tw74 hw) (tw132 hw) (by decide) 0 (by decide) (by decide) (by rw [hml]; rfl) [(.ref a1), (.int p2), (.int i0), (.int i4)] [] (lenOf pd_10 rfl) (Nat.le_of_eq rfl) eq3 (by decide) (by decide) rfl rfl (H d26_10) fun v4 T4 Lc4 X4 hQ4 => ?_
 obtain ⟨r0_4, rfl, hp4, N4q, eq4⟩ := hQ4
 have N4 := Fr.app N3 N4q
 show Gs p e below _ T4 m 13 #[rv a1, iv p2, iv i0, iv i4] [(.int r0_4)]
 exact Go.ret (Q := Qm264 Z a1 p2 v0 v1 v2 v3 kb h0 n0) X4 (v := some (.int r0_4)) (fun h => by rw [hret] at h; cases h) hlk (fun fs hr => retOut X4 hx hret rfl (Or.inl ⟨rfl, Or.inl rfl, _, rfl⟩) (H d26_13) hr) eq4 ⟨_, rfl, hp4, N4, rfl⟩ (by decide) (by decide)
def Qm254 (Z : State) (a1 : Addr) (p2 : Int32) (v0 : Int32) (v1 : Int32) (v2 : Int32) (v3 : Int32) (kb : ClassId) (h0 : Heap) (n0 : Nat) (v : Option Value) (h : Heap) (L : List Loc) : Prop := ∃ (r0 : Int32), v = some (.int r0) ∧ ((r0 < 0) ↔ (¬ v0 = p2 ∧ ¬ v1 = p2 ∧ ¬ v2 = p2 ∧ ¬ v3 = p2)) ∧ Fr n0 L ∧ h = h0
theorem rm254 (l : Launch) (Z : State) (a0 : Array Value) (hw : Hw a0 Z) (a1 : Addr) (p2 : Int32) (v0 : Int32) (v1 : Int32) (v2 : Int32) (v3 : Int32) (kb : ClassId) (h0 : Heap) (n0 : Nat) (Z0 : n0 ≤ h0.size) (V_a1 : Arv Z h0 a1 kb .byte i8 [(.int (nar .byte ((v0 >>> (i0 &&& 31)).toInt8.toInt32))), (.int (nar .byte ((v0 >>> (i8 &&& 31)).toInt8.toInt32))), (.int (nar .byte ((v1 >>> (i0 &&& 31)).toInt8.toInt32))), (.int (nar .byte ((v1 >>> (i8 &&& 31)).toInt8.toInt32))), (.int (nar .byte ((v2 >>> (i0 &&& 31)).toInt8.toInt32))), (.int (nar .byte ((v2 >>> (i8 &&& 31)).toInt8.toInt32))), (.int (nar .byte ((v3 >>> (i0 &&& 31)).toInt8.toInt32))), (.int (nar .byte ((v3 >>> (i8 &&& 31)).toInt8.toInt32)))] (.int i0)) (hb0 : 0 ≤ v0.toInt ∧ v0.toInt ≤ 65535) (hb1 : 0 ≤ v1.toInt ∧ v1.toInt ≤ 65535) (hb2 : 0 ≤ v2.toInt ∧ v2.toInt ≤ 65535) (hb3 : 0 ≤ v3.toInt ∧ v3.toInt ≤ 65535) (hch : 0 ≤ p2.toInt ∧ p2.toInt ≤ 127) (S__assertionsDisabled : Sta Z h0 s1_ s2_ "Z" (.int i1)) (S_HI_BYTE_SHIFT : Sta Z h0 s1_ s3_ "I" (.int i0)) (S_LO_BYTE_SHIFT : Sta Z h0 s1_ s4_ "I" (.int i8)) (hfm : ∃ v : Value, v.isRef = true ∧ Sta Z h0 s6_ s7_ s8_ v) :
  Met l Z h0 yy25 jdk_52_method_40_code 4 (some .int) (rmk 4 0 0 58) #[(.ref a1), (.int p2), (.int i0), (.int i4)] (Qm254 Z a1 p2 v0 v1 v2 v3 kb h0 n0) := by
 refine enter (plainFor_of_name pn_25) (fun m => ef_25 m a1 p2 i0 i4) fun p e s m below meth c s₁ hx hby hml hown hnm hZ X0 e0 hret hlk => ?_
 have N0 := Fr.nil n0; have H := @hb c _ hby
 refine g_iloadN X0 hx (H d25_0) rfl ?_
 refine g_iconst X0 hx i0 (H d25_1) rfl ?_
 refine g_static X0 hx hZ (rm13z_o l Z a0 hw  h0 n0 Z0 ) hown (tw110 hw) (tw66 hw) (tw67 hw) (tw68 hw) (by decide) 0 (by decide) (by decide) (by rw [hml]; rfl) [(.int i0), (.int i0)] [] (lenOf pd_9 rfl) (Nat.le_of_eq rfl) e0 (by decide) (by decide) rfl rfl (H d25_2) fun v3 T3 Lc3 X3 hQ3 => ?_
 obtain ⟨rfl, N3q, eq3⟩ := hQ3
 have N3 := Fr.app N0 N3q
 show Gs p e below _ T3 m 5 #[rv a1, iv p2, iv i0, iv i4] [(.int i0)]
 refine g_istoreN X3 hx (H d25_5) (l' := #[rv a1, iv p2, iv i0, iv i4]) rfl ?_
 refine g_iloadN X3 hx (H d25_6) rfl ?_
 refine g_aloadN X3 hx (H d25_7) rfl rfl ?_
 obtain ⟨clq4, Arq4, caq4, saq4, naq4, haq4, gaq4⟩ := id V_a1
 refine g_len X3 hx hZ eq3 Arq4 saq4 naq4 (H d25_8) ?_
 refine g_iconst X3 hx i1 (H d25_9) rfl ?_
 refine g_ishr X3 hx (H d25_10) ?_
 rw [show (i8 >>> (i1 &&& 31)) = i4 from by decide]
 show Gs p e below _ T3 m 11 #[rv a1, iv p2, iv i0, iv i4] [(.int i4), (.int i4)]
 refine g_static X3 hx hZ (rm144_o l Z a0 hw  h0 n0 Z0 ) hown (tw111 hw) (tw70 hw) (tw67 hw) (tw71 hw) (by decide) 0 (by decide) (by decide) (by rw [hml]; rfl) [(.int i4), (.int i4)] [] (lenOf pd_9 rfl) (Nat.le_of_eq rfl) eq3 (by decide) (by decide) rfl rfl (H d25_11) fun v5 T5 Lc5 X5 hQ5 => ?_
 obtain ⟨rfl, N5q, eq5⟩ := hQ5
 have N5 := Fr.app N3 N5q
 show Gs p e below _ T5 m 14 #[rv a1, iv p2, iv i0, iv i4] [(.int i4)]
 refine g_istoreN X5 hx (H d25_14) (l' := #[rv a1, iv p2, iv i0, iv i4]) rfl ?_
 refine g_iloadN X5 hx (H d25_15) rfl ?_
 refine g_iloadN X5 hx (H d25_16) rfl ?_
 refine g_icmpYes X5 hx 22 (H d25_17) (tlt (by decide : (i0 < i4))).1 (by decide) (by decide) ?_
 refine g_iloadN X5 hx (H d25_22) rfl ?_
 refine Go.st (fun _ kk => X5.ldcInt hx hown (mvT hZ (tw112 hw)) (g := (mkF m 23 #[rv a1, iv p2, iv i0, iv i4] [(.int p2)])) rfl (H d25_23) _ kk) ?_
 show Gs p e below _ T5 m 25 #[rv a1, iv p2, iv i0, iv i4] [(.int i65536), (.int p2)]
 refine g_icmpNo X5 hx (H d25_25) (tlt (own_ch2 hch)).2.1 ?_
 refine g_aloadN X5 hx (H d25_28) rfl rfl ?_
 refine g_iloadN X5 hx (H d25_29) rfl ?_
 refine g_iloadN X5 hx (H d25_30) rfl ?_
 refine g_iloadN X5 hx (H d25_31) rfl ?_
 refine g_static X5 hx hZ (rm264 l Z a0 hw a1 p2 v0 v1 v2 v3 kb h0 n0 Z0 V_a1 hb0 hb1 hb2 hb3 hch S__assertionsDisabled S_HI_BYTE_SHIFT S_LO_BYTE_SHIFT hfm) hown (tw113 hw) (tw114 hw) (tw74 hw) (tw115 hw) (by decide) 0 (by decide) (by decide) (by rw [hml]; rfl) [(.ref a1), (.int p2), (.int i0), (.int i4)] [] (lenOf pd_10 rfl) (Nat.le_of_eq rfl) eq5 (by decide) (by decide) rfl rfl (H d25_32) fun v6 T6 Lc6 X6 hQ6 => ?_
 obtain ⟨r0_6, rfl, hp6, N6q, eq6⟩ := hQ6
 have N6 := Fr.app N5 N6q
 show Gs p e below _ T6 m 35 #[rv a1, iv p2, iv i0, iv i4] [(.int r0_6)]
 exact Go.ret (Q := Qm254 Z a1 p2 v0 v1 v2 v3 kb h0 n0) X6 (v := some (.int r0_6)) (fun h => by rw [hret] at h; cases h) hlk (fun fs hr => retOut X6 hx hret rfl (Or.inl ⟨rfl, Or.inl rfl, _, rfl⟩) (H d25_35) hr) eq6 ⟨_, rfl, hp6, N6, rfl⟩ (by decide) (by decide)
def Qm90L_o (Z : State) (a1 : Addr) (wb : Addr) (wcs : Int32) (h0 : Heap) (n0 : Nat) (v : Option Value) (h : Heap) (L : List Loc) : Prop := v = some (.int i0) ∧ Fr n0 L ∧ h = h0
theorem rm90L_o (l : Launch) (Z : State) (a0 : Array Value) (hw : Hw a0 Z) (a1 : Addr) (wb : Addr) (wcs : Int32) (h0 : Heap) (n0 : Nat) (Z0 : n0 ≤ h0.size) (E_a1 : Exa Z h0 a1 s0_) (F_value_a1 : Fld Z h0 a1 s0_ "value" "[B" (.ref wb)) (F_coder_a1 : Fld Z h0 a1 s0_ "coder" "B" (.int i0)) (V_wb : Arn Z h0 wb .byte i0) (S_COMPACT_STRINGS : Sta Z h0 s0_ s5_ "Z" (.int wcs)) (hcs : ¬ (wcs = i0)) :
  Met l Z h0 yy26 jdk_42_method_54_code 1 (some .int) (rmk 1 0 0 13) #[(.ref a1)] (Qm90L_o Z a1 wb wcs h0 n0) := by
 refine enter (plainFor_of_name pn_9) (fun m => ef_9 m a1) fun p e s m below meth c s₁ hx hby hml hown hnm hZ X0 e0 hret hlk => ?_
 have N0 := Fr.nil n0; have H := @hb c _ hby
 refine g_aloadN X0 hx (H d9_0) rfl rfl ?_
 refine g_getF X0 hx hZ hown (tw26 hw) Via.refl e0 F_value_a1 (H d9_1) fun T2 X2 e2 => ?_
 obtain ⟨clq3, Arq3, saq3, naq3⟩ := id V_wb
 refine g_len X2 hx hZ e2 Arq3 saq3 naq3 (H d9_4) ?_
 refine g_aloadN X2 hx (H d9_5) rfl rfl ?_
 refine g_virtual X2 hx hZ (rm10_f l Z a0 hw a1 wcs i0 h0 n0 Z0 S_COMPACT_STRINGS hcs F_coder_a1) hown (tw53 hw) (tw54 hw) (tw56 hw) rfl (tw55 hw) (tw8 hw) (tw57 hw) (by decide) E_a1 1 (by decide) (by decide) (by rw [hml]; rfl) [] [(.int i0)] (lenOf pd_15 rfl) (Nat.le_of_eq rfl) e2 (by decide) (by decide) rfl rfl (H d9_6) fun v4 T4 Lc4 X4 hQ4 => ?_
 obtain ⟨rfl, N4q, eq4⟩ := hQ4
 have N4 := Fr.app N0 N4q
 show Gs p e below _ T4 m 9 #[rv a1] [(.int (nar .byte i0)), (.int i0)]
 rw [show (nar .byte i0) = i0 from by decide]
 show Gs p e below _ T4 m 9 #[rv a1] [(.int i0), (.int i0)]
 refine g_ishr X4 hx (H d9_9) ?_
 rw [show (i0 >>> (i0 &&& 31)) = i0 from by decide]
 show Gs p e below _ T4 m 10 #[rv a1] [(.int i0)]
 exact Go.ret (Q := Qm90L_o Z a1 wb wcs h0 n0) X4 (v := some (.int i0)) (fun h => by rw [hret] at h; cases h) hlk (fun fs hr => retOut X4 hx hret rfl (Or.inl ⟨rfl, Or.inl rfl, _, rfl⟩) (H d9_10) hr) eq4 ⟨rfl, N4, rfl⟩ (by decide) (by decide)
def Qm70L (Z : State) (a1 : Addr) (p2 : Int32) (wb : Addr) (kb : ClassId) (wcs : Int32) (h0 : Heap) (n0 : Nat) (v : Option Value) (h : Heap) (L : List Loc) : Prop := ∃ (r0 : Int32), v = some (.int r0) ∧ ((r0 < 0) ↔ (True)) ∧ Fr n0 L ∧ h = h0
theorem rm70L (l : Launch) (Z : State) (a0 : Array Value) (hw : Hw a0 Z) (a1 : Addr) (p2 : Int32) (wb : Addr) (kb : ClassId) (wcs : Int32) (h0 : Heap) (n0 : Nat) (Z0 : n0 ≤ h0.size) (E_a1 : Exa Z h0 a1 s0_) (F_value_a1 : Fld Z h0 a1 s0_ "value" "[B" (.ref wb)) (F_coder_a1 : Fld Z h0 a1 s0_ "coder" "B" (.int i0)) (V_wb : Arv Z h0 wb kb .byte i0 [] (.int i0)) (S_COMPACT_STRINGS : Sta Z h0 s0_ s5_ "Z" (.int wcs)) (hcs : ¬ (wcs = i0)) (hch : 0 ≤ p2.toInt ∧ p2.toInt ≤ 127) :
  Met l Z h0 yy27 jdk_42_method_80_code 3 (some .int) (rmk 2 0 0 28) #[(.ref a1), (.int p2), (.int i0)] (Qm70L Z a1 p2 wb kb wcs h0 n0) := by
 refine enter (plainFor_of_name pn_7) (fun m => ef_7 m a1 p2 i0) fun p e s m below meth c s₁ hx hby hml hown hnm hZ X0 e0 hret hlk => ?_
 have N0 := Fr.nil n0; have H := @hb c _ hby
 refine g_aloadN X0 hx (H d7_0) rfl rfl ?_
 refine g_virtual X0 hx hZ (rm8_ft l Z a0 hw a1 wcs i0 h0 n0 Z0 S_COMPACT_STRINGS hcs F_coder_a1 (by decide : (i0 = i0))) hown (tw42 hw) (tw43 hw) (tw45 hw) rfl (tw44 hw) (tw8 hw) (tw46 hw) (by decide) E_a1 0 (by decide) (by decide) (by rw [hml]; rfl) [] [] (lenOf pd_16 rfl) (Nat.le_of_eq rfl) e0 (by decide) (by decide) rfl rfl (H d7_1) fun v3 T3 Lc3 X3 hQ3 => ?_
 obtain ⟨rfl, N3q, eq3⟩ := hQ3
 have N3 := Fr.app N0 N3q
 show Gs p e below _ T3 m 4 #[rv a1, iv p2, iv i0] [(.int i1)]
 refine g_ifNo X3 hx (H d7_4) (feq (by decide : ¬ (i1 = i0))).1 ?_
 refine g_aloadN X3 hx (H d7_7) rfl rfl ?_
 refine g_getF X3 hx hZ hown (tw26 hw) Via.refl eq3 F_value_a1 (H d7_8) fun T4 X4 e4 => ?_
 refine g_iloadN X4 hx (H d7_11) rfl ?_
 refine g_iloadN X4 hx (H d7_12) rfl ?_
 refine g_aloadN X4 hx (H d7_13) rfl rfl ?_
 refine g_virtual X4 hx hZ (rm90L_o l Z a0 hw a1 wb wcs h0 n0 Z0 E_a1 F_value_a1 F_coder_a1 (Arv.arn V_wb) S_COMPACT_STRINGS hcs) hown (tw48 hw) (tw49 hw) (tw51 hw) rfl (tw50 hw) (tw8 hw) (tw52 hw) (by decide) E_a1 3 (by decide) (by decide) (by rw [hml]; rfl) [] [(.int i0), (.int p2), (.ref wb)] (lenOf pd_17 rfl) (Nat.le_of_eq rfl) e4 (by decide) (by decide) rfl rfl (H d7_14) fun v5 T5 Lc5 X5 hQ5 => ?_
 obtain ⟨rfl, N5q, eq5⟩ := hQ5
 have N5 := Fr.app N3 N5q
 show Gs p e below _ T5 m 17 #[rv a1, iv p2, iv i0] [(.int i0), (.int i0), (.int p2), (.ref wb)]
 refine g_static X5 hx hZ (rm110 l Z a0 hw wb p2 kb h0 n0 Z0 V_wb hch) hown (tw58 hw) (tw59 hw) (tw60 hw) (tw61 hw) (by decide) 0 (by decide) (by decide) (by rw [hml]; rfl) [(.ref wb), (.int p2), (.int i0), (.int i0)] [] (lenOf pd_10 rfl) (Nat.le_of_eq rfl) eq5 (by decide) (by decide) rfl rfl (H d7_17) fun v6 T6 Lc6 X6 hQ6 => ?_
 obtain ⟨r0_6, rfl, hp6, N6q, eq6⟩ := hQ6
 have N6 := Fr.app N5 N6q
 show Gs p e below _ T6 m 20 #[rv a1, iv p2, iv i0] [(.int r0_6)]
 refine g_goto X6 hx 36 (H d7_20) (by decide) (by decide) ?_
 exact Go.ret (Q := Qm70L Z a1 p2 wb kb wcs h0 n0) X6 (v := some (.int r0_6)) (fun h => by rw [hret] at h; cases h) hlk (fun fs hr => retOut X6 hx hret rfl (Or.inl ⟨rfl, Or.inl rfl, _, rfl⟩) (H d7_36) hr) eq6 ⟨_, rfl, hp6, N6, rfl⟩ (by decide) (by decide)
def Qm60L (Z : State) (a1 : Addr) (p2 : Int32) (wb : Addr) (kb : ClassId) (wcs : Int32) (h0 : Heap) (n0 : Nat) (v : Option Value) (h : Heap) (L : List Loc) : Prop := ∃ (r0 : Int32), v = some (.int r0) ∧ ((r0 < 0) ↔ (True)) ∧ Fr n0 L ∧ h = h0
theorem rm60L (l : Launch) (Z : State) (a0 : Array Value) (hw : Hw a0 Z) (a1 : Addr) (p2 : Int32) (wb : Addr) (kb : ClassId) (wcs : Int32) (h0 : Heap) (n0 : Nat) (Z0 : n0 ≤ h0.size) (E_a1 : Exa Z h0 a1 s0_) (F_value_a1 : Fld Z h0 a1 s0_ "value" "[B" (.ref wb)) (F_coder_a1 : Fld Z h0 a1 s0_ "coder" "B" (.int i0)) (V_wb : Arv Z h0 wb kb .byte i0 [] (.int i0)) (S_COMPACT_STRINGS : Sta Z h0 s0_ s5_ "Z" (.int wcs)) (hcs : ¬ (wcs = i0)) (hch : 0 ≤ p2.toInt ∧ p2.toInt ≤ 127) :
  Met l Z h0 yy28 jdk_42_method_79_code 2 (some .int) (rmk 3 0 0 42) #[(.ref a1), (.int p2)] (Qm60L Z a1 p2 wb kb wcs h0 n0) := by
 refine enter (plainFor_of_name pn_6) (fun m => ef_6 m a1 p2) fun p e s m below meth c s₁ hx hby hml hown hnm hZ X0 e0 hret hlk => ?_
 have N0 := Fr.nil n0; have H := @hb c _ hby
 refine g_aloadN X0 hx (H d6_0) rfl rfl ?_
 refine g_iloadN X0 hx (H d6_1) rfl ?_
 refine g_iconst X0 hx i0 (H d6_2) rfl ?_
 refine g_virtual X0 hx hZ (rm70L l Z a0 hw a1 p2 wb kb wcs h0 n0 Z0 E_a1 F_value_a1 F_coder_a1 V_wb S_COMPACT_STRINGS hcs hch) hown (tw37 hw) (tw38 hw) (tw40 hw) rfl (tw39 hw) (tw8 hw) (tw41 hw) (by decide) E_a1 0 (by decide) (by decide) (by rw [hml]; rfl) [(.int p2), (.int i0)] [] (lenOf pd_9 rfl) (Nat.le_of_eq rfl) e0 (by decide) (by decide) rfl rfl (H d6_3) fun v3 T3 Lc3 X3 hQ3 => ?_
 obtain ⟨r0_3, rfl, hp3, N3q, eq3⟩ := hQ3
 have N3 := Fr.app N0 N3q
 show Gs p e below _ T3 m 6 #[rv a1, iv p2] [(.int r0_3)]
 exact Go.ret (Q := Qm60L Z a1 p2 wb kb wcs h0 n0) X3 (v := some (.int r0_3)) (fun h => by rw [hret] at h; cases h) hlk (fun fs hr => retOut X3 hx hret rfl (Or.inl ⟨rfl, Or.inl rfl, _, rfl⟩) (H d6_6) hr) eq3 ⟨_, rfl, hp3, N3, rfl⟩ (by decide) (by decide)
def Qm50L (Z : State) (a1 : Addr) (wb : Addr) (kb : ClassId) (wcs : Int32) (h0 : Heap) (n0 : Nat) (v : Option Value) (h : Heap) (L : List Loc) : Prop := ∃ (r0 : Int32), v = some (.int r0) ∧ ((r0 = i0 ∧ (True) ∧ (True)) ∨ (r0 = i1 ∧ ¬ ((True) ∧ (True)))) ∧ Fr n0 L ∧ h = h0
theorem rm50L (l : Launch) (Z : State) (a0 : Array Value) (hw : Hw a0 Z) (a1 : Addr) (wb : Addr) (kb : ClassId) (wcs : Int32) (h0 : Heap) (n0 : Nat) (Z0 : n0 ≤ h0.size) (E_a1 : Exa Z h0 a1 s0_) (F_value_a1 : Fld Z h0 a1 s0_ "value" "[B" (.ref wb)) (F_coder_a1 : Fld Z h0 a1 s0_ "coder" "B" (.int i0)) (V_wb : Arv Z h0 wb kb .byte i0 [] (.int i0)) (S_COMPACT_STRINGS : Sta Z h0 s0_ s5_ "Z" (.int wcs)) (hcs : ¬ (wcs = i0)) :
  Met l Z h0 yy29 prog_77_method_6_code 1 (some .boolean) (rmk 9 0 0 210) #[(.ref a1)] (Qm50L Z a1 wb kb wcs h0 n0) := by
 refine enter (plainFor_of_name pn_5) (fun m => ef_5 m a1) fun p e s m below meth c s₁ hx hby hml hown hnm hZ X0 e0 hret hlk => ?_
 have N0 := Fr.nil n0; have H := @hb c _ hby
 refine g_aloadN X0 hx (H d5_0) rfl rfl ?_
 refine g_bipush X0 hx i42 (H d5_1) rfl ?_
 refine g_virtual X0 hx hZ (rm60L l Z a0 hw a1 i42 wb kb wcs h0 n0 Z0 E_a1 F_value_a1 F_coder_a1 V_wb S_COMPACT_STRINGS hcs (by decide)) hown (tw32 hw) (tw33 hw) (tw35 hw) rfl (tw34 hw) (tw8 hw) (tw36 hw) (by decide) E_a1 0 (by decide) (by decide) (by rw [hml]; rfl) [(.int i42)] [] (lenOf pd_0 rfl) (Nat.le_of_eq rfl) e0 (by decide) (by decide) rfl rfl (H d5_3) fun v2 T2 Lc2 X2 hQ2 => ?_
 obtain ⟨r0_2, rfl, hp2, N2q, eq2⟩ := hQ2
 have N2 := Fr.app N0 N2q
 show Gs p e below _ T2 m 6 #[rv a1] [(.int r0_2)]
 by_cases hc_23 : r0_2 < i0
 ·skip
  refine g_ifNo X2 hx (H d5_6) (tlt hc_23).2.1 ?_
  refine g_aloadN X2 hx (H d5_9) rfl rfl ?_
  refine g_bipush X2 hx i63 (H d5_10) rfl ?_
  refine g_virtual X2 hx hZ (rm60L l Z a0 hw a1 i63 wb kb wcs h0 n0 Z0 E_a1 F_value_a1 F_coder_a1 V_wb S_COMPACT_STRINGS hcs (by decide)) hown (tw32 hw) (tw33 hw) (tw35 hw) rfl (tw34 hw) (tw8 hw) (tw36 hw) (by decide) E_a1 0 (by decide) (by decide) (by rw [hml]; rfl) [(.int i63)] [] (lenOf pd_0 rfl) (Nat.le_of_eq rfl) eq2 (by decide) (by decide) rfl rfl (H d5_12) fun v3 T3 Lc3 X3 hQ3 => ?_
  obtain ⟨r0_3, rfl, hp3, N3q, eq3⟩ := hQ3
  have N3 := Fr.app N2 N3q
  show Gs p e below _ T3 m 15 #[rv a1] [(.int r0_3)]
  by_cases hc_24 : r0_3 < i0
  ·skip
   refine g_ifYes X3 hx 22 (H d5_15) (tlt hc_24).1 (by decide) (by decide) ?_
   refine g_iconst X3 hx i0 (H d5_22) rfl ?_
   exact Go.ret (Q := Qm50L Z a1 wb kb wcs h0 n0) X3 (v := some (.int i0)) (fun h => by rw [hret] at h; cases h) hlk (fun fs hr => retN X3 hx (t := .boolean) hret (by simp) (H d5_23) hr) eq3 ⟨_, rfl, (Or.inl ⟨rfl, hp2.mp hc_23, hp3.mp hc_24⟩), N3, rfl⟩ (by decide) (by decide)
  ·skip
   refine g_ifNo X3 hx (H d5_15) (flt hc_24).1 ?_
   refine g_iconst X3 hx i1 (H d5_18) rfl ?_
   refine g_goto X3 hx 23 (H d5_19) (by decide) (by decide) ?_
   exact Go.ret (Q := Qm50L Z a1 wb kb wcs h0 n0) X3 (v := some (.int i1)) (fun h => by rw [hret] at h; cases h) hlk (fun fs hr => retN X3 hx (t := .boolean) hret (by simp) (H d5_23) hr) eq3 ⟨_, rfl, (Or.inr ⟨rfl, fun q => hc_24 (hp3.mpr q.2)⟩), N3, rfl⟩ (by decide) (by decide)
 ·skip
  refine g_ifYes X2 hx 18 (H d5_6) (flt hc_23).2.1 (by decide) (by decide) ?_
  refine g_iconst X2 hx i1 (H d5_18) rfl ?_
  refine g_goto X2 hx 23 (H d5_19) (by decide) (by decide) ?_
  exact Go.ret (Q := Qm50L Z a1 wb kb wcs h0 n0) X2 (v := some (.int i1)) (fun h => by rw [hret] at h; cases h) hlk (fun fs hr => retN X2 hx (t := .boolean) hret (by simp) (H d5_23) hr) eq2 ⟨_, rfl, (Or.inr ⟨rfl, fun q => hc_23 (hp2.mpr q.1)⟩), N2, rfl⟩ (by decide) (by decide)
def Qm91L_o (Z : State) (a1 : Addr) (wb : Addr) (wcs : Int32) (h0 : Heap) (n0 : Nat) (v : Option Value) (h : Heap) (L : List Loc) : Prop := v = some (.int i1) ∧ Fr n0 L ∧ h = h0
theorem rm91L_o (l : Launch) (Z : State) (a0 : Array Value) (hw : Hw a0 Z) (a1 : Addr) (wb : Addr) (wcs : Int32) (h0 : Heap) (n0 : Nat) (Z0 : n0 ≤ h0.size) (E_a1 : Exa Z h0 a1 s0_) (F_value_a1 : Fld Z h0 a1 s0_ "value" "[B" (.ref wb)) (F_coder_a1 : Fld Z h0 a1 s0_ "coder" "B" (.int i0)) (V_wb : Arn Z h0 wb .byte i1) (S_COMPACT_STRINGS : Sta Z h0 s0_ s5_ "Z" (.int wcs)) (hcs : ¬ (wcs = i0)) :
  Met l Z h0 yy26 jdk_42_method_54_code 1 (some .int) (rmk 1 0 0 13) #[(.ref a1)] (Qm91L_o Z a1 wb wcs h0 n0) := by
 refine enter (plainFor_of_name pn_9) (fun m => ef_9 m a1) fun p e s m below meth c s₁ hx hby hml hown hnm hZ X0 e0 hret hlk => ?_
 have N0 := Fr.nil n0; have H := @hb c _ hby
 refine g_aloadN X0 hx (H d9_0) rfl rfl ?_
 refine g_getF X0 hx hZ hown (tw26 hw) Via.refl e0 F_value_a1 (H d9_1) fun T2 X2 e2 => ?_
 obtain ⟨clq3, Arq3, saq3, naq3⟩ := id V_wb
 refine g_len X2 hx hZ e2 Arq3 saq3 naq3 (H d9_4) ?_
 refine g_aloadN X2 hx (H d9_5) rfl rfl ?_
 refine g_virtual X2 hx hZ (rm10_f l Z a0 hw a1 wcs i0 h0 n0 Z0 S_COMPACT_STRINGS hcs F_coder_a1) hown (tw53 hw) (tw54 hw) (tw56 hw) rfl (tw55 hw) (tw8 hw) (tw57 hw) (by decide) E_a1 1 (by decide) (by decide) (by rw [hml]; rfl) [] [(.int i1)] (lenOf pd_15 rfl) (Nat.le_of_eq rfl) e2 (by decide) (by decide) rfl rfl (H d9_6) fun v4 T4 Lc4 X4 hQ4 => ?_
 obtain ⟨rfl, N4q, eq4⟩ := hQ4
 have N4 := Fr.app N0 N4q
 show Gs p e below _ T4 m 9 #[rv a1] [(.int (nar .byte i0)), (.int i1)]
 rw [show (nar .byte i0) = i0 from by decide]
 show Gs p e below _ T4 m 9 #[rv a1] [(.int i0), (.int i1)]
 refine g_ishr X4 hx (H d9_9) ?_
 rw [show (i1 >>> (i0 &&& 31)) = i1 from by decide]
 show Gs p e below _ T4 m 10 #[rv a1] [(.int i1)]
 exact Go.ret (Q := Qm91L_o Z a1 wb wcs h0 n0) X4 (v := some (.int i1)) (fun h => by rw [hret] at h; cases h) hlk (fun fs hr => retOut X4 hx hret rfl (Or.inl ⟨rfl, Or.inl rfl, _, rfl⟩) (H d9_10) hr) eq4 ⟨rfl, N4, rfl⟩ (by decide) (by decide)
def Qm71L (Z : State) (a1 : Addr) (p2 : Int32) (wb : Addr) (v0 : Int32) (kb : ClassId) (wcs : Int32) (h0 : Heap) (n0 : Nat) (v : Option Value) (h : Heap) (L : List Loc) : Prop := ∃ (r0 : Int32), v = some (.int r0) ∧ ((r0 < 0) ↔ (¬ v0 = p2)) ∧ Fr n0 L ∧ h = h0
theorem rm71L (l : Launch) (Z : State) (a0 : Array Value) (hw : Hw a0 Z) (a1 : Addr) (p2 : Int32) (wb : Addr) (v0 : Int32) (kb : ClassId) (wcs : Int32) (h0 : Heap) (n0 : Nat) (Z0 : n0 ≤ h0.size) (E_a1 : Exa Z h0 a1 s0_) (F_value_a1 : Fld Z h0 a1 s0_ "value" "[B" (.ref wb)) (F_coder_a1 : Fld Z h0 a1 s0_ "coder" "B" (.int i0)) (V_wb : Arv Z h0 wb kb .byte i1 [(.int (nar .byte (v0.toInt8.toInt32)))] (.int i0)) (hb0 : 0 ≤ v0.toInt ∧ v0.toInt ≤ 65535) (S_COMPACT_STRINGS : Sta Z h0 s0_ s5_ "Z" (.int wcs)) (hcs : ¬ (wcs = i0)) (hv0 : ¬ (i255 < v0)) (hch : 0 ≤ p2.toInt ∧ p2.toInt ≤ 127) :
  Met l Z h0 yy27 jdk_42_method_80_code 3 (some .int) (rmk 2 0 0 32) #[(.ref a1), (.int p2), (.int i0)] (Qm71L Z a1 p2 wb v0 kb wcs h0 n0) := by
 refine enter (plainFor_of_name pn_7) (fun m => ef_7 m a1 p2 i0) fun p e s m below meth c s₁ hx hby hml hown hnm hZ X0 e0 hret hlk => ?_
 have N0 := Fr.nil n0; have H := @hb c _ hby
 refine g_aloadN X0 hx (H d7_0) rfl rfl ?_
 refine g_virtual X0 hx hZ (rm8_ft l Z a0 hw a1 wcs i0 h0 n0 Z0 S_COMPACT_STRINGS hcs F_coder_a1 (by decide : (i0 = i0))) hown (tw42 hw) (tw43 hw) (tw45 hw) rfl (tw44 hw) (tw8 hw) (tw46 hw) (by decide) E_a1 0 (by decide) (by decide) (by rw [hml]; rfl) [] [] (lenOf pd_16 rfl) (Nat.le_of_eq rfl) e0 (by decide) (by decide) rfl rfl (H d7_1) fun v3 T3 Lc3 X3 hQ3 => ?_
 obtain ⟨rfl, N3q, eq3⟩ := hQ3
 have N3 := Fr.app N0 N3q
 show Gs p e below _ T3 m 4 #[rv a1, iv p2, iv i0] [(.int i1)]
 refine g_ifNo X3 hx (H d7_4) (feq (by decide : ¬ (i1 = i0))).1 ?_
 refine g_aloadN X3 hx (H d7_7) rfl rfl ?_
 refine g_getF X3 hx hZ hown (tw26 hw) Via.refl eq3 F_value_a1 (H d7_8) fun T4 X4 e4 => ?_
 refine g_iloadN X4 hx (H d7_11) rfl ?_
 refine g_iloadN X4 hx (H d7_12) rfl ?_
 refine g_aloadN X4 hx (H d7_13) rfl rfl ?_
 refine g_virtual X4 hx hZ (rm91L_o l Z a0 hw a1 wb wcs h0 n0 Z0 E_a1 F_value_a1 F_coder_a1 (Arv.arn V_wb) S_COMPACT_STRINGS hcs) hown (tw48 hw) (tw49 hw) (tw51 hw) rfl (tw50 hw) (tw8 hw) (tw52 hw) (by decide) E_a1 3 (by decide) (by decide) (by rw [hml]; rfl) [] [(.int i0), (.int p2), (.ref wb)] (lenOf pd_17 rfl) (Nat.le_of_eq rfl) e4 (by decide) (by decide) rfl rfl (H d7_14) fun v5 T5 Lc5 X5 hQ5 => ?_
 obtain ⟨rfl, N5q, eq5⟩ := hQ5
 have N5 := Fr.app N3 N5q
 show Gs p e below _ T5 m 17 #[rv a1, iv p2, iv i0] [(.int i1), (.int i0), (.int p2), (.ref wb)]
 refine g_static X5 hx hZ (rm111 l Z a0 hw wb p2 v0 kb h0 n0 Z0 V_wb hb0 hv0 hch) hown (tw58 hw) (tw59 hw) (tw60 hw) (tw61 hw) (by decide) 0 (by decide) (by decide) (by rw [hml]; rfl) [(.ref wb), (.int p2), (.int i0), (.int i1)] [] (lenOf pd_10 rfl) (Nat.le_of_eq rfl) eq5 (by decide) (by decide) rfl rfl (H d7_17) fun v6 T6 Lc6 X6 hQ6 => ?_
 obtain ⟨r0_6, rfl, hp6, N6q, eq6⟩ := hQ6
 have N6 := Fr.app N5 N6q
 show Gs p e below _ T6 m 20 #[rv a1, iv p2, iv i0] [(.int r0_6)]
 refine g_goto X6 hx 36 (H d7_20) (by decide) (by decide) ?_
 exact Go.ret (Q := Qm71L Z a1 p2 wb v0 kb wcs h0 n0) X6 (v := some (.int r0_6)) (fun h => by rw [hret] at h; cases h) hlk (fun fs hr => retOut X6 hx hret rfl (Or.inl ⟨rfl, Or.inl rfl, _, rfl⟩) (H d7_36) hr) eq6 ⟨_, rfl, hp6, N6, rfl⟩ (by decide) (by decide)
def Qm61L (Z : State) (a1 : Addr) (p2 : Int32) (wb : Addr) (v0 : Int32) (kb : ClassId) (wcs : Int32) (h0 : Heap) (n0 : Nat) (v : Option Value) (h : Heap) (L : List Loc) : Prop := ∃ (r0 : Int32), v = some (.int r0) ∧ ((r0 < 0) ↔ (¬ v0 = p2)) ∧ Fr n0 L ∧ h = h0
theorem rm61L (l : Launch) (Z : State) (a0 : Array Value) (hw : Hw a0 Z) (a1 : Addr) (p2 : Int32) (wb : Addr) (v0 : Int32) (kb : ClassId) (wcs : Int32) (h0 : Heap) (n0 : Nat) (Z0 : n0 ≤ h0.size) (E_a1 : Exa Z h0 a1 s0_) (F_value_a1 : Fld Z h0 a1 s0_ "value" "[B" (.ref wb)) (F_coder_a1 : Fld Z h0 a1 s0_ "coder" "B" (.int i0)) (V_wb : Arv Z h0 wb kb .byte i1 [(.int (nar .byte (v0.toInt8.toInt32)))] (.int i0)) (hb0 : 0 ≤ v0.toInt ∧ v0.toInt ≤ 65535) (S_COMPACT_STRINGS : Sta Z h0 s0_ s5_ "Z" (.int wcs)) (hcs : ¬ (wcs = i0)) (hv0 : ¬ (i255 < v0)) (hch : 0 ≤ p2.toInt ∧ p2.toInt ≤ 127) :
  Met l Z h0 yy28 jdk_42_method_79_code 2 (some .int) (rmk 3 0 0 46) #[(.ref a1), (.int p2)] (Qm61L Z a1 p2 wb v0 kb wcs h0 n0) := by
 refine enter (plainFor_of_name pn_6) (fun m => ef_6 m a1 p2) fun p e s m below meth c s₁ hx hby hml hown hnm hZ X0 e0 hret hlk => ?_
 have N0 := Fr.nil n0; have H := @hb c _ hby
 refine g_aloadN X0 hx (H d6_0) rfl rfl ?_
 refine g_iloadN X0 hx (H d6_1) rfl ?_
 refine g_iconst X0 hx i0 (H d6_2) rfl ?_
 refine g_virtual X0 hx hZ (rm71L l Z a0 hw a1 p2 wb v0 kb wcs h0 n0 Z0 E_a1 F_value_a1 F_coder_a1 V_wb hb0 S_COMPACT_STRINGS hcs hv0 hch) hown (tw37 hw) (tw38 hw) (tw40 hw) rfl (tw39 hw) (tw8 hw) (tw41 hw) (by decide) E_a1 0 (by decide) (by decide) (by rw [hml]; rfl) [(.int p2), (.int i0)] [] (lenOf pd_9 rfl) (Nat.le_of_eq rfl) e0 (by decide) (by decide) rfl rfl (H d6_3) fun v3 T3 Lc3 X3 hQ3 => ?_
 obtain ⟨r0_3, rfl, hp3, N3q, eq3⟩ := hQ3
 have N3 := Fr.app N0 N3q
 show Gs p e below _ T3 m 6 #[rv a1, iv p2] [(.int r0_3)]
 exact Go.ret (Q := Qm61L Z a1 p2 wb v0 kb wcs h0 n0) X3 (v := some (.int r0_3)) (fun h => by rw [hret] at h; cases h) hlk (fun fs hr => retOut X3 hx hret rfl (Or.inl ⟨rfl, Or.inl rfl, _, rfl⟩) (H d6_6) hr) eq3 ⟨_, rfl, hp3, N3, rfl⟩ (by decide) (by decide)
def Qm51L (Z : State) (a1 : Addr) (wb : Addr) (v0 : Int32) (kb : ClassId) (wcs : Int32) (h0 : Heap) (n0 : Nat) (v : Option Value) (h : Heap) (L : List Loc) : Prop := ∃ (r0 : Int32), v = some (.int r0) ∧ ((r0 = i0 ∧ (¬ v0 = i42) ∧ (¬ v0 = i63)) ∨ (r0 = i1 ∧ ¬ ((¬ v0 = i42) ∧ (¬ v0 = i63)))) ∧ Fr n0 L ∧ h = h0
theorem rm51L (l : Launch) (Z : State) (a0 : Array Value) (hw : Hw a0 Z) (a1 : Addr) (wb : Addr) (v0 : Int32) (kb : ClassId) (wcs : Int32) (h0 : Heap) (n0 : Nat) (Z0 : n0 ≤ h0.size) (E_a1 : Exa Z h0 a1 s0_) (F_value_a1 : Fld Z h0 a1 s0_ "value" "[B" (.ref wb)) (F_coder_a1 : Fld Z h0 a1 s0_ "coder" "B" (.int i0)) (V_wb : Arv Z h0 wb kb .byte i1 [(.int (nar .byte (v0.toInt8.toInt32)))] (.int i0)) (hb0 : 0 ≤ v0.toInt ∧ v0.toInt ≤ 65535) (S_COMPACT_STRINGS : Sta Z h0 s0_ s5_ "Z" (.int wcs)) (hcs : ¬ (wcs = i0)) (hv0 : ¬ (i255 < v0)) :
  Met l Z h0 yy29 prog_77_method_6_code 1 (some .boolean) (rmk 9 0 0 210) #[(.ref a1)] (Qm51L Z a1 wb v0 kb wcs h0 n0) := by
 refine enter (plainFor_of_name pn_5) (fun m => ef_5 m a1) fun p e s m below meth c s₁ hx hby hml hown hnm hZ X0 e0 hret hlk => ?_
 have N0 := Fr.nil n0; have H := @hb c _ hby
 refine g_aloadN X0 hx (H d5_0) rfl rfl ?_
 refine g_bipush X0 hx i42 (H d5_1) rfl ?_
 refine g_virtual X0 hx hZ (rm61L l Z a0 hw a1 i42 wb v0 kb wcs h0 n0 Z0 E_a1 F_value_a1 F_coder_a1 V_wb hb0 S_COMPACT_STRINGS hcs hv0 (by decide)) hown (tw32 hw) (tw33 hw) (tw35 hw) rfl (tw34 hw) (tw8 hw) (tw36 hw) (by decide) E_a1 0 (by decide) (by decide) (by rw [hml]; rfl) [(.int i42)] [] (lenOf pd_0 rfl) (Nat.le_of_eq rfl) e0 (by decide) (by decide) rfl rfl (H d5_3) fun v2 T2 Lc2 X2 hQ2 => ?_
 obtain ⟨r0_2, rfl, hp2, N2q, eq2⟩ := hQ2
 have N2 := Fr.app N0 N2q
 show Gs p e below _ T2 m 6 #[rv a1] [(.int r0_2)]
 by_cases hc_25 : r0_2 < i0
 ·skip
  refine g_ifNo X2 hx (H d5_6) (tlt hc_25).2.1 ?_
  refine g_aloadN X2 hx (H d5_9) rfl rfl ?_
  refine g_bipush X2 hx i63 (H d5_10) rfl ?_
  refine g_virtual X2 hx hZ (rm61L l Z a0 hw a1 i63 wb v0 kb wcs h0 n0 Z0 E_a1 F_value_a1 F_coder_a1 V_wb hb0 S_COMPACT_STRINGS hcs hv0 (by decide)) hown (tw32 hw) (tw33 hw) (tw35 hw) rfl (tw34 hw) (tw8 hw) (tw36 hw) (by decide) E_a1 0 (by decide) (by decide) (by rw [hml]; rfl) [(.int i63)] [] (lenOf pd_0 rfl) (Nat.le_of_eq rfl) eq2 (by decide) (by decide) rfl rfl (H d5_12) fun v3 T3 Lc3 X3 hQ3 => ?_
  obtain ⟨r0_3, rfl, hp3, N3q, eq3⟩ := hQ3
  have N3 := Fr.app N2 N3q
  show Gs p e below _ T3 m 15 #[rv a1] [(.int r0_3)]
  by_cases hc_26 : r0_3 < i0
  ·skip
   refine g_ifYes X3 hx 22 (H d5_15) (tlt hc_26).1 (by decide) (by decide) ?_
   refine g_iconst X3 hx i0 (H d5_22) rfl ?_
   exact Go.ret (Q := Qm51L Z a1 wb v0 kb wcs h0 n0) X3 (v := some (.int i0)) (fun h => by rw [hret] at h; cases h) hlk (fun fs hr => retN X3 hx (t := .boolean) hret (by simp) (H d5_23) hr) eq3 ⟨_, rfl, (Or.inl ⟨rfl, hp2.mp hc_25, hp3.mp hc_26⟩), N3, rfl⟩ (by decide) (by decide)
  ·skip
   refine g_ifNo X3 hx (H d5_15) (flt hc_26).1 ?_
   refine g_iconst X3 hx i1 (H d5_18) rfl ?_
   refine g_goto X3 hx 23 (H d5_19) (by decide) (by decide) ?_
   exact Go.ret (Q := Qm51L Z a1 wb v0 kb wcs h0 n0) X3 (v := some (.int i1)) (fun h => by rw [hret] at h; cases h) hlk (fun fs hr => retN X3 hx (t := .boolean) hret (by simp) (H d5_23) hr) eq3 ⟨_, rfl, (Or.inr ⟨rfl, fun q => hc_26 (hp3.mpr q.2)⟩), N3, rfl⟩ (by decide) (by decide)
 ·skip
  refine g_ifYes X2 hx 18 (H d5_6) (flt hc_25).2.1 (by decide) (by decide) ?_
  refine g_iconst X2 hx i1 (H d5_18) rfl ?_
  refine g_goto X2 hx 23 (H d5_19) (by decide) (by decide) ?_
  exact Go.ret (Q := Qm51L Z a1 wb v0 kb wcs h0 n0) X2 (v := some (.int i1)) (fun h => by rw [hret] at h; cases h) hlk (fun fs hr => retN X2 hx (t := .boolean) hret (by simp) (H d5_23) hr) eq2 ⟨_, rfl, (Or.inr ⟨rfl, fun q => hc_25 (hp2.mpr q.1)⟩), N2, rfl⟩ (by decide) (by decide)
def Qm91U_o (Z : State) (a1 : Addr) (wb : Addr) (wcs : Int32) (h0 : Heap) (n0 : Nat) (v : Option Value) (h : Heap) (L : List Loc) : Prop := v = some (.int i1) ∧ Fr n0 L ∧ h = h0
theorem rm91U_o (l : Launch) (Z : State) (a0 : Array Value) (hw : Hw a0 Z) (a1 : Addr) (wb : Addr) (wcs : Int32) (h0 : Heap) (n0 : Nat) (Z0 : n0 ≤ h0.size) (E_a1 : Exa Z h0 a1 s0_) (F_value_a1 : Fld Z h0 a1 s0_ "value" "[B" (.ref wb)) (F_coder_a1 : Fld Z h0 a1 s0_ "coder" "B" (.int i1)) (V_wb : Arn Z h0 wb .byte i2) (S_COMPACT_STRINGS : Sta Z h0 s0_ s5_ "Z" (.int wcs)) (hcs : ¬ (wcs = i0)) :
  Met l Z h0 yy26 jdk_42_method_54_code 1 (some .int) (rmk 1 0 0 13) #[(.ref a1)] (Qm91U_o Z a1 wb wcs h0 n0) := by
 refine enter (plainFor_of_name pn_9) (fun m => ef_9 m a1) fun p e s m below meth c s₁ hx hby hml hown hnm hZ X0 e0 hret hlk => ?_
 have N0 := Fr.nil n0; have H := @hb c _ hby
 refine g_aloadN X0 hx (H d9_0) rfl rfl ?_
 refine g_getF X0 hx hZ hown (tw26 hw) Via.refl e0 F_value_a1 (H d9_1) fun T2 X2 e2 => ?_
 obtain ⟨clq3, Arq3, saq3, naq3⟩ := id V_wb
 refine g_len X2 hx hZ e2 Arq3 saq3 naq3 (H d9_4) ?_
 refine g_aloadN X2 hx (H d9_5) rfl rfl ?_
 refine g_virtual X2 hx hZ (rm10_f l Z a0 hw a1 wcs i1 h0 n0 Z0 S_COMPACT_STRINGS hcs F_coder_a1) hown (tw53 hw) (tw54 hw) (tw56 hw) rfl (tw55 hw) (tw8 hw) (tw57 hw) (by decide) E_a1 1 (by decide) (by decide) (by rw [hml]; rfl) [] [(.int i2)] (lenOf pd_15 rfl) (Nat.le_of_eq rfl) e2 (by decide) (by decide) rfl rfl (H d9_6) fun v4 T4 Lc4 X4 hQ4 => ?_
 obtain ⟨rfl, N4q, eq4⟩ := hQ4
 have N4 := Fr.app N0 N4q
 show Gs p e below _ T4 m 9 #[rv a1] [(.int (nar .byte i1)), (.int i2)]
 rw [show (nar .byte i1) = i1 from by decide]
 show Gs p e below _ T4 m 9 #[rv a1] [(.int i1), (.int i2)]
 refine g_ishr X4 hx (H d9_9) ?_
 rw [show (i2 >>> (i1 &&& 31)) = i1 from by decide]
 show Gs p e below _ T4 m 10 #[rv a1] [(.int i1)]
 exact Go.ret (Q := Qm91U_o Z a1 wb wcs h0 n0) X4 (v := some (.int i1)) (fun h => by rw [hret] at h; cases h) hlk (fun fs hr => retOut X4 hx hret rfl (Or.inl ⟨rfl, Or.inl rfl, _, rfl⟩) (H d9_10) hr) eq4 ⟨rfl, N4, rfl⟩ (by decide) (by decide)
def Qm71U (Z : State) (a1 : Addr) (p2 : Int32) (wb : Addr) (v0 : Int32) (kb : ClassId) (wcs : Int32) (h0 : Heap) (n0 : Nat) (v : Option Value) (h : Heap) (L : List Loc) : Prop := ∃ (r0 : Int32), v = some (.int r0) ∧ ((r0 < 0) ↔ (¬ v0 = p2)) ∧ Fr n0 L ∧ h = h0
theorem rm71U (l : Launch) (Z : State) (a0 : Array Value) (hw : Hw a0 Z) (a1 : Addr) (p2 : Int32) (wb : Addr) (v0 : Int32) (kb : ClassId) (wcs : Int32) (h0 : Heap) (n0 : Nat) (Z0 : n0 ≤ h0.size) (E_a1 : Exa Z h0 a1 s0_) (F_value_a1 : Fld Z h0 a1 s0_ "value" "[B" (.ref wb)) (F_coder_a1 : Fld Z h0 a1 s0_ "coder" "B" (.int i1)) (V_wb : Arv Z h0 wb kb .byte i2 [(.int (nar .byte ((v0 >>> (i0 &&& 31)).toInt8.toInt32))), (.int (nar .byte ((v0 >>> (i8 &&& 31)).toInt8.toInt32)))] (.int i0)) (hb0 : 0 ≤ v0.toInt ∧ v0.toInt ≤ 65535) (S_COMPACT_STRINGS : Sta Z h0 s0_ s5_ "Z" (.int wcs)) (hcs : ¬ (wcs = i0)) (S__assertionsDisabled : Sta Z h0 s1_ s2_ "Z" (.int i1)) (S_HI_BYTE_SHIFT : Sta Z h0 s1_ s3_ "I" (.int i0)) (S_LO_BYTE_SHIFT : Sta Z h0 s1_ s4_ "I" (.int i8)) (hfm : ∃ v : Value, v.isRef = true ∧ Sta Z h0 s6_ s7_ s8_ v) (hch : 0 ≤ p2.toInt ∧ p2.toInt ≤ 127) :
  Met l Z h0 yy27 jdk_42_method_80_code 3 (some .int) (rmk 5 0 0 73) #[(.ref a1), (.int p2), (.int i0)] (Qm71U Z a1 p2 wb v0 kb wcs h0 n0) := by
 refine enter (plainFor_of_name pn_7) (fun m => ef_7 m a1 p2 i0) fun p e s m below meth c s₁ hx hby hml hown hnm hZ X0 e0 hret hlk => ?_
 have N0 := Fr.nil n0; have H := @hb c _ hby
 refine g_aloadN X0 hx (H d7_0) rfl rfl ?_
 refine g_virtual X0 hx hZ (rm8_ff l Z a0 hw a1 wcs i1 h0 n0 Z0 S_COMPACT_STRINGS hcs F_coder_a1 (by decide : ¬ (i1 = i0))) hown (tw42 hw) (tw43 hw) (tw45 hw) rfl (tw44 hw) (tw8 hw) (tw46 hw) (by decide) E_a1 0 (by decide) (by decide) (by rw [hml]; rfl) [] [] (lenOf pd_16 rfl) (Nat.le_of_eq rfl) e0 (by decide) (by decide) rfl rfl (H d7_1) fun v3 T3 Lc3 X3 hQ3 => ?_
 obtain ⟨rfl, N3q, eq3⟩ := hQ3
 have N3 := Fr.app N0 N3q
 show Gs p e below _ T3 m 4 #[rv a1, iv p2, iv i0] [(.int i0)]
 refine g_ifYes X3 hx 23 (H d7_4) (teq (by decide : (i0 = i0))).1 (by decide) (by decide) ?_
 refine g_aloadN X3 hx (H d7_23) rfl rfl ?_
 refine g_getF X3 hx hZ hown (tw26 hw) Via.refl eq3 F_value_a1 (H d7_24) fun T4 X4 e4 => ?_
 refine g_iloadN X4 hx (H d7_27) rfl ?_
 refine g_iloadN X4 hx (H d7_28) rfl ?_
 refine g_aloadN X4 hx (H d7_29) rfl rfl ?_
 refine g_virtual X4 hx hZ (rm91U_o l Z a0 hw a1 wb wcs h0 n0 Z0 E_a1 F_value_a1 F_coder_a1 (Arv.arn V_wb) S_COMPACT_STRINGS hcs) hown (tw48 hw) (tw49 hw) (tw51 hw) rfl (tw50 hw) (tw8 hw) (tw52 hw) (by decide) E_a1 3 (by decide) (by decide) (by rw [hml]; rfl) [] [(.int i0), (.int p2), (.ref wb)] (lenOf pd_17 rfl) (Nat.le_of_eq rfl) e4 (by decide) (by decide) rfl rfl (H d7_30) fun v5 T5 Lc5 X5 hQ5 => ?_
 obtain ⟨rfl, N5q, eq5⟩ := hQ5
 have N5 := Fr.app N3 N5q
 show Gs p e below _ T5 m 33 #[rv a1, iv p2, iv i0] [(.int i1), (.int i0), (.int p2), (.ref wb)]
 refine g_static X5 hx hZ (rm251 l Z a0 hw wb p2 v0 kb h0 n0 Z0 V_wb hb0 hch S__assertionsDisabled S_HI_BYTE_SHIFT S_LO_BYTE_SHIFT hfm) hown (tw107 hw) (tw108 hw) (tw74 hw) (tw109 hw) (by decide) 0 (by decide) (by decide) (by rw [hml]; rfl) [(.ref wb), (.int p2), (.int i0), (.int i1)] [] (lenOf pd_10 rfl) (Nat.le_of_eq rfl) eq5 (by decide) (by decide) rfl rfl (H d7_33) fun v6 T6 Lc6 X6 hQ6 => ?_
 obtain ⟨r0_6, rfl, hp6, N6q, eq6⟩ := hQ6
 have N6 := Fr.app N5 N6q
 show Gs p e below _ T6 m 36 #[rv a1, iv p2, iv i0] [(.int r0_6)]
 exact Go.ret (Q := Qm71U Z a1 p2 wb v0 kb wcs h0 n0) X6 (v := some (.int r0_6)) (fun h => by rw [hret] at h; cases h) hlk (fun fs hr => retOut X6 hx hret rfl (Or.inl ⟨rfl, Or.inl rfl, _, rfl⟩) (H d7_36) hr) eq6 ⟨_, rfl, hp6, N6, rfl⟩ (by decide) (by decide)
def Qm61U (Z : State) (a1 : Addr) (p2 : Int32) (wb : Addr) (v0 : Int32) (kb : ClassId) (wcs : Int32) (h0 : Heap) (n0 : Nat) (v : Option Value) (h : Heap) (L : List Loc) : Prop := ∃ (r0 : Int32), v = some (.int r0) ∧ ((r0 < 0) ↔ (¬ v0 = p2)) ∧ Fr n0 L ∧ h = h0
theorem rm61U (l : Launch) (Z : State) (a0 : Array Value) (hw : Hw a0 Z) (a1 : Addr) (p2 : Int32) (wb : Addr) (v0 : Int32) (kb : ClassId) (wcs : Int32) (h0 : Heap) (n0 : Nat) (Z0 : n0 ≤ h0.size) (E_a1 : Exa Z h0 a1 s0_) (F_value_a1 : Fld Z h0 a1 s0_ "value" "[B" (.ref wb)) (F_coder_a1 : Fld Z h0 a1 s0_ "coder" "B" (.int i1)) (V_wb : Arv Z h0 wb kb .byte i2 [(.int (nar .byte ((v0 >>> (i0 &&& 31)).toInt8.toInt32))), (.int (nar .byte ((v0 >>> (i8 &&& 31)).toInt8.toInt32)))] (.int i0)) (hb0 : 0 ≤ v0.toInt ∧ v0.toInt ≤ 65535) (S_COMPACT_STRINGS : Sta Z h0 s0_ s5_ "Z" (.int wcs)) (hcs : ¬ (wcs = i0)) (S__assertionsDisabled : Sta Z h0 s1_ s2_ "Z" (.int i1)) (S_HI_BYTE_SHIFT : Sta Z h0 s1_ s3_ "I" (.int i0)) (S_LO_BYTE_SHIFT : Sta Z h0 s1_ s4_ "I" (.int i8)) (hfm : ∃ v : Value, v.isRef = true ∧ Sta Z h0 s6_ s7_ s8_ v) (hch : 0 ≤ p2.toInt ∧ p2.toInt ≤ 127) :
  Met l Z h0 yy28 jdk_42_method_79_code 2 (some .int) (rmk 6 0 0 87) #[(.ref a1), (.int p2)] (Qm61U Z a1 p2 wb v0 kb wcs h0 n0) := by
 refine enter (plainFor_of_name pn_6) (fun m => ef_6 m a1 p2) fun p e s m below meth c s₁ hx hby hml hown hnm hZ X0 e0 hret hlk => ?_
 have N0 := Fr.nil n0; have H := @hb c _ hby
 refine g_aloadN X0 hx (H d6_0) rfl rfl ?_
 refine g_iloadN X0 hx (H d6_1) rfl ?_
 refine g_iconst X0 hx i0 (H d6_2) rfl ?_
 refine g_virtual X0 hx hZ (rm71U l Z a0 hw a1 p2 wb v0 kb wcs h0 n0 Z0 E_a1 F_value_a1 F_coder_a1 V_wb hb0 S_COMPACT_STRINGS hcs S__assertionsDisabled S_HI_BYTE_SHIFT S_LO_BYTE_SHIFT hfm hch) hown (tw37 hw) (tw38 hw) (tw40 hw) rfl (tw39 hw) (tw8 hw) (tw41 hw) (by decide) E_a1 0 (by decide) (by decide) (by rw [hml]; rfl) [(.int p2), (.int i0)] [] (lenOf pd_9 rfl) (Nat.le_of_eq rfl) e0 (by decide) (by decide) rfl rfl (H d6_3) fun v3 T3 Lc3 X3 hQ3 => ?_
 obtain ⟨r0_3, rfl, hp3, N3q, eq3⟩ := hQ3
 have N3 := Fr.app N0 N3q
 show Gs p e below _ T3 m 6 #[rv a1, iv p2] [(.int r0_3)]
 exact Go.ret (Q := Qm61U Z a1 p2 wb v0 kb wcs h0 n0) X3 (v := some (.int r0_3)) (fun h => by rw [hret] at h; cases h) hlk (fun fs hr => retOut X3 hx hret rfl (Or.inl ⟨rfl, Or.inl rfl, _, rfl⟩) (H d6_6) hr) eq3 ⟨_, rfl, hp3, N3, rfl⟩ (by decide) (by decide)
def Qm51U (Z : State) (a1 : Addr) (wb : Addr) (v0 : Int32) (kb : ClassId) (wcs : Int32) (h0 : Heap) (n0 : Nat) (v : Option Value) (h : Heap) (L : List Loc) : Prop := ∃ (r0 : Int32), v = some (.int r0) ∧ ((r0 = i0 ∧ (¬ v0 = i42) ∧ (¬ v0 = i63)) ∨ (r0 = i1 ∧ ¬ ((¬ v0 = i42) ∧ (¬ v0 = i63)))) ∧ Fr n0 L ∧ h = h0
theorem rm51U (l : Launch) (Z : State) (a0 : Array Value) (hw : Hw a0 Z) (a1 : Addr) (wb : Addr) (v0 : Int32) (kb : ClassId) (wcs : Int32) (h0 : Heap) (n0 : Nat) (Z0 : n0 ≤ h0.size) (E_a1 : Exa Z h0 a1 s0_) (F_value_a1 : Fld Z h0 a1 s0_ "value" "[B" (.ref wb)) (F_coder_a1 : Fld Z h0 a1 s0_ "coder" "B" (.int i1)) (V_wb : Arv Z h0 wb kb .byte i2 [(.int (nar .byte ((v0 >>> (i0 &&& 31)).toInt8.toInt32))), (.int (nar .byte ((v0 >>> (i8 &&& 31)).toInt8.toInt32)))] (.int i0)) (hb0 : 0 ≤ v0.toInt ∧ v0.toInt ≤ 65535) (S_COMPACT_STRINGS : Sta Z h0 s0_ s5_ "Z" (.int wcs)) (hcs : ¬ (wcs = i0)) (S__assertionsDisabled : Sta Z h0 s1_ s2_ "Z" (.int i1)) (S_HI_BYTE_SHIFT : Sta Z h0 s1_ s3_ "I" (.int i0)) (S_LO_BYTE_SHIFT : Sta Z h0 s1_ s4_ "I" (.int i8)) (hfm : ∃ v : Value, v.isRef = true ∧ Sta Z h0 s6_ s7_ s8_ v) :
  Met l Z h0 yy29 prog_77_method_6_code 1 (some .boolean) (rmk 9 0 0 210) #[(.ref a1)] (Qm51U Z a1 wb v0 kb wcs h0 n0) := by
 refine enter (plainFor_of_name pn_5) (fun m => ef_5 m a1) fun p e s m below meth c s₁ hx hby hml hown hnm hZ X0 e0 hret hlk => ?_
 have N0 := Fr.nil n0; have H := @hb c _ hby
 refine g_aloadN X0 hx (H d5_0) rfl rfl ?_
 refine g_bipush X0 hx i42 (H d5_1) rfl ?_
 refine g_virtual X0 hx hZ (rm61U l Z a0 hw a1 i42 wb v0 kb wcs h0 n0 Z0 E_a1 F_value_a1 F_coder_a1 V_wb hb0 S_COMPACT_STRINGS hcs S__assertionsDisabled S_HI_BYTE_SHIFT S_LO_BYTE_SHIFT hfm (by decide)) hown (tw32 hw) (tw33 hw) (tw35 hw) rfl (tw34 hw) (tw8 hw) (tw36 hw) (by decide) E_a1 0 (by decide) (by decide) (by rw [hml]; rfl) [(.int i42)] [] (lenOf pd_0 rfl) (Nat.le_of_eq rfl) e0 (by decide) (by decide) rfl rfl (H d5_3) fun v2 T2 Lc2 X2 hQ2 => ?_
 obtain ⟨r0_2, rfl, hp2, N2q, eq2⟩ := hQ2
 have N2 := Fr.app N0 N2q
 show Gs p e below _ T2 m 6 #[rv a1] [(.int r0_2)]
 by_cases hc_27 : r0_2 < i0
 ·skip
  refine g_ifNo X2 hx (H d5_6) (tlt hc_27).2.1 ?_
  refine g_aloadN X2 hx (H d5_9) rfl rfl ?_
  refine g_bipush X2 hx i63 (H d5_10) rfl ?_
  refine g_virtual X2 hx hZ (rm61U l Z a0 hw a1 i63 wb v0 kb wcs h0 n0 Z0 E_a1 F_value_a1 F_coder_a1 V_wb hb0 S_COMPACT_STRINGS hcs S__assertionsDisabled S_HI_BYTE_SHIFT S_LO_BYTE_SHIFT hfm (by decide)) hown (tw32 hw) (tw33 hw) (tw35 hw) rfl (tw34 hw) (tw8 hw) (tw36 hw) (by decide) E_a1 0 (by decide) (by decide) (by rw [hml]; rfl) [(.int i63)] [] (lenOf pd_0 rfl) (Nat.le_of_eq rfl) eq2 (by decide) (by decide) rfl rfl (H d5_12) fun v3 T3 Lc3 X3 hQ3 => ?_
  obtain ⟨r0_3, rfl, hp3, N3q, eq3⟩ := hQ3
  have N3 := Fr.app N2 N3q
  show Gs p e below _ T3 m 15 #[rv a1] [(.int r0_3)]
  by_cases hc_28 : r0_3 < i0
  ·skip
   refine g_ifYes X3 hx 22 (H d5_15) (tlt hc_28).1 (by decide) (by decide) ?_
   refine g_iconst X3 hx i0 (H d5_22) rfl ?_
   exact Go.ret (Q := Qm51U Z a1 wb v0 kb wcs h0 n0) X3 (v := some (.int i0)) (fun h => by rw [hret] at h; cases h) hlk (fun fs hr => retN X3 hx (t := .boolean) hret (by simp) (H d5_23) hr) eq3 ⟨_, rfl, (Or.inl ⟨rfl, hp2.mp hc_27, hp3.mp hc_28⟩), N3, rfl⟩ (by decide) (by decide)
  ·skip
   refine g_ifNo X3 hx (H d5_15) (flt hc_28).1 ?_
   refine g_iconst X3 hx i1 (H d5_18) rfl ?_
   refine g_goto X3 hx 23 (H d5_19) (by decide) (by decide) ?_
   exact Go.ret (Q := Qm51U Z a1 wb v0 kb wcs h0 n0) X3 (v := some (.int i1)) (fun h => by rw [hret] at h; cases h) hlk (fun fs hr => retN X3 hx (t := .boolean) hret (by simp) (H d5_23) hr) eq3 ⟨_, rfl, (Or.inr ⟨rfl, fun q => hc_28 (hp3.mpr q.2)⟩), N3, rfl⟩ (by decide) (by decide)
 ·skip
  refine g_ifYes X2 hx 18 (H d5_6) (flt hc_27).2.1 (by decide) (by decide) ?_
  refine g_iconst X2 hx i1 (H d5_18) rfl ?_
  refine g_goto X2 hx 23 (H d5_19) (by decide) (by decide) ?_
  exact Go.ret (Q := Qm51U Z a1 wb v0 kb wcs h0 n0) X2 (v := some (.int i1)) (fun h => by rw [hret] at h; cases h) hlk (fun fs hr => retN X2 hx (t := .boolean) hret (by simp) (H d5_23) hr) eq2 ⟨_, rfl, (Or.inr ⟨rfl, fun q => hc_27 (hp2.mpr q.1)⟩), N2, rfl⟩ (by decide) (by decide)
def Qm92L_o (Z : State) (a1 : Addr) (wb : Addr) (wcs : Int32) (h0 : Heap) (n0 : Nat) (v : Option Value) (h : Heap) (L : List Loc) : Prop := v = some (.int i2) ∧ Fr n0 L ∧ h = h0
theorem rm92L_o (l : Launch) (Z : State) (a0 : Array Value) (hw : Hw a0 Z) (a1 : Addr) (wb : Addr) (wcs : Int32) (h0 : Heap) (n0 : Nat) (Z0 : n0 ≤ h0.size) (E_a1 : Exa Z h0 a1 s0_) (F_value_a1 : Fld Z h0 a1 s0_ "value" "[B" (.ref wb)) (F_coder_a1 : Fld Z h0 a1 s0_ "coder" "B" (.int i0)) (V_wb : Arn Z h0 wb .byte i2) (S_COMPACT_STRINGS : Sta Z h0 s0_ s5_ "Z" (.int wcs)) (hcs : ¬ (wcs = i0)) :
  Met l Z h0 yy26 jdk_42_method_54_code 1 (some .int) (rmk 1 0 0 13) #[(.ref a1)] (Qm92L_o Z a1 wb wcs h0 n0) := by
 refine enter (plainFor_of_name pn_9) (fun m => ef_9 m a1) fun p e s m below meth c s₁ hx hby hml hown hnm hZ X0 e0 hret hlk => ?_
 have N0 := Fr.nil n0; have H := @hb c _ hby
 refine g_aloadN X0 hx (H d9_0) rfl rfl ?_
 refine g_getF X0 hx hZ hown (tw26 hw) Via.refl e0 F_value_a1 (H d9_1) fun T2 X2 e2 => ?_
 obtain ⟨clq3, Arq3, saq3, naq3⟩ := id V_wb
 refine g_len X2 hx hZ e2 Arq3 saq3 naq3 (H d9_4) ?_
 refine g_aloadN X2 hx (H d9_5) rfl rfl ?_
 refine g_virtual X2 hx hZ (rm10_f l Z a0 hw a1 wcs i0 h0 n0 Z0 S_COMPACT_STRINGS hcs F_coder_a1) hown (tw53 hw) (tw54 hw) (tw56 hw) rfl (tw55 hw) (tw8 hw) (tw57 hw) (by decide) E_a1 1 (by decide) (by decide) (by rw [hml]; rfl) [] [(.int i2)] (lenOf pd_15 rfl) (Nat.le_of_eq rfl) e2 (by decide) (by decide) rfl rfl (H d9_6) fun v4 T4 Lc4 X4 hQ4 => ?_
 obtain ⟨rfl, N4q, eq4⟩ := hQ4
 have N4 := Fr.app N0 N4q
 show Gs p e below _ T4 m 9 #[rv a1] [(.int (nar .byte i0)), (.int i2)]
 rw [show (nar .byte i0) = i0 from by decide]
 show Gs p e below _ T4 m 9 #[rv a1] [(.int i0), (.int i2)]
 refine g_ishr X4 hx (H d9_9) ?_
 rw [show (i2 >>> (i0 &&& 31)) = i2 from by decide]
 show Gs p e below _ T4 m 10 #[rv a1] [(.int i2)]
 exact Go.ret (Q := Qm92L_o Z a1 wb wcs h0 n0) X4 (v := some (.int i2)) (fun h => by rw [hret] at h; cases h) hlk (fun fs hr => retOut X4 hx hret rfl (Or.inl ⟨rfl, Or.inl rfl, _, rfl⟩) (H d9_10) hr) eq4 ⟨rfl, N4, rfl⟩ (by decide) (by decide)
def Qm72L (Z : State) (a1 : Addr) (p2 : Int32) (wb : Addr) (v0 : Int32) (v1 : Int32) (kb : ClassId) (wcs : Int32) (h0 : Heap) (n0 : Nat) (v : Option Value) (h : Heap) (L : List Loc) : Prop := ∃ (r0 : Int32), v = some (.int r0) ∧ ((r0 < 0) ↔ (¬ v0 = p2 ∧ ¬ v1 = p2)) ∧ Fr n0 L ∧ h = h0
theorem rm72L (l : Launch) (Z : State) (a0 : Array Value) (hw : Hw a0 Z) (a1 : Addr) (p2 : Int32) (wb : Addr) (v0 : Int32) (v1 : Int32) (kb : ClassId) (wcs : Int32) (h0 : Heap) (n0 : Nat) (Z0 : n0 ≤ h0.size) (E_a1 : Exa Z h0 a1 s0_) (F_value_a1 : Fld Z h0 a1 s0_ "value" "[B" (.ref wb)) (F_coder_a1 : Fld Z h0 a1 s0_ "coder" "B" (.int i0)) (V_wb : Arv Z h0 wb kb .byte i2 [(.int (nar .byte (v0.toInt8.toInt32))), (.int (nar .byte (v1.toInt8.toInt32)))] (.int i0)) (hb0 : 0 ≤ v0.toInt ∧ v0.toInt ≤ 65535) (hb1 : 0 ≤ v1.toInt ∧ v1.toInt ≤ 65535) (S_COMPACT_STRINGS : Sta Z h0 s0_ s5_ "Z" (.int wcs)) (hcs : ¬ (wcs = i0)) (hv0 : ¬ (i255 < v0)) (hv1 : ¬ (i255 < v1)) (hch : 0 ≤ p2.toInt ∧ p2.toInt ≤ 127) :
  Met l Z h0 yy27 jdk_42_method_80_code 3 (some .int) (rmk 2 0 0 32) #[(.ref a1), (.int p2), (.int i0)] (Qm72L Z a1 p2 wb v0 v1 kb wcs h0 n0) := by
 refine enter (plainFor_of_name pn_7) (fun m => ef_7 m a1 p2 i0) fun p e s m below meth c s₁ hx hby hml hown hnm hZ X0 e0 hret hlk => ?_
 have N0 := Fr.nil n0; have H := @hb c _ hby
 refine g_aloadN X0 hx (H d7_0) rfl rfl ?_
 refine g_virtual X0 hx hZ (rm8_ft l Z a0 hw a1 wcs i0 h0 n0 Z0 S_COMPACT_STRINGS hcs F_coder_a1 (by decide : (i0 = i0))) hown (tw42 hw) (tw43 hw) (tw45 hw) rfl (tw44 hw) (tw8 hw) (tw46 hw) (by decide) E_a1 0 (by decide) (by decide) (by rw [hml]; rfl) [] [] (lenOf pd_16 rfl) (Nat.le_of_eq rfl) e0 (by decide) (by decide) rfl rfl (H d7_1) fun v3 T3 Lc3 X3 hQ3 => ?_
 obtain ⟨rfl, N3q, eq3⟩ := hQ3
 have N3 := Fr.app N0 N3q
 show Gs p e below _ T3 m 4 #[rv a1, iv p2, iv i0] [(.int i1)]
 refine g_ifNo X3 hx (H d7_4) (feq (by decide : ¬ (i1 = i0))).1 ?_
 refine g_aloadN X3 hx (H d7_7) rfl rfl ?_
 refine g_getF X3 hx hZ hown (tw26 hw) Via.refl eq3 F_value_a1 (H d7_8) fun T4 X4 e4 => ?_
 refine g_iloadN X4 hx (H d7_11) rfl ?_
 refine g_iloadN X4 hx (H d7_12) rfl ?_
 refine g_aloadN X4 hx (H d7_13) rfl rfl ?_
 refine g_virtual X4 hx hZ (rm92L_o l Z a0 hw a1 wb wcs h0 n0 Z0 E_a1 F_value_a1 F_coder_a1 (Arv.arn V_wb) S_COMPACT_STRINGS hcs) hown (tw48 hw) (tw49 hw) (tw51 hw) rfl (tw50 hw) (tw8 hw) (tw52 hw) (by decide) E_a1 3 (by decide) (by decide) (by rw [hml]; rfl) [] [(.int i0), (.int p2), (.ref wb)] (lenOf pd_17 rfl) (Nat.le_of_eq rfl) e4 (by decide) (by decide) rfl rfl (H d7_14) fun v5 T5 Lc5 X5 hQ5 => ?_
 obtain ⟨rfl, N5q, eq5⟩ := hQ5
 have N5 := Fr.app N3 N5q
 show Gs p e below _ T5 m 17 #[rv a1, iv p2, iv i0] [(.int i2), (.int i0), (.int p2), (.ref wb)]
 refine g_static X5 hx hZ (rm112 l Z a0 hw wb p2 v0 v1 kb h0 n0 Z0 V_wb hb0 hb1 hv0 hv1 hch) hown (tw58 hw) (tw59 hw) (tw60 hw) (tw61 hw) (by decide) 0 (by decide) (by decide) (by rw [hml]; rfl) [(.ref wb), (.int p2), (.int i0), (.int i2)] [] (lenOf pd_10 rfl) (Nat.le_of_eq rfl) eq5 (by decide) (by decide) rfl rfl (H d7_17) fun v6 T6 Lc6 X6 hQ6 => ?_
 obtain ⟨r0_6, rfl, hp6, N6q, eq6⟩ := hQ6
 have N6 := Fr.app N5 N6q
 show Gs p e below _ T6 m 20 #[rv a1, iv p2, iv i0] [(.int r0_6)]
 refine g_goto X6 hx 36 (H d7_20) (by decide) (by decide) ?_
 exact Go.ret (Q := Qm72L Z a1 p2 wb v0 v1 kb wcs h0 n0) X6 (v := some (.int r0_6)) (fun h => by rw [hret] at h; cases h) hlk (fun fs hr => retOut X6 hx hret rfl (Or.inl ⟨rfl, Or.inl rfl, _, rfl⟩) (H d7_36) hr) eq6 ⟨_, rfl, hp6, N6, rfl⟩ (by decide) (by decide)
def Qm62L (Z : State) (a1 : Addr) (p2 : Int32) (wb : Addr) (v0 : Int32) (v1 : Int32) (kb : ClassId) (wcs : Int32) (h0 : Heap) (n0 : Nat) (v : Option Value) (h : Heap) (L : List Loc) : Prop := ∃ (r0 : Int32), v = some (.int r0) ∧ ((r0 < 0) ↔ (¬ v0 = p2 ∧ ¬ v1 = p2)) ∧ Fr n0 L ∧ h = h0
theorem rm62L (l : Launch) (Z : State) (a0 : Array Value) (hw : Hw a0 Z) (a1 : Addr) (p2 : Int32) (wb : Addr) (v0 : Int32) (v1 : Int32) (kb : ClassId) (wcs : Int32) (h0 : Heap) (n0 : Nat) (Z0 : n0 ≤ h0.size) (E_a1 : Exa Z h0 a1 s0_) (F_value_a1 : Fld Z h0 a1 s0_ "value" "[B" (.ref wb)) (F_coder_a1 : Fld Z h0 a1 s0_ "coder" "B" (.int i0)) (V_wb : Arv Z h0 wb kb .byte i2 [(.int (nar .byte (v0.toInt8.toInt32))), (.int (nar .byte (v1.toInt8.toInt32)))] (.int i0)) (hb0 : 0 ≤ v0.toInt ∧ v0.toInt ≤ 65535) (hb1 : 0 ≤ v1.toInt ∧ v1.toInt ≤ 65535) (S_COMPACT_STRINGS : Sta Z h0 s0_ s5_ "Z" (.int wcs)) (hcs : ¬ (wcs = i0)) (hv0 : ¬ (i255 < v0)) (hv1 : ¬ (i255 < v1)) (hch : 0 ≤ p2.toInt ∧ p2.toInt ≤ 127) :
  Met l Z h0 yy28 jdk_42_method_79_code 2 (some .int) (rmk 3 0 0 46) #[(.ref a1), (.int p2)] (Qm62L Z a1 p2 wb v0 v1 kb wcs h0 n0) := by
 refine enter (plainFor_of_name pn_6) (fun m => ef_6 m a1 p2) fun p e s m below meth c s₁ hx hby hml hown hnm hZ X0 e0 hret hlk => ?_
 have N0 := Fr.nil n0; have H := @hb c _ hby
 refine g_aloadN X0 hx (H d6_0) rfl rfl ?_
 refine g_iloadN X0 hx (H d6_1) rfl ?_
 refine g_iconst X0 hx i0 (H d6_2) rfl ?_
 refine g_virtual X0 hx hZ (rm72L l Z a0 hw a1 p2 wb v0 v1 kb wcs h0 n0 Z0 E_a1 F_value_a1 F_coder_a1 V_wb hb0 hb1 S_COMPACT_STRINGS hcs hv0 hv1 hch) hown (tw37 hw) (tw38 hw) (tw40 hw) rfl (tw39 hw) (tw8 hw) (tw41 hw) (by decide) E_a1 0 (by decide) (by decide) (by rw [hml]; rfl) [(.int p2), (.int i0)] [] (lenOf pd_9 rfl) (Nat.le_of_eq rfl) e0 (by decide) (by decide) rfl rfl (H d6_3) fun v3 T3 Lc3 X3 hQ3 => ?_
 obtain ⟨r0_3, rfl, hp3, N3q, eq3⟩ := hQ3
 have N3 := Fr.app N0 N3q
 show Gs p e below _ T3 m 6 #[rv a1, iv p2] [(.int r0_3)]
 exact Go.ret (Q := Qm62L Z a1 p2 wb v0 v1 kb wcs h0 n0) X3 (v := some (.int r0_3)) (fun h => by rw [hret] at h; cases h) hlk (fun fs hr => retOut X3 hx hret rfl (Or.inl ⟨rfl, Or.inl rfl, _, rfl⟩) (H d6_6) hr) eq3 ⟨_, rfl, hp3, N3, rfl⟩ (by decide) (by decide)
def Qm52L (Z : State) (a1 : Addr) (wb : Addr) (v0 : Int32) (v1 : Int32) (kb : ClassId) (wcs : Int32) (h0 : Heap) (n0 : Nat) (v : Option Value) (h : Heap) (L : List Loc) : Prop := ∃ (r0 : Int32), v = some (.int r0) ∧ ((r0 = i0 ∧ (¬ v0 = i42 ∧ ¬ v1 = i42) ∧ (¬ v0 = i63 ∧ ¬ v1 = i63)) ∨ (r0 = i1 ∧ ¬ ((¬ v0 = i42 ∧ ¬ v1 = i42) ∧ (¬ v0 = i63 ∧ ¬ v1 = i63)))) ∧ Fr n0 L ∧ h = h0
theorem rm52L (l : Launch) (Z : State) (a0 : Array Value) (hw : Hw a0 Z) (a1 : Addr) (wb : Addr) (v0 : Int32) (v1 : Int32) (kb : ClassId) (wcs : Int32) (h0 : Heap) (n0 : Nat) (Z0 : n0 ≤ h0.size) (E_a1 : Exa Z h0 a1 s0_) (F_value_a1 : Fld Z h0 a1 s0_ "value" "[B" (.ref wb)) (F_coder_a1 : Fld Z h0 a1 s0_ "coder" "B" (.int i0)) (V_wb : Arv Z h0 wb kb .byte i2 [(.int (nar .byte (v0.toInt8.toInt32))), (.int (nar .byte (v1.toInt8.toInt32)))] (.int i0)) (hb0 : 0 ≤ v0.toInt ∧ v0.toInt ≤ 65535) (hb1 : 0 ≤ v1.toInt ∧ v1.toInt ≤ 65535) (S_COMPACT_STRINGS : Sta Z h0 s0_ s5_ "Z" (.int wcs)) (hcs : ¬ (wcs = i0)) (hv0 : ¬ (i255 < v0)) (hv1 : ¬ (i255 < v1)) :
  Met l Z h0 yy29 prog_77_method_6_code 1 (some .boolean) (rmk 9 0 0 210) #[(.ref a1)] (Qm52L Z a1 wb v0 v1 kb wcs h0 n0) := by
 refine enter (plainFor_of_name pn_5) (fun m => ef_5 m a1) fun p e s m below meth c s₁ hx hby hml hown hnm hZ X0 e0 hret hlk => ?_
 have N0 := Fr.nil n0; have H := @hb c _ hby
 refine g_aloadN X0 hx (H d5_0) rfl rfl ?_
 refine g_bipush X0 hx i42 (H d5_1) rfl ?_
 refine g_virtual X0 hx hZ (rm62L l Z a0 hw a1 i42 wb v0 v1 kb wcs h0 n0 Z0 E_a1 F_value_a1 F_coder_a1 V_wb hb0 hb1 S_COMPACT_STRINGS hcs hv0 hv1 (by decide)) hown (tw32 hw) (tw33 hw) (tw35 hw) rfl (tw34 hw) (tw8 hw) (tw36 hw) (by decide) E_a1 0 (by decide) (by decide) (by rw [hml]; rfl) [(.int i42)] [] (lenOf pd_0 rfl) (Nat.le_of_eq rfl) e0 (by decide) (by decide) rfl rfl (H d5_3) fun v2 T2 Lc2 X2 hQ2 => ?_
 obtain ⟨r0_2, rfl, hp2, N2q, eq2⟩ := hQ2
 have N2 := Fr.app N0 N2q
 show Gs p e below _ T2 m 6 #[rv a1] [(.int r0_2)]
 by_cases hc_29 : r0_2 < i0
 ·skip
  refine g_ifNo X2 hx (H d5_6) (tlt hc_29).2.1 ?_
  refine g_aloadN X2 hx (H d5_9) rfl rfl ?_
  refine g_bipush X2 hx i63 (H d5_10) rfl ?_
  refine g_virtual X2 hx hZ (rm62L l Z a0 hw a1 i63 wb v0 v1 kb wcs h0 n0 Z0 E_a1 F_value_a1 F_coder_a1 V_wb hb0 hb1 S_COMPACT_STRINGS hcs hv0 hv1 (by decide)) hown (tw32 hw) (tw33 hw) (tw35 hw) rfl (tw34 hw) (tw8 hw) (tw36 hw) (by decide) E_a1 0 (by decide) (by decide) (by rw [hml]; rfl) [(.int i63)] [] (lenOf pd_0 rfl) (Nat.le_of_eq rfl) eq2 (by decide) (by decide) rfl rfl (H d5_12) fun v3 T3 Lc3 X3 hQ3 => ?_
  obtain ⟨r0_3, rfl, hp3, N3q, eq3⟩ := hQ3
  have N3 := Fr.app N2 N3q
  show Gs p e below _ T3 m 15 #[rv a1] [(.int r0_3)]
  by_cases hc_30 : r0_3 < i0
  ·skip
   refine g_ifYes X3 hx 22 (H d5_15) (tlt hc_30).1 (by decide) (by decide) ?_
   refine g_iconst X3 hx i0 (H d5_22) rfl ?_
   exact Go.ret (Q := Qm52L Z a1 wb v0 v1 kb wcs h0 n0) X3 (v := some (.int i0)) (fun h => by rw [hret] at h; cases h) hlk (fun fs hr => retN X3 hx (t := .boolean) hret (by simp) (H d5_23) hr) eq3 ⟨_, rfl, (Or.inl ⟨rfl, hp2.mp hc_29, hp3.mp hc_30⟩), N3, rfl⟩ (by decide) (by decide)
  ·skip
   refine g_ifNo X3 hx (H d5_15) (flt hc_30).1 ?_
   refine g_iconst X3 hx i1 (H d5_18) rfl ?_
   refine g_goto X3 hx 23 (H d5_19) (by decide) (by decide) ?_
   exact Go.ret (Q := Qm52L Z a1 wb v0 v1 kb wcs h0 n0) X3 (v := some (.int i1)) (fun h => by rw [hret] at h; cases h) hlk (fun fs hr => retN X3 hx (t := .boolean) hret (by simp) (H d5_23) hr) eq3 ⟨_, rfl, (Or.inr ⟨rfl, fun q => hc_30 (hp3.mpr q.2)⟩), N3, rfl⟩ (by decide) (by decide)
 ·skip
  refine g_ifYes X2 hx 18 (H d5_6) (flt hc_29).2.1 (by decide) (by decide) ?_
  refine g_iconst X2 hx i1 (H d5_18) rfl ?_
  refine g_goto X2 hx 23 (H d5_19) (by decide) (by decide) ?_
  exact Go.ret (Q := Qm52L Z a1 wb v0 v1 kb wcs h0 n0) X2 (v := some (.int i1)) (fun h => by rw [hret] at h; cases h) hlk (fun fs hr => retN X2 hx (t := .boolean) hret (by simp) (H d5_23) hr) eq2 ⟨_, rfl, (Or.inr ⟨rfl, fun q => hc_29 (hp2.mpr q.1)⟩), N2, rfl⟩ (by decide) (by decide)
def Qm92U_o (Z : State) (a1 : Addr) (wb : Addr) (wcs : Int32) (h0 : Heap) (n0 : Nat) (v : Option Value) (h : Heap) (L : List Loc) : Prop := v = some (.int i2) ∧ Fr n0 L ∧ h = h0
theorem rm92U_o (l : Launch) (Z : State) (a0 : Array Value) (hw : Hw a0 Z) (a1 : Addr) (wb : Addr) (wcs : Int32) (h0 : Heap) (n0 : Nat) (Z0 : n0 ≤ h0.size) (E_a1 : Exa Z h0 a1 s0_) (F_value_a1 : Fld Z h0 a1 s0_ "value" "[B" (.ref wb)) (F_coder_a1 : Fld Z h0 a1 s0_ "coder" "B" (.int i1)) (V_wb : Arn Z h0 wb .byte i4) (S_COMPACT_STRINGS : Sta Z h0 s0_ s5_ "Z" (.int wcs)) (hcs : ¬ (wcs = i0)) :
  Met l Z h0 yy26 jdk_42_method_54_code 1 (some .int) (rmk 1 0 0 13) #[(.ref a1)] (Qm92U_o Z a1 wb wcs h0 n0) := by
 refine enter (plainFor_of_name pn_9) (fun m => ef_9 m a1) fun p e s m below meth c s₁ hx hby hml hown hnm hZ X0 e0 hret hlk => ?_
 have N0 := Fr.nil n0; have H := @hb c _ hby
 refine g_aloadN X0 hx (H d9_0) rfl rfl ?_
 refine g_getF X0 hx hZ hown (tw26 hw) Via.refl e0 F_value_a1 (H d9_1) fun T2 X2 e2 => ?_
 obtain ⟨clq3, Arq3, saq3, naq3⟩ := id V_wb
 refine g_len X2 hx hZ e2 Arq3 saq3 naq3 (H d9_4) ?_
 refine g_aloadN X2 hx (H d9_5) rfl rfl ?_
 refine g_virtual X2 hx hZ (rm10_f l Z a0 hw a1 wcs i1 h0 n0 Z0 S_COMPACT_STRINGS hcs F_coder_a1) hown (tw53 hw) (tw54 hw) (tw56 hw) rfl (tw55 hw) (tw8 hw) (tw57 hw) (by decide) E_a1 1 (by decide) (by decide) (by rw [hml]; rfl) [] [(.int i4)] (lenOf pd_15 rfl) (Nat.le_of_eq rfl) e2 (by decide) (by decide) rfl rfl (H d9_6) fun v4 T4 Lc4 X4 hQ4 => ?_
 obtain ⟨rfl, N4q, eq4⟩ := hQ4
 have N4 := Fr.app N0 N4q
 show Gs p e below _ T4 m 9 #[rv a1] [(.int (nar .byte i1)), (.int i4)]
 rw [show (nar .byte i1) = i1 from by decide]
 show Gs p e below _ T4 m 9 #[rv a1] [(.int i1), (.int i4)]
 refine g_ishr X4 hx (H d9_9) ?_
 rw [show (i4 >>> (i1 &&& 31)) = i2 from by decide]
 show Gs p e below _ T4 m 10 #[rv a1] [(.int i2)]
 exact Go.ret (Q := Qm92U_o Z a1 wb wcs h0 n0) X4 (v := some (.int i2)) (fun h => by rw [hret] at h; cases h) hlk (fun fs hr => retOut X4 hx hret rfl (Or.inl ⟨rfl, Or.inl rfl, _, rfl⟩) (H d9_10) hr) eq4 ⟨rfl, N4, rfl⟩ (by decide) (by decide)
def Qm72U (Z : State) (a1 : Addr) (p2 : Int32) (wb : Addr) (v0 : Int32) (v1 : Int32) (kb : ClassId) (wcs : Int32) (h0 : Heap) (n0 : Nat) (v : Option Value) (h : Heap) (L : List Loc) : Prop := ∃ (r0 : Int32), v = some (.int r0) ∧ ((r0 < 0) ↔ (¬ v0 = p2 ∧ ¬ v1 = p2)) ∧ Fr n0 L ∧ h = h0
theorem rm72U (l : Launch) (Z : State) (a0 : Array Value) (hw : Hw a0 Z) (a1 : Addr) (p2 : Int32) (wb : Addr) (v0 : Int32) (v1 : Int32) (kb : ClassId) (wcs : Int32) (h0 : Heap) (n0 : Nat) (Z0 : n0 ≤ h0.size) (E_a1 : Exa Z h0 a1 s0_) (F_value_a1 : Fld Z h0 a1 s0_ "value" "[B" (.ref wb)) (F_coder_a1 : Fld Z h0 a1 s0_ "coder" "B" (.int i1)) (V_wb : Arv Z h0 wb kb .byte i4 [(.int (nar .byte ((v0 >>> (i0 &&& 31)).toInt8.toInt32))), (.int (nar .byte ((v0 >>> (i8 &&& 31)).toInt8.toInt32))), (.int (nar .byte ((v1 >>> (i0 &&& 31)).toInt8.toInt32))), (.int (nar .byte ((v1 >>> (i8 &&& 31)).toInt8.toInt32)))] (.int i0)) (hb0 : 0 ≤ v0.toInt ∧ v0.toInt ≤ 65535) (hb1 : 0 ≤ v1.toInt ∧ v1.toInt ≤ 65535) (S_COMPACT_STRINGS : Sta Z h0 s0_ s5_ "Z" (.int wcs)) (hcs : ¬ (wcs = i0)) (S__assertionsDisabled : Sta Z h0 s1_ s2_ "Z" (.int i1)) (S_HI_BYTE_SHIFT : Sta Z h0 s1_ s3_ "I" (.int i0)) (S_LO_BYTE_SHIFT : Sta Z h0 s1_ s4_ "I" (.int i8)) (hfm : ∃ v : Value, v.isRef = true ∧ Sta Z h0 s6_ s7_ s8_ v) (hch : 0 ≤ p2.toInt ∧ p2.toInt ≤ 127) :
  Met l Z h0 yy27 jdk_42_method_80_code 3 (some .int) (rmk 5 0 0 73) #[(.ref a1), (.int p2), (.int i0)] (Qm72U Z a1 p2 wb v0 v1 kb wcs h0 n0) := by
 refine enter (plainFor_of_name pn_7) (fun m => ef_7 m a1 p2 i0) fun p e s m below meth c s₁ hx hby hml hown hnm hZ X0 e0 hret hlk => ?_
 have N0 := Fr.nil n0; have H := @hb c _ hby
 refine g_aloadN X0 hx (H d7_0) rfl rfl ?_
 refine g_virtual X0 hx hZ (rm8_ff l Z a0 hw a1 wcs i1 h0 n0 Z0 S_COMPACT_STRINGS hcs F_coder_a1 (by decide : ¬ (i1 = i0))) hown (tw42 hw) (tw43 hw) (tw45 hw) rfl (tw44 hw) (tw8 hw) (tw46 hw) (by decide) E_a1 0 (by decide) (by decide) (by rw [hml]; rfl) [] [] (lenOf pd_16 rfl) (Nat.le_of_eq rfl) e0 (by decide) (by decide) rfl rfl (H d7_1) fun v3 T3 Lc3 X3 hQ3 => ?_
 obtain ⟨rfl, N3q, eq3⟩ := hQ3
 have N3 := Fr.app N0 N3q
 show Gs p e below _ T3 m 4 #[rv a1, iv p2, iv i0] [(.int i0)]
 refine g_ifYes X3 hx 23 (H d7_4) (teq (by decide : (i0 = i0))).1 (by decide) (by decide) ?_
 refine g_aloadN X3 hx (H d7_23) rfl rfl ?_
 refine g_getF X3 hx hZ hown (tw26 hw) Via.refl eq3 F_value_a1 (H d7_24) fun T4 X4 e4 => ?_
 refine g_iloadN X4 hx (H d7_27) rfl ?_
 refine g_iloadN X4 hx (H d7_28) rfl ?_
 refine g_aloadN X4 hx (H d7_29) rfl rfl ?_
 refine g_virtual X4 hx hZ (rm92U_o l Z a0 hw a1 wb wcs h0 n0 Z0 E_a1 F_value_a1 F_coder_a1 (Arv.arn V_wb) S_COMPACT_STRINGS hcs) hown (tw48 hw) (tw49 hw) (tw51 hw) rfl (tw50 hw) (tw8 hw) (tw52 hw) (by decide) E_a1 3 (by decide) (by decide) (by rw [hml]; rfl) [] [(.int i0), (.int p2), (.ref wb)] (lenOf pd_17 rfl) (Nat.le_of_eq rfl) e4 (by decide) (by decide) rfl rfl (H d7_30) fun v5 T5 Lc5 X5 hQ5 => ?_
 obtain ⟨rfl, N5q, eq5⟩ := hQ5
 have N5 := Fr.app N3 N5q
 show Gs p e below _ T5 m 33 #[rv a1, iv p2, iv i0] [(.int i2), (.int i0), (.int p2), (.ref wb)]
 refine g_static X5 hx hZ (rm252 l Z a0 hw wb p2 v0 v1 kb h0 n0 Z0 V_wb hb0 hb1 hch S__assertionsDisabled S_HI_BYTE_SHIFT S_LO_BYTE_SHIFT hfm) hown (tw107 hw) (tw108 hw) (tw74 hw) (tw109 hw) (by decide) 0 (by decide) (by decide) (by rw [hml]; rfl) [(.ref wb), (.int p2), (.int i0), (.int i2)] [] (lenOf pd_10 rfl) (Nat.le_of_eq rfl) eq5 (by decide) (by decide) rfl rfl (H d7_33) fun v6 T6 Lc6 X6 hQ6 => ?_
 obtain ⟨r0_6, rfl, hp6, N6q, eq6⟩ := hQ6
 have N6 := Fr.app N5 N6q
 show Gs p e below _ T6 m 36 #[rv a1, iv p2, iv i0] [(.int r0_6)]
 exact Go.ret (Q := Qm72U Z a1 p2 wb v0 v1 kb wcs h0 n0) X6 (v := some (.int r0_6)) (fun h => by rw [hret] at h; cases h) hlk (fun fs hr => retOut X6 hx hret rfl (Or.inl ⟨rfl, Or.inl rfl, _, rfl⟩) (H d7_36) hr) eq6 ⟨_, rfl, hp6, N6, rfl⟩ (by decide) (by decide)
def Qm62U (Z : State) (a1 : Addr) (p2 : Int32) (wb : Addr) (v0 : Int32) (v1 : Int32) (kb : ClassId) (wcs : Int32) (h0 : Heap) (n0 : Nat) (v : Option Value) (h : Heap) (L : List Loc) : Prop := ∃ (r0 : Int32), v = some (.int r0) ∧ ((r0 < 0) ↔ (¬ v0 = p2 ∧ ¬ v1 = p2)) ∧ Fr n0 L ∧ h = h0
theorem rm62U (l : Launch) (Z : State) (a0 : Array Value) (hw : Hw a0 Z) (a1 : Addr) (p2 : Int32) (wb : Addr) (v0 : Int32) (v1 : Int32) (kb : ClassId) (wcs : Int32) (h0 : Heap) (n0 : Nat) (Z0 : n0 ≤ h0.size) (E_a1 : Exa Z h0 a1 s0_) (F_value_a1 : Fld Z h0 a1 s0_ "value" "[B" (.ref wb)) (F_coder_a1 : Fld Z h0 a1 s0_ "coder" "B" (.int i1)) (V_wb : Arv Z h0 wb kb .byte i4 [(.int (nar .byte ((v0 >>> (i0 &&& 31)).toInt8.toInt32))), (.int (nar .byte ((v0 >>> (i8 &&& 31)).toInt8.toInt32))), (.int (nar .byte ((v1 >>> (i0 &&& 31)).toInt8.toInt32))), (.int (nar .byte ((v1 >>> (i8 &&& 31)).toInt8.toInt32)))] (.int i0)) (hb0 : 0 ≤ v0.toInt ∧ v0.toInt ≤ 65535) (hb1 : 0 ≤ v1.toInt ∧ v1.toInt ≤ 65535) (S_COMPACT_STRINGS : Sta Z h0 s0_ s5_ "Z" (.int wcs)) (hcs : ¬ (wcs = i0)) (S__assertionsDisabled : Sta Z h0 s1_ s2_ "Z" (.int i1)) (S_HI_BYTE_SHIFT : Sta Z h0 s1_ s3_ "I" (.int i0)) (S_LO_BYTE_SHIFT : Sta Z h0 s1_ s4_ "I" (.int i8)) (hfm : ∃ v : Value, v.isRef = true ∧ Sta Z h0 s6_ s7_ s8_ v) (hch : 0 ≤ p2.toInt ∧ p2.toInt ≤ 127) :
  Met l Z h0 yy28 jdk_42_method_79_code 2 (some .int) (rmk 6 0 0 87) #[(.ref a1), (.int p2)] (Qm62U Z a1 p2 wb v0 v1 kb wcs h0 n0) := by
 refine enter (plainFor_of_name pn_6) (fun m => ef_6 m a1 p2) fun p e s m below meth c s₁ hx hby hml hown hnm hZ X0 e0 hret hlk => ?_
 have N0 := Fr.nil n0; have H := @hb c _ hby
 refine g_aloadN X0 hx (H d6_0) rfl rfl ?_
 refine g_iloadN X0 hx (H d6_1) rfl ?_
 refine g_iconst X0 hx i0 (H d6_2) rfl ?_
 refine g_virtual X0 hx hZ (rm72U l Z a0 hw a1 p2 wb v0 v1 kb wcs h0 n0 Z0 E_a1 F_value_a1 F_coder_a1 V_wb hb0 hb1 S_COMPACT_STRINGS hcs S__assertionsDisabled S_HI_BYTE_SHIFT S_LO_BYTE_SHIFT hfm hch) hown (tw37 hw) (tw38 hw) (tw40 hw) rfl (tw39 hw) (tw8 hw) (tw41 hw) (by decide) E_a1 0 (by decide) (by decide) (by rw [hml]; rfl) [(.int p2), (.int i0)] [] (lenOf pd_9 rfl) (Nat.le_of_eq rfl) e0 (by decide) (by decide) rfl rfl (H d6_3) fun v3 T3 Lc3 X3 hQ3 => ?_
 obtain ⟨r0_3, rfl, hp3, N3q, eq3⟩ := hQ3
 have N3 := Fr.app N0 N3q
 show Gs p e below _ T3 m 6 #[rv a1, iv p2] [(.int r0_3)]
 exact Go.ret (Q := Qm62U Z a1 p2 wb v0 v1 kb wcs h0 n0) X3 (v := some (.int r0_3)) (fun h => by rw [hret] at h; cases h) hlk (fun fs hr => retOut X3 hx hret rfl (Or.inl ⟨rfl, Or.inl rfl, _, rfl⟩) (H d6_6) hr) eq3 ⟨_, rfl, hp3, N3, rfl⟩ (by decide) (by decide)
def Qm52U (Z : State) (a1 : Addr) (wb : Addr) (v0 : Int32) (v1 : Int32) (kb : ClassId) (wcs : Int32) (h0 : Heap) (n0 : Nat) (v : Option Value) (h : Heap) (L : List Loc) : Prop := ∃ (r0 : Int32), v = some (.int r0) ∧ ((r0 = i0 ∧ (¬ v0 = i42 ∧ ¬ v1 = i42) ∧ (¬ v0 = i63 ∧ ¬ v1 = i63)) ∨ (r0 = i1 ∧ ¬ ((¬ v0 = i42 ∧ ¬ v1 = i42) ∧ (¬ v0 = i63 ∧ ¬ v1 = i63)))) ∧ Fr n0 L ∧ h = h0
theorem rm52U (l : Launch) (Z : State) (a0 : Array Value) (hw : Hw a0 Z) (a1 : Addr) (wb : Addr) (v0 : Int32) (v1 : Int32) (kb : ClassId) (wcs : Int32) (h0 : Heap) (n0 : Nat) (Z0 : n0 ≤ h0.size) (E_a1 : Exa Z h0 a1 s0_) (F_value_a1 : Fld Z h0 a1 s0_ "value" "[B" (.ref wb)) (F_coder_a1 : Fld Z h0 a1 s0_ "coder" "B" (.int i1)) (V_wb : Arv Z h0 wb kb .byte i4 [(.int (nar .byte ((v0 >>> (i0 &&& 31)).toInt8.toInt32))), (.int (nar .byte ((v0 >>> (i8 &&& 31)).toInt8.toInt32))), (.int (nar .byte ((v1 >>> (i0 &&& 31)).toInt8.toInt32))), (.int (nar .byte ((v1 >>> (i8 &&& 31)).toInt8.toInt32)))] (.int i0)) (hb0 : 0 ≤ v0.toInt ∧ v0.toInt ≤ 65535) (hb1 : 0 ≤ v1.toInt ∧ v1.toInt ≤ 65535) (S_COMPACT_STRINGS : Sta Z h0 s0_ s5_ "Z" (.int wcs)) (hcs : ¬ (wcs = i0)) (S__assertionsDisabled : Sta Z h0 s1_ s2_ "Z" (.int i1)) (S_HI_BYTE_SHIFT : Sta Z h0 s1_ s3_ "I" (.int i0)) (S_LO_BYTE_SHIFT : Sta Z h0 s1_ s4_ "I" (.int i8)) (hfm : ∃ v : Value, v.isRef = true ∧ Sta Z h0 s6_ s7_ s8_ v) :
  Met l Z h0 yy29 prog_77_method_6_code 1 (some .boolean) (rmk 9 0 0 210) #[(.ref a1)] (Qm52U Z a1 wb v0 v1 kb wcs h0 n0) := by
 refine enter (plainFor_of_name pn_5) (fun m => ef_5 m a1) fun p e s m below meth c s₁ hx hby hml hown hnm hZ X0 e0 hret hlk => ?_
 have N0 := Fr.nil n0; have H := @hb c _ hby
 refine g_aloadN X0 hx (H d5_0) rfl rfl ?_
 refine g_bipush X0 hx i42 (H d5_1) rfl ?_
 refine g_virtual X0 hx hZ (rm62U l Z a0 hw a1 i42 wb v0 v1 kb wcs h0 n0 Z0 E_a1 F_value_a1 F_coder_a1 V_wb hb0 hb1 S_COMPACT_STRINGS hcs S__assertionsDisabled S_HI_BYTE_SHIFT S_LO_BYTE_SHIFT hfm (by decide)) hown (tw32 hw) (tw33 hw) (tw35 hw) rfl (tw34 hw) (tw8 hw) (tw36 hw) (by decide) E_a1 0 (by decide) (by decide) (by rw [hml]; rfl) [(.int i42)] [] (lenOf pd_0 rfl) (Nat.le_of_eq rfl) e0 (by decide) (by decide) rfl rfl (H d5_3) fun v2 T2 Lc2 X2 hQ2 => ?_
 obtain ⟨r0_2, rfl, hp2, N2q, eq2⟩ := hQ2
 have N2 := Fr.app N0 N2q
 show Gs p e below _ T2 m 6 #[rv a1] [(.int r0_2)]
 by_cases hc_31 : r0_2 < i0
 ·skip
  refine g_ifNo X2 hx (H d5_6) (tlt hc_31).2.1 ?_
  refine g_aloadN X2 hx (H d5_9) rfl rfl ?_
  refine g_bipush X2 hx i63 (H d5_10) rfl ?_
  refine g_virtual X2 hx hZ (rm62U l Z a0 hw a1 i63 wb v0 v1 kb wcs h0 n0 Z0 E_a1 F_value_a1 F_coder_a1 V_wb hb0 hb1 S_COMPACT_STRINGS hcs S__assertionsDisabled S_HI_BYTE_SHIFT S_LO_BYTE_SHIFT hfm (by decide)) hown (tw32 hw) (tw33 hw) (tw35 hw) rfl (tw34 hw) (tw8 hw) (tw36 hw) (by decide) E_a1 0 (by decide) (by decide) (by rw [hml]; rfl) [(.int i63)] [] (lenOf pd_0 rfl) (Nat.le_of_eq rfl) eq2 (by decide) (by decide) rfl rfl (H d5_12) fun v3 T3 Lc3 X3 hQ3 => ?_
  obtain ⟨r0_3, rfl, hp3, N3q, eq3⟩ := hQ3
  have N3 := Fr.app N2 N3q
  show Gs p e below _ T3 m 15 #[rv a1] [(.int r0_3)]
  by_cases hc_32 : r0_3 < i0
  ·skip
   refine g_ifYes X3 hx 22 (H d5_15) (tlt hc_32).1 (by decide) (by decide) ?_
   refine g_iconst X3 hx i0 (H d5_22) rfl ?_
   exact Go.ret (Q := Qm52U Z a1 wb v0 v1 kb wcs h0 n0) X3 (v := some (.int i0)) (fun h => by rw [hret] at h; cases h) hlk (fun fs hr => retN X3 hx (t := .boolean) hret (by simp) (H d5_23) hr) eq3 ⟨_, rfl, (Or.inl ⟨rfl, hp2.mp hc_31, hp3.mp hc_32⟩), N3, rfl⟩ (by decide) (by decide)
  ·skip
   refine g_ifNo X3 hx (H d5_15) (flt hc_32).1 ?_
   refine g_iconst X3 hx i1 (H d5_18) rfl ?_
   refine g_goto X3 hx 23 (H d5_19) (by decide) (by decide) ?_
   exact Go.ret (Q := Qm52U Z a1 wb v0 v1 kb wcs h0 n0) X3 (v := some (.int i1)) (fun h => by rw [hret] at h; cases h) hlk (fun fs hr => retN X3 hx (t := .boolean) hret (by simp) (H d5_23) hr) eq3 ⟨_, rfl, (Or.inr ⟨rfl, fun q => hc_32 (hp3.mpr q.2)⟩), N3, rfl⟩ (by decide) (by decide)
 ·skip
  refine g_ifYes X2 hx 18 (H d5_6) (flt hc_31).2.1 (by decide) (by decide) ?_
  refine g_iconst X2 hx i1 (H d5_18) rfl ?_
  refine g_goto X2 hx 23 (H d5_19) (by decide) (by decide) ?_
  exact Go.ret (Q := Qm52U Z a1 wb v0 v1 kb wcs h0 n0) X2 (v := some (.int i1)) (fun h => by rw [hret] at h; cases h) hlk (fun fs hr => retN X2 hx (t := .boolean) hret (by simp) (H d5_23) hr) eq2 ⟨_, rfl, (Or.inr ⟨rfl, fun q => hc_31 (hp2.mpr q.1)⟩), N2, rfl⟩ (by decide) (by decide)
def Qm93L_o (Z : State) (a1 : Addr) (wb : Addr) (wcs : Int32) (h0 : Heap) (n0 : Nat) (v : Option Value) (h : Heap) (L : List Loc) : Prop := v = some (.int i3) ∧ Fr n0 L ∧ h = h0
theorem rm93L_o (l : Launch) (Z : State) (a0 : Array Value) (hw : Hw a0 Z) (a1 : Addr) (wb : Addr) (wcs : Int32) (h0 : Heap) (n0 : Nat) (Z0 : n0 ≤ h0.size) (E_a1 : Exa Z h0 a1 s0_) (F_value_a1 : Fld Z h0 a1 s0_ "value" "[B" (.ref wb)) (F_coder_a1 : Fld Z h0 a1 s0_ "coder" "B" (.int i0)) (V_wb : Arn Z h0 wb .byte i3) (S_COMPACT_STRINGS : Sta Z h0 s0_ s5_ "Z" (.int wcs)) (hcs : ¬ (wcs = i0)) :
  Met l Z h0 yy26 jdk_42_method_54_code 1 (some .int) (rmk 1 0 0 13) #[(.ref a1)] (Qm93L_o Z a1 wb wcs h0 n0) := by
 refine enter (plainFor_of_name pn_9) (fun m => ef_9 m a1) fun p e s m below meth c s₁ hx hby hml hown hnm hZ X0 e0 hret hlk => ?_
 have N0 := Fr.nil n0; have H := @hb c _ hby
 refine g_aloadN X0 hx (H d9_0) rfl rfl ?_
 refine g_getF X0 hx hZ hown (tw26 hw) Via.refl e0 F_value_a1 (H d9_1) fun T2 X2 e2 => ?_
 obtain ⟨clq3, Arq3, saq3, naq3⟩ := id V_wb
 refine g_len X2 hx hZ e2 Arq3 saq3 naq3 (H d9_4) ?_
 refine g_aloadN X2 hx (H d9_5) rfl rfl ?_
 refine g_virtual X2 hx hZ (rm10_f l Z a0 hw a1 wcs i0 h0 n0 Z0 S_COMPACT_STRINGS hcs F_coder_a1) hown (tw53 hw) (tw54 hw) (tw56 hw) rfl (tw55 hw) (tw8 hw) (tw57 hw) (by decide) E_a1 1 (by decide) (by decide) (by rw [hml]; rfl) [] [(.int i3)] (lenOf pd_15 rfl) (Nat.le_of_eq rfl) e2 (by decide) (by decide) rfl rfl (H d9_6) fun v4 T4 Lc4 X4 hQ4 => ?_
 obtain ⟨rfl, N4q, eq4⟩ := hQ4
 have N4 := Fr.app N0 N4q
 show Gs p e below _ T4 m 9 #[rv a1] [(.int (nar .byte i0)), (.int i3)]
 rw [show (nar .byte i0) = i0 from by decide]
 show Gs p e below _ T4 m 9 #[rv a1] [(.int i0), (.int i3)]
 refine g_ishr X4 hx (H d9_9) ?_
 rw [show (i3 >>> (i0 &&& 31)) = i3 from by decide]
 show Gs p e below _ T4 m 10 #[rv a1] [(.int i3)]
 exact Go.ret (Q := Qm93L_o Z a1 wb wcs h0 n0) X4 (v := some (.int i3)) (fun h => by rw [hret] at h; cases h) hlk (fun fs hr => retOut X4 hx hret rfl (Or.inl ⟨rfl, Or.inl rfl, _, rfl⟩) (H d9_10) hr) eq4 ⟨rfl, N4, rfl⟩ (by decide) (by decide)
def Qm73L (Z : State) (a1 : Addr) (p2 : Int32) (wb : Addr) (v0 : Int32) (v1 : Int32) (v2 : Int32) (kb : ClassId) (wcs : Int32) (h0 : Heap) (n0 : Nat) (v : Option Value) (h : Heap) (L : List Loc) : Prop := ∃ (r0 : Int32), v = some (.int r0) ∧ ((r0 < 0) ↔ (¬ v0 = p2 ∧ ¬ v1 = p2 ∧ ¬ v2 = p2)) ∧ Fr n0 L ∧ h = h0
theorem rm73L (l : Launch) (Z : State) (a0 : Array Value) (hw : Hw a0 Z) (a1 : Addr) (p2 : Int32) (wb : Addr) (v0 : Int32) (v1 : Int32) (v2 : Int32) (kb : ClassId) (wcs : Int32) (h0 : Heap) (n0 : Nat) (Z0 : n0 ≤ h0.size) (E_a1 : Exa Z h0 a1 s0_) (F_value_a1 : Fld Z h0 a1 s0_ "value" "[B" (.ref wb)) (F_coder_a1 : Fld Z h0 a1 s0_ "coder" "B" (.int i0)) (V_wb : Arv Z h0 wb kb .byte i3 [(.int (nar .byte (v0.toInt8.toInt32))), (.int (nar .byte (v1.toInt8.toInt32))), (.int (nar .byte (v2.toInt8.toInt32)))] (.int i0)) (hb0 : 0 ≤ v0.toInt ∧ v0.toInt ≤ 65535) (hb1 : 0 ≤ v1.toInt ∧ v1.toInt ≤ 65535) (hb2 : 0 ≤ v2.toInt ∧ v2.toInt ≤ 65535) (S_COMPACT_STRINGS : Sta Z h0 s0_ s5_ "Z" (.int wcs)) (hcs : ¬ (wcs = i0)) (hv0 : ¬ (i255 < v0)) (hv1 : ¬ (i255 < v1)) (hv2 : ¬ (i255 < v2)) (hch : 0 ≤ p2.toInt ∧ p2.toInt ≤ 127) :
  Met l Z h0 yy27 jdk_42_method_80_code 3 (some .int) (rmk 2 0 0 32) #[(.ref a1), (.int p2), (.int i0)] (Qm73L Z a1 p2 wb v0 v1 v2 kb wcs h0 n0) := by
 refine enter (plainFor_of_name pn_7) (fun m => ef_7 m a1 p2 i0) fun p e s m below meth c s₁ hx hby hml hown hnm hZ X0 e0 hret hlk => ?_
 have N0 := Fr.nil n0; have H := @hb c _ hby
 refine g_aloadN X0 hx (H d7_0) rfl rfl ?_
 refine g_virtual X0 hx hZ (rm8_ft l Z a0 hw a1 wcs i0 h0 n0 Z0 S_COMPACT_STRINGS hcs F_coder_a1 (by decide : (i0 = i0))) hown (tw42 hw) (tw43 hw) (tw45 hw) rfl (tw44 hw) (tw8 hw) (tw46 hw) (by decide) E_a1 0 (by decide) (by decide) (by rw [hml]; rfl) [] [] (lenOf pd_16 rfl) (Nat.le_of_eq rfl) e0 (by decide) (by decide) rfl rfl (H d7_1) fun v3 T3 Lc3 X3 hQ3 => ?_
 obtain ⟨rfl, N3q, eq3⟩ := hQ3
 have N3 := Fr.app N0 N3q
 show Gs p e below _ T3 m 4 #[rv a1, iv p2, iv i0] [(.int i1)]
 refine g_ifNo X3 hx (H d7_4) (feq (by decide : ¬ (i1 = i0))).1 ?_
 refine g_aloadN X3 hx (H d7_7) rfl rfl ?_
 refine g_getF X3 hx hZ hown (tw26 hw) Via.refl eq3 F_value_a1 (H d7_8) fun T4 X4 e4 => ?_
 refine g_iloadN X4 hx (H d7_11) rfl ?_
 refine g_iloadN X4 hx (H d7_12) rfl ?_
 refine g_aloadN X4 hx (H d7_13) rfl rfl ?_
 refine g_virtual X4 hx hZ (rm93L_o l Z a0 hw a1 wb wcs h0 n0 Z0 E_a1 F_value_a1 F_coder_a1 (Arv.arn V_wb) S_COMPACT_STRINGS hcs) hown (tw48 hw) (tw49 hw) (tw51 hw) rfl (tw50 hw) (tw8 hw) (tw52 hw) (by decide) E_a1 3 (by decide) (by decide) (by rw [hml]; rfl) [] [(.int i0), (.int p2), (.ref wb)] (lenOf pd_17 rfl) (Nat.le_of_eq rfl) e4 (by decide) (by decide) rfl rfl (H d7_14) fun v5 T5 Lc5 X5 hQ5 => ?_
 obtain ⟨rfl, N5q, eq5⟩ := hQ5
 have N5 := Fr.app N3 N5q
 show Gs p e below _ T5 m 17 #[rv a1, iv p2, iv i0] [(.int i3), (.int i0), (.int p2), (.ref wb)]
 refine g_static X5 hx hZ (rm113 l Z a0 hw wb p2 v0 v1 v2 kb h0 n0 Z0 V_wb hb0 hb1 hb2 hv0 hv1 hv2 hch) hown (tw58 hw) (tw59 hw) (tw60 hw) (tw61 hw) (by decide) 0 (by decide) (by decide) (by rw [hml]; rfl) [(.ref wb), (.int p2), (.int i0), (.int i3)] [] (lenOf pd_10 rfl) (Nat.le_of_eq rfl) eq5 (by decide) (by decide) rfl rfl (H d7_17) fun v6 T6 Lc6 X6 hQ6 => ?_
 obtain ⟨r0_6, rfl, hp6, N6q, eq6⟩ := hQ6
 have N6 := Fr.app N5 N6q
 show Gs p e below _ T6 m 20 #[rv a1, iv p2, iv i0] [(.int r0_6)]
 refine g_goto X6 hx 36 (H d7_20) (by decide) (by decide) ?_
 exact Go.ret (Q := Qm73L Z a1 p2 wb v0 v1 v2 kb wcs h0 n0) X6 (v := some (.int r0_6)) (fun h => by rw [hret] at h; cases h) hlk (fun fs hr => retOut X6 hx hret rfl (Or.inl ⟨rfl, Or.inl rfl, _, rfl⟩) (H d7_36) hr) eq6 ⟨_, rfl, hp6, N6, rfl⟩ (by decide) (by decide)
def Qm63L (Z : State) (a1 : Addr) (p2 : Int32) (wb : Addr) (v0 : Int32) (v1 : Int32) (v2 : Int32) (kb : ClassId) (wcs : Int32) (h0 : Heap) (n0 : Nat) (v : Option Value) (h : Heap) (L : List Loc) : Prop := ∃ (r0 : Int32), v = some (.int r0) ∧ ((r0 < 0) ↔ (¬ v0 = p2 ∧ ¬ v1 = p2 ∧ ¬ v2 = p2)) ∧ Fr n0 L ∧ h = h0
theorem rm63L (l : Launch) (Z : State) (a0 : Array Value) (hw : Hw a0 Z) (a1 : Addr) (p2 : Int32) (wb : Addr) (v0 : Int32) (v1 : Int32) (v2 : Int32) (kb : ClassId) (wcs : Int32) (h0 : Heap) (n0 : Nat) (Z0 : n0 ≤ h0.size) (E_a1 : Exa Z h0 a1 s0_) (F_value_a1 : Fld Z h0 a1 s0_ "value" "[B" (.ref wb)) (F_coder_a1 : Fld Z h0 a1 s0_ "coder" "B" (.int i0)) (V_wb : Arv Z h0 wb kb .byte i3 [(.int (nar .byte (v0.toInt8.toInt32))), (.int (nar .byte (v1.toInt8.toInt32))), (.int (nar .byte (v2.toInt8.toInt32)))] (.int i0)) (hb0 : 0 ≤ v0.toInt ∧ v0.toInt ≤ 65535) (hb1 : 0 ≤ v1.toInt ∧ v1.toInt ≤ 65535) (hb2 : 0 ≤ v2.toInt ∧ v2.toInt ≤ 65535) (S_COMPACT_STRINGS : Sta Z h0 s0_ s5_ "Z" (.int wcs)) (hcs : ¬ (wcs = i0)) (hv0 : ¬ (i255 < v0)) (hv1 : ¬ (i255 < v1)) (hv2 : ¬ (i255 < v2)) (hch : 0 ≤ p2.toInt ∧ p2.toInt ≤ 127) :
  Met l Z h0 yy28 jdk_42_method_79_code 2 (some .int) (rmk 3 0 0 46) #[(.ref a1), (.int p2)] (Qm63L Z a1 p2 wb v0 v1 v2 kb wcs h0 n0) := by
 refine enter (plainFor_of_name pn_6) (fun m => ef_6 m a1 p2) fun p e s m below meth c s₁ hx hby hml hown hnm hZ X0 e0 hret hlk => ?_
 have N0 := Fr.nil n0; have H := @hb c _ hby
 refine g_aloadN X0 hx (H d6_0) rfl rfl ?_
 refine g_iloadN X0 hx (H d6_1) rfl ?_
 refine g_iconst X0 hx i0 (H d6_2) rfl ?_
 refine g_virtual X0 hx hZ (rm73L l Z a0 hw a1 p2 wb v0 v1 v2 kb wcs h0 n0 Z0 E_a1 F_value_a1 F_coder_a1 V_wb hb0 hb1 hb2 S_COMPACT_STRINGS hcs hv0 hv1 hv2 hch) hown (tw37 hw) (tw38 hw) (tw40 hw) rfl (tw39 hw) (tw8 hw) (tw41 hw) (by decide) E_a1 0 (by decide) (by decide) (by rw [hml]; rfl) [(.int p2), (.int i0)] [] (lenOf pd_9 rfl) (Nat.le_of_eq rfl) e0 (by decide) (by decide) rfl rfl (H d6_3) fun v3 T3 Lc3 X3 hQ3 => ?_
 obtain ⟨r0_3, rfl, hp3, N3q, eq3⟩ := hQ3
 have N3 := Fr.app N0 N3q
 show Gs p e below _ T3 m 6 #[rv a1, iv p2] [(.int r0_3)]
 exact Go.ret (Q := Qm63L Z a1 p2 wb v0 v1 v2 kb wcs h0 n0) X3 (v := some (.int r0_3)) (fun h => by rw [hret] at h; cases h) hlk (fun fs hr => retOut X3 hx hret rfl (Or.inl ⟨rfl, Or.inl rfl, _, rfl⟩) (H d6_6) hr) eq3 ⟨_, rfl, hp3, N3, rfl⟩ (by decide) (by decide)
def Qm53L (Z : State) (a1 : Addr) (wb : Addr) (v0 : Int32) (v1 : Int32) (v2 : Int32) (kb : ClassId) (wcs : Int32) (h0 : Heap) (n0 : Nat) (v : Option Value) (h : Heap) (L : List Loc) : Prop := ∃ (r0 : Int32), v = some (.int r0) ∧ ((r0 = i0 ∧ (¬ v0 = i42 ∧ ¬ v1 = i42 ∧ ¬ v2 = i42) ∧ (¬ v0 = i63 ∧ ¬ v1 = i63 ∧ ¬ v2 = i63)) ∨ (r0 = i1 ∧ ¬ ((¬ v0 = i42 ∧ ¬ v1 = i42 ∧ ¬ v2 = i42) ∧ (¬ v0 = i63 ∧ ¬ v1 = i63 ∧ ¬ v2 = i63)))) ∧ Fr n0 L ∧ h = h0
theorem rm53L (l : Launch) (Z : State) (a0 : Array Value) (hw : Hw a0 Z) (a1 : Addr) (wb : Addr) (v0 : Int32) (v1 : Int32) (v2 : Int32) (kb : ClassId) (wcs : Int32) (h0 : Heap) (n0 : Nat) (Z0 : n0 ≤ h0.size) (E_a1 : Exa Z h0 a1 s0_) (F_value_a1 : Fld Z h0 a1 s0_ "value" "[B" (.ref wb)) (F_coder_a1 : Fld Z h0 a1 s0_ "coder" "B" (.int i0)) (V_wb : Arv Z h0 wb kb .byte i3 [(.int (nar .byte (v0.toInt8.toInt32))), (.int (nar .byte (v1.toInt8.toInt32))), (.int (nar .byte (v2.toInt8.toInt32)))] (.int i0)) (hb0 : 0 ≤ v0.toInt ∧ v0.toInt ≤ 65535) (hb1 : 0 ≤ v1.toInt ∧ v1.toInt ≤ 65535) (hb2 : 0 ≤ v2.toInt ∧ v2.toInt ≤ 65535) (S_COMPACT_STRINGS : Sta Z h0 s0_ s5_ "Z" (.int wcs)) (hcs : ¬ (wcs = i0)) (hv0 : ¬ (i255 < v0)) (hv1 : ¬ (i255 < v1)) (hv2 : ¬ (i255 < v2)) :
  Met l Z h0 yy29 prog_77_method_6_code 1 (some .boolean) (rmk 9 0 0 210) #[(.ref a1)] (Qm53L Z a1 wb v0 v1 v2 kb wcs h0 n0) := by
 refine enter (plainFor_of_name pn_5) (fun m => ef_5 m a1) fun p e s m below meth c s₁ hx hby hml hown hnm hZ X0 e0 hret hlk => ?_
 have N0 := Fr.nil n0; have H := @hb c _ hby
 refine g_aloadN X0 hx (H d5_0) rfl rfl ?_
 refine g_bipush X0 hx i42 (H d5_1) rfl ?_
 refine g_virtual X0 hx hZ (rm63L l Z a0 hw a1 i42 wb v0 v1 v2 kb wcs h0 n0 Z0 E_a1 F_value_a1 F_coder_a1 V_wb hb0 hb1 hb2 S_COMPACT_STRINGS hcs hv0 hv1 hv2 (by decide)) hown (tw32 hw) (tw33 hw) (tw35 hw) rfl (tw34 hw) (tw8 hw) (tw36 hw) (by decide) E_a1 0 (by decide) (by decide) (by rw [hml]; rfl) [(.int i42)] [] (lenOf pd_0 rfl) (Nat.le_of_eq rfl) e0 (by decide) (by decide) rfl rfl (H d5_3) fun v2 T2 Lc2 X2 hQ2 => ?_
 obtain ⟨r0_2, rfl, hp2, N2q, eq2⟩ := hQ2
 have N2 := Fr.app N0 N2q
 show Gs p e below _ T2 m 6 #[rv a1] [(.int r0_2)]
 by_cases hc_33 : r0_2 < i0
 ·skip
  refine g_ifNo X2 hx (H d5_6) (tlt hc_33).2.1 ?_
  refine g_aloadN X2 hx (H d5_9) rfl rfl ?_
  refine g_bipush X2 hx i63 (H d5_10) rfl ?_
  refine g_virtual X2 hx hZ (rm63L l Z a0 hw a1 i63 wb v0 v1 v2 kb wcs h0 n0 Z0 E_a1 F_value_a1 F_coder_a1 V_wb hb0 hb1 hb2 S_COMPACT_STRINGS hcs hv0 hv1 hv2 (by decide)) hown (tw32 hw) (tw33 hw) (tw35 hw) rfl (tw34 hw) (tw8 hw) (tw36 hw) (by decide) E_a1 0 (by decide) (by decide) (by rw [hml]; rfl) [(.int i63)] [] (lenOf pd_0 rfl) (Nat.le_of_eq rfl) eq2 (by decide) (by decide) rfl rfl (H d5_12) fun v3 T3 Lc3 X3 hQ3 => ?_
  obtain ⟨r0_3, rfl, hp3, N3q, eq3⟩ := hQ3
  have N3 := Fr.app N2 N3q
  show Gs p e below _ T3 m 15 #[rv a1] [(.int r0_3)]
  by_cases hc_34 : r0_3 < i0
  ·skip
   refine g_ifYes X3 hx 22 (H d5_15) (tlt hc_34).1 (by decide) (by decide) ?_
   refine g_iconst X3 hx i0 (H d5_22) rfl ?_
   exact Go.ret (Q := Qm53L Z a1 wb v0 v1 v2 kb wcs h0 n0) X3 (v := some (.int i0)) (fun h => by rw [hret] at h; cases h) hlk (fun fs hr => retN X3 hx (t := .boolean) hret (by simp) (H d5_23) hr) eq3 ⟨_, rfl, (Or.inl ⟨rfl, hp2.mp hc_33, hp3.mp hc_34⟩), N3, rfl⟩ (by decide) (by decide)
  ·skip
   refine g_ifNo X3 hx (H d5_15) (flt hc_34).1 ?_
   refine g_iconst X3 hx i1 (H d5_18) rfl ?_
   refine g_goto X3 hx 23 (H d5_19) (by decide) (by decide) ?_
   exact Go.ret (Q := Qm53L Z a1 wb v0 v1 v2 kb wcs h0 n0) X3 (v := some (.int i1)) (fun h => by rw [hret] at h; cases h) hlk (fun fs hr => retN X3 hx (t := .boolean) hret (by simp) (H d5_23) hr) eq3 ⟨_, rfl, (Or.inr ⟨rfl, fun q => hc_34 (hp3.mpr q.2)⟩), N3, rfl⟩ (by decide) (by decide)
 ·skip
  refine g_ifYes X2 hx 18 (H d5_6) (flt hc_33).2.1 (by decide) (by decide) ?_
  refine g_iconst X2 hx i1 (H d5_18) rfl ?_
  refine g_goto X2 hx 23 (H d5_19) (by decide) (by decide) ?_
  exact Go.ret (Q := Qm53L Z a1 wb v0 v1 v2 kb wcs h0 n0) X2 (v := some (.int i1)) (fun h => by rw [hret] at h; cases h) hlk (fun fs hr => retN X2 hx (t := .boolean) hret (by simp) (H d5_23) hr) eq2 ⟨_, rfl, (Or.inr ⟨rfl, fun q => hc_33 (hp2.mpr q.1)⟩), N2, rfl⟩ (by decide) (by decide)
def Qm93U_o (Z : State) (a1 : Addr) (wb : Addr) (wcs : Int32) (h0 : Heap) (n0 : Nat) (v : Option Value) (h : Heap) (L : List Loc) : Prop := v = some (.int i3) ∧ Fr n0 L ∧ h = h0
theorem rm93U_o (l : Launch) (Z : State) (a0 : Array Value) (hw : Hw a0 Z) (a1 : Addr) (wb : Addr) (wcs : Int32) (h0 : Heap) (n0 : Nat) (Z0 : n0 ≤ h0.size) (E_a1 : Exa Z h0 a1 s0_) (F_value_a1 : Fld Z h0 a1 s0_ "value" "[B" (.ref wb)) (F_coder_a1 : Fld Z h0 a1 s0_ "coder" "B" (.int i1)) (V_wb : Arn Z h0 wb .byte i6) (S_COMPACT_STRINGS : Sta Z h0 s0_ s5_ "Z" (.int wcs)) (hcs : ¬ (wcs = i0)) :
  Met l Z h0 yy26 jdk_42_method_54_code 1 (some .int) (rmk 1 0 0 13) #[(.ref a1)] (Qm93U_o Z a1 wb wcs h0 n0) := by
 refine enter (plainFor_of_name pn_9) (fun m => ef_9 m a1) fun p e s m below meth c s₁ hx hby hml hown hnm hZ X0 e0 hret hlk => ?_
 have N0 := Fr.nil n0; have H := @hb c _ hby
 refine g_aloadN X0 hx (H d9_0) rfl rfl ?_
 refine g_getF X0 hx hZ hown (tw26 hw) Via.refl e0 F_value_a1 (H d9_1) fun T2 X2 e2 => ?_
 obtain ⟨clq3, Arq3, saq3, naq3⟩ := id V_wb
 refine g_len X2 hx hZ e2 Arq3 saq3 naq3 (H d9_4) ?_
 refine g_aloadN X2 hx (H d9_5) rfl rfl ?_
 refine g_virtual X2 hx hZ (rm10_f l Z a0 hw a1 wcs i1 h0 n0 Z0 S_COMPACT_STRINGS hcs F_coder_a1) hown (tw53 hw) (tw54 hw) (tw56 hw) rfl (tw55 hw) (tw8 hw) (tw57 hw) (by decide) E_a1 1 (by decide) (by decide) (by rw [hml]; rfl) [] [(.int i6)] (lenOf pd_15 rfl) (Nat.le_of_eq rfl) e2 (by decide) (by decide) rfl rfl (H d9_6) fun v4 T4 Lc4 X4 hQ4 => ?_
 obtain ⟨rfl, N4q, eq4⟩ := hQ4
 have N4 := Fr.app N0 N4q
 show Gs p e below _ T4 m 9 #[rv a1] [(.int (nar .byte i1)), (.int i6)]
 rw [show (nar .byte i1) = i1 from by decide]
 show Gs p e below _ T4 m 9 #[rv a1] [(.int i1), (.int i6)]
 refine g_ishr X4 hx (H d9_9) ?_
 rw [show (i6 >>> (i1 &&& 31)) = i3 from by decide]
 show Gs p e below _ T4 m 10 #[rv a1] [(.int i3)]
 exact Go.ret (Q := Qm93U_o Z a1 wb wcs h0 n0) X4 (v := some (.int i3)) (fun h => by rw [hret] at h; cases h) hlk (fun fs hr => retOut X4 hx hret rfl (Or.inl ⟨rfl, Or.inl rfl, _, rfl⟩) (H d9_10) hr) eq4 ⟨rfl, N4, rfl⟩ (by decide) (by decide)
def Qm73U (Z : State) (a1 : Addr) (p2 : Int32) (wb : Addr) (v0 : Int32) (v1 : Int32) (v2 : Int32) (kb : ClassId) (wcs : Int32) (h0 : Heap) (n0 : Nat) (v : Option Value) (h : Heap) (L : List Loc) : Prop := ∃ (r0 : Int32), v = some (.int r0) ∧ ((r0 < 0) ↔ (¬ v0 = p2 ∧ ¬ v1 = p2 ∧ ¬ v2 = p2)) ∧ Fr n0 L ∧ h = h0
theorem rm73U (l : Launch) (Z : State) (a0 : Array Value) (hw : Hw a0 Z) (a1 : Addr) (p2 : Int32) (wb : Addr) (v0 : Int32) (v1 : Int32) (v2 : Int32) (kb : ClassId) (wcs : Int32) (h0 : Heap) (n0 : Nat) (Z0 : n0 ≤ h0.size) (E_a1 : Exa Z h0 a1 s0_) (F_value_a1 : Fld Z h0 a1 s0_ "value" "[B" (.ref wb)) (F_coder_a1 : Fld Z h0 a1 s0_ "coder" "B" (.int i1)) (V_wb : Arv Z h0 wb kb .byte i6 [(.int (nar .byte ((v0 >>> (i0 &&& 31)).toInt8.toInt32))), (.int (nar .byte ((v0 >>> (i8 &&& 31)).toInt8.toInt32))), (.int (nar .byte ((v1 >>> (i0 &&& 31)).toInt8.toInt32))), (.int (nar .byte ((v1 >>> (i8 &&& 31)).toInt8.toInt32))), (.int (nar .byte ((v2 >>> (i0 &&& 31)).toInt8.toInt32))), (.int (nar .byte ((v2 >>> (i8 &&& 31)).toInt8.toInt32)))] (.int i0)) (hb0 : 0 ≤ v0.toInt ∧ v0.toInt ≤ 65535) (hb1 : 0 ≤ v1.toInt ∧ v1.toInt ≤ 65535) (hb2 : 0 ≤ v2.toInt ∧ v2.toInt ≤ 65535) (S_COMPACT_STRINGS : Sta Z h0 s0_ s5_ "Z" (.int wcs)) (hcs : ¬ (wcs = i0)) (S__assertionsDisabled : Sta Z h0 s1_ s2_ "Z" (.int i1)) (S_HI_BYTE_SHIFT : Sta Z h0 s1_ s3_ "I" (.int i0)) (S_LO_BYTE_SHIFT : Sta Z h0 s1_ s4_ "I" (.int i8)) (hfm : ∃ v : Value, v.isRef = true ∧ Sta Z h0 s6_ s7_ s8_ v) (hch : 0 ≤ p2.toInt ∧ p2.toInt ≤ 127) :
  Met l Z h0 yy27 jdk_42_method_80_code 3 (some .int) (rmk 5 0 0 73) #[(.ref a1), (.int p2), (.int i0)] (Qm73U Z a1 p2 wb v0 v1 v2 kb wcs h0 n0) := by
 refine enter (plainFor_of_name pn_7) (fun m => ef_7 m a1 p2 i0) fun p e s m below meth c s₁ hx hby hml hown hnm hZ X0 e0 hret hlk => ?_
 have N0 := Fr.nil n0; have H := @hb c _ hby
 refine g_aloadN X0 hx (H d7_0) rfl rfl ?_
 refine g_virtual X0 hx hZ (rm8_ff l Z a0 hw a1 wcs i1 h0 n0 Z0 S_COMPACT_STRINGS hcs F_coder_a1 (by decide : ¬ (i1 = i0))) hown (tw42 hw) (tw43 hw) (tw45 hw) rfl (tw44 hw) (tw8 hw) (tw46 hw) (by decide) E_a1 0 (by decide) (by decide) (by rw [hml]; rfl) [] [] (lenOf pd_16 rfl) (Nat.le_of_eq rfl) e0 (by decide) (by decide) rfl rfl (H d7_1) fun v3 T3 Lc3 X3 hQ3 => ?_
 obtain ⟨rfl, N3q, eq3⟩ := hQ3
 have N3 := Fr.app N0 N3q
 show Gs p e below _ T3 m 4 #[rv a1, iv p2, iv i0] [(.int i0)]
 refine g_ifYes X3 hx 23 (H d7_4) (teq (by decide : (i0 = i0))).1 (by decide) (by decide) ?_
 refine g_aloadN X3 hx (H d7_23) rfl rfl ?_
 refine g_getF X3 hx hZ hown (tw26 hw) Via.refl eq3 F_value_a1 (H d7_24) fun T4 X4 e4 => ?_
 refine g_iloadN X4 hx (H d7_27) rfl ?_
 refine g_iloadN X4 hx (H d7_28) rfl ?_
 refine g_aloadN X4 hx (H d7_29) rfl rfl ?_
 refine g_virtual X4 hx hZ (rm93U_o l Z a0 hw a1 wb wcs h0 n0 Z0 E_a1 F_value_a1 F_coder_a1 (Arv.arn V_wb) S_COMPACT_STRINGS hcs) hown (tw48 hw) (tw49 hw) (tw51 hw) rfl (tw50 hw) (tw8 hw) (tw52 hw) (by decide) E_a1 3 (by decide) (by decide) (by rw [hml]; rfl) [] [(.int i0), (.int p2), (.ref wb)] (lenOf pd_17 rfl) (Nat.le_of_eq rfl) e4 (by decide) (by decide) rfl rfl (H d7_30) fun v5 T5 Lc5 X5 hQ5 => ?_
 obtain ⟨rfl, N5q, eq5⟩ := hQ5
 have N5 := Fr.app N3 N5q
 show Gs p e below _ T5 m 33 #[rv a1, iv p2, iv i0] [(.int i3), (.int i0), (.int p2), (.ref wb)]
 refine g_static X5 hx hZ (rm253 l Z a0 hw wb p2 v0 v1 v2 kb h0 n0 Z0 V_wb hb0 hb1 hb2 hch S__assertionsDisabled S_HI_BYTE_SHIFT S_LO_BYTE_SHIFT hfm) hown (tw107 hw) (tw108 hw) (tw74 hw) (tw109 hw) (by decide) 0 (by decide) (by decide) (by rw [hml]; rfl) [(.ref wb), (.int p2), (.int i0), (.int i3)] [] (lenOf pd_10 rfl) (Nat.le_of_eq rfl) eq5 (by decide) (by decide) rfl rfl (H d7_33) fun v6 T6 Lc6 X6 hQ6 => ?_
 obtain ⟨r0_6, rfl, hp6, N6q, eq6⟩ := hQ6
 have N6 := Fr.app N5 N6q
 show Gs p e below _ T6 m 36 #[rv a1, iv p2, iv i0] [(.int r0_6)]
 exact Go.ret (Q := Qm73U Z a1 p2 wb v0 v1 v2 kb wcs h0 n0) X6 (v := some (.int r0_6)) (fun h => by rw [hret] at h; cases h) hlk (fun fs hr => retOut X6 hx hret rfl (Or.inl ⟨rfl, Or.inl rfl, _, rfl⟩) (H d7_36) hr) eq6 ⟨_, rfl, hp6, N6, rfl⟩ (by decide) (by decide)
def Qm63U (Z : State) (a1 : Addr) (p2 : Int32) (wb : Addr) (v0 : Int32) (v1 : Int32) (v2 : Int32) (kb : ClassId) (wcs : Int32) (h0 : Heap) (n0 : Nat) (v : Option Value) (h : Heap) (L : List Loc) : Prop := ∃ (r0 : Int32), v = some (.int r0) ∧ ((r0 < 0) ↔ (¬ v0 = p2 ∧ ¬ v1 = p2 ∧ ¬ v2 = p2)) ∧ Fr n0 L ∧ h = h0
theorem rm63U (l : Launch) (Z : State) (a0 : Array Value) (hw : Hw a0 Z) (a1 : Addr) (p2 : Int32) (wb : Addr) (v0 : Int32) (v1 : Int32) (v2 : Int32) (kb : ClassId) (wcs : Int32) (h0 : Heap) (n0 : Nat) (Z0 : n0 ≤ h0.size) (E_a1 : Exa Z h0 a1 s0_) (F_value_a1 : Fld Z h0 a1 s0_ "value" "[B" (.ref wb)) (F_coder_a1 : Fld Z h0 a1 s0_ "coder" "B" (.int i1)) (V_wb : Arv Z h0 wb kb .byte i6 [(.int (nar .byte ((v0 >>> (i0 &&& 31)).toInt8.toInt32))), (.int (nar .byte ((v0 >>> (i8 &&& 31)).toInt8.toInt32))), (.int (nar .byte ((v1 >>> (i0 &&& 31)).toInt8.toInt32))), (.int (nar .byte ((v1 >>> (i8 &&& 31)).toInt8.toInt32))), (.int (nar .byte ((v2 >>> (i0 &&& 31)).toInt8.toInt32))), (.int (nar .byte ((v2 >>> (i8 &&& 31)).toInt8.toInt32)))] (.int i0)) (hb0 : 0 ≤ v0.toInt ∧ v0.toInt ≤ 65535) (hb1 : 0 ≤ v1.toInt ∧ v1.toInt ≤ 65535) (hb2 : 0 ≤ v2.toInt ∧ v2.toInt ≤ 65535) (S_COMPACT_STRINGS : Sta Z h0 s0_ s5_ "Z" (.int wcs)) (hcs : ¬ (wcs = i0)) (S__assertionsDisabled : Sta Z h0 s1_ s2_ "Z" (.int i1)) (S_HI_BYTE_SHIFT : Sta Z h0 s1_ s3_ "I" (.int i0)) (S_LO_BYTE_SHIFT : Sta Z h0 s1_ s4_ "I" (.int i8)) (hfm : ∃ v : Value, v.isRef = true ∧ Sta Z h0 s6_ s7_ s8_ v) (hch : 0 ≤ p2.toInt ∧ p2.toInt ≤ 127) :
  Met l Z h0 yy28 jdk_42_method_79_code 2 (some .int) (rmk 6 0 0 87) #[(.ref a1), (.int p2)] (Qm63U Z a1 p2 wb v0 v1 v2 kb wcs h0 n0) := by
 refine enter (plainFor_of_name pn_6) (fun m => ef_6 m a1 p2) fun p e s m below meth c s₁ hx hby hml hown hnm hZ X0 e0 hret hlk => ?_
 have N0 := Fr.nil n0; have H := @hb c _ hby
 refine g_aloadN X0 hx (H d6_0) rfl rfl ?_
 refine g_iloadN X0 hx (H d6_1) rfl ?_
 refine g_iconst X0 hx i0 (H d6_2) rfl ?_
 refine g_virtual X0 hx hZ (rm73U l Z a0 hw a1 p2 wb v0 v1 v2 kb wcs h0 n0 Z0 E_a1 F_value_a1 F_coder_a1 V_wb hb0 hb1 hb2 S_COMPACT_STRINGS hcs S__assertionsDisabled S_HI_BYTE_SHIFT S_LO_BYTE_SHIFT hfm hch) hown (tw37 hw) (tw38 hw) (tw40 hw) rfl (tw39 hw) (tw8 hw) (tw41 hw) (by decide) E_a1 0 (by decide) (by decide) (by rw [hml]; rfl) [(.int p2), (.int i0)] [] (lenOf pd_9 rfl) (Nat.le_of_eq rfl) e0 (by decide) (by decide) rfl rfl (H d6_3) fun v3 T3 Lc3 X3 hQ3 => ?_
 obtain ⟨r0_3, rfl, hp3, N3q, eq3⟩ := hQ3
 have N3 := Fr.app N0 N3q
 show Gs p e below _ T3 m 6 #[rv a1, iv p2] [(.int r0_3)]
 exact Go.ret (Q := Qm63U Z a1 p2 wb v0 v1 v2 kb wcs h0 n0) X3 (v := some (.int r0_3)) (fun h => by rw [hret] at h; cases h) hlk (fun fs hr => retOut X3 hx hret rfl (Or.inl ⟨rfl, Or.inl rfl, _, rfl⟩) (H d6_6) hr) eq3 ⟨_, rfl, hp3, N3, rfl⟩ (by decide) (by decide)
def Qm53U (Z : State) (a1 : Addr) (wb : Addr) (v0 : Int32) (v1 : Int32) (v2 : Int32) (kb : ClassId) (wcs : Int32) (h0 : Heap) (n0 : Nat) (v : Option Value) (h : Heap) (L : List Loc) : Prop := ∃ (r0 : Int32), v = some (.int r0) ∧ ((r0 = i0 ∧ (¬ v0 = i42 ∧ ¬ v1 = i42 ∧ ¬ v2 = i42) ∧ (¬ v0 = i63 ∧ ¬ v1 = i63 ∧ ¬ v2 = i63)) ∨ (r0 = i1 ∧ ¬ ((¬ v0 = i42 ∧ ¬ v1 = i42 ∧ ¬ v2 = i42) ∧ (¬ v0 = i63 ∧ ¬ v1 = i63 ∧ ¬ v2 = i63)))) ∧ Fr n0 L ∧ h = h0
theorem rm53U (l : Launch) (Z : State) (a0 : Array Value) (hw : Hw a0 Z) (a1 : Addr) (wb : Addr) (v0 : Int32) (v1 : Int32) (v2 : Int32) (kb : ClassId) (wcs : Int32) (h0 : Heap) (n0 : Nat) (Z0 : n0 ≤ h0.size) (E_a1 : Exa Z h0 a1 s0_) (F_value_a1 : Fld Z h0 a1 s0_ "value" "[B" (.ref wb)) (F_coder_a1 : Fld Z h0 a1 s0_ "coder" "B" (.int i1)) (V_wb : Arv Z h0 wb kb .byte i6 [(.int (nar .byte ((v0 >>> (i0 &&& 31)).toInt8.toInt32))), (.int (nar .byte ((v0 >>> (i8 &&& 31)).toInt8.toInt32))), (.int (nar .byte ((v1 >>> (i0 &&& 31)).toInt8.toInt32))), (.int (nar .byte ((v1 >>> (i8 &&& 31)).toInt8.toInt32))), (.int (nar .byte ((v2 >>> (i0 &&& 31)).toInt8.toInt32))), (.int (nar .byte ((v2 >>> (i8 &&& 31)).toInt8.toInt32)))] (.int i0)) (hb0 : 0 ≤ v0.toInt ∧ v0.toInt ≤ 65535) (hb1 : 0 ≤ v1.toInt ∧ v1.toInt ≤ 65535) (hb2 : 0 ≤ v2.toInt ∧ v2.toInt ≤ 65535) (S_COMPACT_STRINGS : Sta Z h0 s0_ s5_ "Z" (.int wcs)) (hcs : ¬ (wcs = i0)) (S__assertionsDisabled : Sta Z h0 s1_ s2_ "Z" (.int i1)) (S_HI_BYTE_SHIFT : Sta Z h0 s1_ s3_ "I" (.int i0)) (S_LO_BYTE_SHIFT : Sta Z h0 s1_ s4_ "I" (.int i8)) (hfm : ∃ v : Value, v.isRef = true ∧ Sta Z h0 s6_ s7_ s8_ v) :
  Met l Z h0 yy29 prog_77_method_6_code 1 (some .boolean) (rmk 9 0 0 210) #[(.ref a1)] (Qm53U Z a1 wb v0 v1 v2 kb wcs h0 n0) := by
 refine enter (plainFor_of_name pn_5) (fun m => ef_5 m a1) fun p e s m below meth c s₁ hx hby hml hown hnm hZ X0 e0 hret hlk => ?_
 have N0 := Fr.nil n0; have H := @hb c _ hby
 refine g_aloadN X0 hx (H d5_0) rfl rfl ?_
 refine g_bipush X0 hx i42 (H d5_1) rfl ?_
 refine g_virtual X0 hx hZ (rm63U l Z a0 hw a1 i42 wb v0 v1 v2 kb wcs h0 n0 Z0 E_a1 F_value_a1 F_coder_a1 V_wb hb0 hb1 hb2 S_COMPACT_STRINGS hcs S__assertionsDisabled S_HI_BYTE_SHIFT S_LO_BYTE_SHIFT hfm (by decide)) hown (tw32 hw) (tw33 hw) (tw35 hw) rfl (tw34 hw) (tw8 hw) (tw36 hw) (by decide) E_a1 0 (by decide) (by decide) (by rw [hml]; rfl) [(.int i42)] [] (lenOf pd_0 rfl) (Nat.le_of_eq rfl) e0 (by decide) (by decide) rfl rfl (H d5_3) fun v2 T2 Lc2 X2 hQ2 => ?_
 obtain ⟨r0_2, rfl, hp2, N2q, eq2⟩ := hQ2
 have N2 := Fr.app N0 N2q
 show Gs p e below _ T2 m 6 #[rv a1] [(.int r0_2)]
 by_cases hc_35 : r0_2 < i0
 ·skip
  refine g_ifNo X2 hx (H d5_6) (tlt hc_35).2.1 ?_
  refine g_aloadN X2 hx (H d5_9) rfl rfl ?_
  refine g_bipush X2 hx i63 (H d5_10) rfl ?_
  refine g_virtual X2 hx hZ (rm63U l Z a0 hw a1 i63 wb v0 v1 v2 kb wcs h0 n0 Z0 E_a1 F_value_a1 F_coder_a1 V_wb hb0 hb1 hb2 S_COMPACT_STRINGS hcs S__assertionsDisabled S_HI_BYTE_SHIFT S_LO_BYTE_SHIFT hfm (by decide)) hown (tw32 hw) (tw33 hw) (tw35 hw) rfl (tw34 hw) (tw8 hw) (tw36 hw) (by decide) E_a1 0 (by decide) (by decide) (by rw [hml]; rfl) [(.int i63)] [] (lenOf pd_0 rfl) (Nat.le_of_eq rfl) eq2 (by decide) (by decide) rfl rfl (H d5_12) fun v3 T3 Lc3 X3 hQ3 => ?_
  obtain ⟨r0_3, rfl, hp3, N3q, eq3⟩ := hQ3
  have N3 := Fr.app N2 N3q
  show Gs p e below _ T3 m 15 #[rv a1] [(.int r0_3)]
  by_cases hc_36 : r0_3 < i0
  ·skip
   refine g_ifYes X3 hx 22 (H d5_15) (tlt hc_36).1 (by decide) (by decide) ?_
   refine g_iconst X3 hx i0 (H d5_22) rfl ?_
   exact Go.ret (Q := Qm53U Z a1 wb v0 v1 v2 kb wcs h0 n0) X3 (v := some (.int i0)) (fun h => by rw [hret] at h; cases h) hlk (fun fs hr => retN X3 hx (t := .boolean) hret (by simp) (H d5_23) hr) eq3 ⟨_, rfl, (Or.inl ⟨rfl, hp2.mp hc_35, hp3.mp hc_36⟩), N3, rfl⟩ (by decide) (by decide)
  ·skip
   refine g_ifNo X3 hx (H d5_15) (flt hc_36).1 ?_
   refine g_iconst X3 hx i1 (H d5_18) rfl ?_
   refine g_goto X3 hx 23 (H d5_19) (by decide) (by decide) ?_
   exact Go.ret (Q := Qm53U Z a1 wb v0 v1 v2 kb wcs h0 n0) X3 (v := some (.int i1)) (fun h => by rw [hret] at h; cases h) hlk (fun fs hr => retN X3 hx (t := .boolean) hret (by simp) (H d5_23) hr) eq3 ⟨_, rfl, (Or.inr ⟨rfl, fun q => hc_36 (hp3.mpr q.2)⟩), N3, rfl⟩ (by decide) (by decide)
 ·skip
  refine g_ifYes X2 hx 18 (H d5_6) (flt hc_35).2.1 (by decide) (by decide) ?_
  refine g_iconst X2 hx i1 (H d5_18) rfl ?_
  refine g_goto X2 hx 23 (H d5_19) (by decide) (by decide) ?_
  exact Go.ret (Q := Qm53U Z a1 wb v0 v1 v2 kb wcs h0 n0) X2 (v := some (.int i1)) (fun h => by rw [hret] at h; cases h) hlk (fun fs hr => retN X2 hx (t := .boolean) hret (by simp) (H d5_23) hr) eq2 ⟨_, rfl, (Or.inr ⟨rfl, fun q => hc_35 (hp2.mpr q.1)⟩), N2, rfl⟩ (by decide) (by decide)
def Qm94L_o (Z : State) (a1 : Addr) (wb : Addr) (wcs : Int32) (h0 : Heap) (n0 : Nat) (v : Option Value) (h : Heap) (L : List Loc) : Prop := v = some (.int i4) ∧ Fr n0 L ∧ h = h0
theorem rm94L_o (l : Launch) (Z : State) (a0 : Array Value) (hw : Hw a0 Z) (a1 : Addr) (wb : Addr) (wcs : Int32) (h0 : Heap) (n0 : Nat) (Z0 : n0 ≤ h0.size) (E_a1 : Exa Z h0 a1 s0_) (F_value_a1 : Fld Z h0 a1 s0_ "value" "[B" (.ref wb)) (F_coder_a1 : Fld Z h0 a1 s0_ "coder" "B" (.int i0)) (V_wb : Arn Z h0 wb .byte i4) (S_COMPACT_STRINGS : Sta Z h0 s0_ s5_ "Z" (.int wcs)) (hcs : ¬ (wcs = i0)) :
  Met l Z h0 yy26 jdk_42_method_54_code 1 (some .int) (rmk 1 0 0 13) #[(.ref a1)] (Qm94L_o Z a1 wb wcs h0 n0) := by
 refine enter (plainFor_of_name pn_9) (fun m => ef_9 m a1) fun p e s m below meth c s₁ hx hby hml hown hnm hZ X0 e0 hret hlk => ?_
 have N0 := Fr.nil n0; have H := @hb c _ hby
 refine g_aloadN X0 hx (H d9_0) rfl rfl ?_
 refine g_getF X0 hx hZ hown (tw26 hw) Via.refl e0 F_value_a1 (H d9_1) fun T2 X2 e2 => ?_
 obtain ⟨clq3, Arq3, saq3, naq3⟩ := id V_wb
 refine g_len X2 hx hZ e2 Arq3 saq3 naq3 (H d9_4) ?_
 refine g_aloadN X2 hx (H d9_5) rfl rfl ?_
 refine g_virtual X2 hx hZ (rm10_f l Z a0 hw a1 wcs i0 h0 n0 Z0 S_COMPACT_STRINGS hcs F_coder_a1) hown (tw53 hw) (tw54 hw) (tw56 hw) rfl (tw55 hw) (tw8 hw) (tw57 hw) (by decide) E_a1 1 (by decide) (by decide) (by rw [hml]; rfl) [] [(.int i4)] (lenOf pd_15 rfl) (Nat.le_of_eq rfl) e2 (by decide) (by decide) rfl rfl (H d9_6) fun v4 T4 Lc4 X4 hQ4 => ?_
 obtain ⟨rfl, N4q, eq4⟩ := hQ4
 have N4 := Fr.app N0 N4q
 show Gs p e below _ T4 m 9 #[rv a1] [(.int (nar .byte i0)), (.int i4)]
 rw [show (nar .byte i0) = i0 from by decide]
 show Gs p e below _ T4 m 9 #[rv a1] [(.int i0), (.int i4)]
 refine g_ishr X4 hx (H d9_9) ?_
 rw [show (i4 >>> (i0 &&& 31)) = i4 from by decide]
 show Gs p e below _ T4 m 10 #[rv a1] [(.int i4)]
 exact Go.ret (Q := Qm94L_o Z a1 wb wcs h0 n0) X4 (v := some (.int i4)) (fun h => by rw [hret] at h; cases h) hlk (fun fs hr => retOut X4 hx hret rfl (Or.inl ⟨rfl, Or.inl rfl, _, rfl⟩) (H d9_10) hr) eq4 ⟨rfl, N4, rfl⟩ (by decide) (by decide)
def Qm74L (Z : State) (a1 : Addr) (p2 : Int32) (wb : Addr) (v0 : Int32) (v1 : Int32) (v2 : Int32) (v3 : Int32) (kb : ClassId) (wcs : Int32) (h0 : Heap) (n0 : Nat) (v : Option Value) (h : Heap) (L : List Loc) : Prop := ∃ (r0 : Int32), v = some (.int r0) ∧ ((r0 < 0) ↔ (¬ v0 = p2 ∧ ¬ v1 = p2 ∧ ¬ v2 = p2 ∧ ¬ v3 = p2)) ∧ Fr n0 L ∧ h = h0
theorem rm74L (l : Launch) (Z : State) (a0 : Array Value) (hw : Hw a0 Z) (a1 : Addr) (p2 : Int32) (wb : Addr) (v0 : Int32) (v1 : Int32) (v2 : Int32) (v3 : Int32) (kb : ClassId) (wcs : Int32) (h0 : Heap) (n0 : Nat) (Z0 : n0 ≤ h0.size) (E_a1 : Exa Z h0 a1 s0_) (F_value_a1 : Fld Z h0 a1 s0_ "value" "[B" (.ref wb)) (F_coder_a1 : Fld Z h0 a1 s0_ "coder" "B" (.int i0)) (V_wb : Arv Z h0 wb kb .byte i4 [(.int (nar .byte (v0.toInt8.toInt32))), (.int (nar .byte (v1.toInt8.toInt32))), (.int (nar .byte (v2.toInt8.toInt32))), (.int (nar .byte (v3.toInt8.toInt32)))] (.int i0)) (hb0 : 0 ≤ v0.toInt ∧ v0.toInt ≤ 65535) (hb1 : 0 ≤ v1.toInt ∧ v1.toInt ≤ 65535) (hb2 : 0 ≤ v2.toInt ∧ v2.toInt ≤ 65535) (hb3 : 0 ≤ v3.toInt ∧ v3.toInt ≤ 65535) (S_COMPACT_STRINGS : Sta Z h0 s0_ s5_ "Z" (.int wcs)) (hcs : ¬ (wcs = i0)) (hv0 : ¬ (i255 < v0)) (hv1 : ¬ (i255 < v1)) (hv2 : ¬ (i255 < v2)) (hv3 : ¬ (i255 < v3)) (hch : 0 ≤ p2.toInt ∧ p2.toInt ≤ 127) :
  Met l Z h0 yy27 jdk_42_method_80_code 3 (some .int) (rmk 2 0 0 32) #[(.ref a1), (.int p2), (.int i0)] (Qm74L Z a1 p2 wb v0 v1 v2 v3 kb wcs h0 n0) := by
 refine enter (plainFor_of_name pn_7) (fun m => ef_7 m a1 p2 i0) fun p e s m below meth c s₁ hx hby hml hown hnm hZ X0 e0 hret hlk => ?_
 have N0 := Fr.nil n0; have H := @hb c _ hby
 refine g_aloadN X0 hx (H d7_0) rfl rfl ?_
 refine g_virtual X0 hx hZ (rm8_ft l Z a0 hw a1 wcs i0 h0 n0 Z0 S_COMPACT_STRINGS hcs F_coder_a1 (by decide : (i0 = i0))) hown (tw42 hw) (tw43 hw) (tw45 hw) rfl (tw44 hw) (tw8 hw) (tw46 hw) (by decide) E_a1 0 (by decide) (by decide) (by rw [hml]; rfl) [] [] (lenOf pd_16 rfl) (Nat.le_of_eq rfl) e0 (by decide) (by decide) rfl rfl (H d7_1) fun v3 T3 Lc3 X3 hQ3 => ?_
 obtain ⟨rfl, N3q, eq3⟩ := hQ3
 have N3 := Fr.app N0 N3q
 show Gs p e below _ T3 m 4 #[rv a1, iv p2, iv i0] [(.int i1)]
 refine g_ifNo X3 hx (H d7_4) (feq (by decide : ¬ (i1 = i0))).1 ?_
 refine g_aloadN X3 hx (H d7_7) rfl rfl ?_
 refine g_getF X3 hx hZ hown (tw26 hw) Via.refl eq3 F_value_a1 (H d7_8) fun T4 X4 e4 => ?_
 refine g_iloadN X4 hx (H d7_11) rfl ?_
 refine g_iloadN X4 hx (H d7_12) rfl ?_
 refine g_aloadN X4 hx (H d7_13) rfl rfl ?_
 refine g_virtual X4 hx hZ (rm94L_o l Z a0 hw a1 wb wcs h0 n0 Z0 E_a1 F_value_a1 F_coder_a1 (Arv.arn V_wb) S_COMPACT_STRINGS hcs) hown (tw48 hw) (tw49 hw) (tw51 hw) rfl (tw50 hw) (tw8 hw) (tw52 hw) (by decide) E_a1 3 (by decide) (by decide) (by rw [hml]; rfl) [] [(.int i0), (.int p2), (.ref wb)] (lenOf pd_17 rfl) (Nat.le_of_eq rfl) e4 (by decide) (by decide) rfl rfl (H d7_14) fun v5 T5 Lc5 X5 hQ5 => ?_
 obtain ⟨rfl, N5q, eq5⟩ := hQ5
 have N5 := Fr.app N3 N5q
 show Gs p e below _ T5 m 17 #[rv a1, iv p2, iv i0] [(.int i4), (.int i0), (.int p2), (.ref wb)]
 refine g_static X5 hx hZ (rm114 l Z a0 hw wb p2 v0 v1 v2 v3 kb h0 n0 Z0 V_wb hb0 hb1 hb2 hb3 hv0 hv1 hv2 hv3 hch) hown (tw58 hw) (tw59 hw) (tw60 hw) (tw61 hw) (by decide) 0 (by decide) (by decide) (by rw [hml]; rfl) [(.ref wb), (.int p2), (.int i0), (.int i4)] [] (lenOf pd_10 rfl) (Nat.le_of_eq rfl) eq5 (by decide) (by decide) rfl rfl (H d7_17) fun v6 T6 Lc6 X6 hQ6 => ?_
 obtain ⟨r0_6, rfl, hp6, N6q, eq6⟩ := hQ6
 have N6 := Fr.app N5 N6q
 show Gs p e below _ T6 m 20 #[rv a1, iv p2, iv i0] [(.int r0_6)]
 refine g_goto X6 hx 36 (H d7_20) (by decide) (by decide) ?_
 exact Go.ret (Q := Qm74L Z a1 p2 wb v0 v1 v2 v3 kb wcs h0 n0) X6 (v := some (.int r0_6)) (fun h => by rw [hret] at h; cases h) hlk (fun fs hr => retOut X6 hx hret rfl (Or.inl ⟨rfl, Or.inl rfl, _, rfl⟩) (H d7_36) hr) eq6 ⟨_, rfl, hp6, N6, rfl⟩ (by decide) (by decide)
def Qm64L (Z : State) (a1 : Addr) (p2 : Int32) (wb : Addr) (v0 : Int32) (v1 : Int32) (v2 : Int32) (v3 : Int32) (kb : ClassId) (wcs : Int32) (h0 : Heap) (n0 : Nat) (v : Option Value) (h : Heap) (L : List Loc) : Prop := ∃ (r0 : Int32), v = some (.int r0) ∧ ((r0 < 0) ↔ (¬ v0 = p2 ∧ ¬ v1 = p2 ∧ ¬ v2 = p2 ∧ ¬ v3 = p2)) ∧ Fr n0 L ∧ h = h0
theorem rm64L (l : Launch) (Z : State) (a0 : Array Value) (hw : Hw a0 Z) (a1 : Addr) (p2 : Int32) (wb : Addr) (v0 : Int32) (v1 : Int32) (v2 : Int32) (v3 : Int32) (kb : ClassId) (wcs : Int32) (h0 : Heap) (n0 : Nat) (Z0 : n0 ≤ h0.size) (E_a1 : Exa Z h0 a1 s0_) (F_value_a1 : Fld Z h0 a1 s0_ "value" "[B" (.ref wb)) (F_coder_a1 : Fld Z h0 a1 s0_ "coder" "B" (.int i0)) (V_wb : Arv Z h0 wb kb .byte i4 [(.int (nar .byte (v0.toInt8.toInt32))), (.int (nar .byte (v1.toInt8.toInt32))), (.int (nar .byte (v2.toInt8.toInt32))), (.int (nar .byte (v3.toInt8.toInt32)))] (.int i0)) (hb0 : 0 ≤ v0.toInt ∧ v0.toInt ≤ 65535) (hb1 : 0 ≤ v1.toInt ∧ v1.toInt ≤ 65535) (hb2 : 0 ≤ v2.toInt ∧ v2.toInt ≤ 65535) (hb3 : 0 ≤ v3.toInt ∧ v3.toInt ≤ 65535) (S_COMPACT_STRINGS : Sta Z h0 s0_ s5_ "Z" (.int wcs)) (hcs : ¬ (wcs = i0)) (hv0 : ¬ (i255 < v0)) (hv1 : ¬ (i255 < v1)) (hv2 : ¬ (i255 < v2)) (hv3 : ¬ (i255 < v3)) (hch : 0 ≤ p2.toInt ∧ p2.toInt ≤ 127) :
  Met l Z h0 yy28 jdk_42_method_79_code 2 (some .int) (rmk 3 0 0 46) #[(.ref a1), (.int p2)] (Qm64L Z a1 p2 wb v0 v1 v2 v3 kb wcs h0 n0) := by
 refine enter (plainFor_of_name pn_6) (fun m => ef_6 m a1 p2) fun p e s m below meth c s₁ hx hby hml hown hnm hZ X0 e0 hret hlk => ?_
 have N0 := Fr.nil n0; have H := @hb c _ hby
 refine g_aloadN X0 hx (H d6_0) rfl rfl ?_
 refine g_iloadN X0 hx (H d6_1) rfl ?_
 refine g_iconst X0 hx i0 (H d6_2) rfl ?_
 refine g_virtual X0 hx hZ (rm74L l Z a0 hw a1 p2 wb v0 v1 v2 v3 kb wcs h0 n0 Z0 E_a1 F_value_a1 F_coder_a1 V_wb hb0 hb1 hb2 hb3 S_COMPACT_STRINGS hcs hv0 hv1 hv2 hv3 hch) hown (tw37 hw) (tw38 hw) (tw40 hw) rfl (tw39 hw) (tw8 hw) (tw41 hw) (by decide) E_a1 0 (by decide) (by decide) (by rw [hml]; rfl) [(.int p2), (.int i0)] [] (lenOf pd_9 rfl) (Nat.le_of_eq rfl) e0 (by decide) (by decide) rfl rfl (H d6_3) fun v3 T3 Lc3 X3 hQ3 => ?_
 obtain ⟨r0_3, rfl, hp3, N3q, eq3⟩ := hQ3
 have N3 := Fr.app N0 N3q
 show Gs p e below _ T3 m 6 #[rv a1, iv p2] [(.int r0_3)]
 exact Go.ret (Q := Qm64L Z a1 p2 wb v0 v1 v2 v3 kb wcs h0 n0) X3 (v := some (.int r0_3)) (fun h => by rw [hret] at h; cases h) hlk (fun fs hr => retOut X3 hx hret rfl (Or.inl ⟨rfl, Or.inl rfl, _, rfl⟩) (H d6_6) hr) eq3 ⟨_, rfl, hp3, N3, rfl⟩ (by decide) (by decide)
def Qm54L (Z : State) (a1 : Addr) (wb : Addr) (v0 : Int32) (v1 : Int32) (v2 : Int32) (v3 : Int32) (kb : ClassId) (wcs : Int32) (h0 : Heap) (n0 : Nat) (v : Option Value) (h : Heap) (L : List Loc) : Prop := ∃ (r0 : Int32), v = some (.int r0) ∧ ((r0 = i0 ∧ (¬ v0 = i42 ∧ ¬ v1 = i42 ∧ ¬ v2 = i42 ∧ ¬ v3 = i42) ∧ (¬ v0 = i63 ∧ ¬ v1 = i63 ∧ ¬ v2 = i63 ∧ ¬ v3 = i63)) ∨ (r0 = i1 ∧ ¬ ((¬ v0 = i42 ∧ ¬ v1 = i42 ∧ ¬ v2 = i42 ∧ ¬ v3 = i42) ∧ (¬ v0 = i63 ∧ ¬ v1 = i63 ∧ ¬ v2 = i63 ∧ ¬ v3 = i63)))) ∧ Fr n0 L ∧ h = h0
theorem rm54L (l : Launch) (Z : State) (a0 : Array Value) (hw : Hw a0 Z) (a1 : Addr) (wb : Addr) (v0 : Int32) (v1 : Int32) (v2 : Int32) (v3 : Int32) (kb : ClassId) (wcs : Int32) (h0 : Heap) (n0 : Nat) (Z0 : n0 ≤ h0.size) (E_a1 : Exa Z h0 a1 s0_) (F_value_a1 : Fld Z h0 a1 s0_ "value" "[B" (.ref wb)) (F_coder_a1 : Fld Z h0 a1 s0_ "coder" "B" (.int i0)) (V_wb : Arv Z h0 wb kb .byte i4 [(.int (nar .byte (v0.toInt8.toInt32))), (.int (nar .byte (v1.toInt8.toInt32))), (.int (nar .byte (v2.toInt8.toInt32))), (.int (nar .byte (v3.toInt8.toInt32)))] (.int i0)) (hb0 : 0 ≤ v0.toInt ∧ v0.toInt ≤ 65535) (hb1 : 0 ≤ v1.toInt ∧ v1.toInt ≤ 65535) (hb2 : 0 ≤ v2.toInt ∧ v2.toInt ≤ 65535) (hb3 : 0 ≤ v3.toInt ∧ v3.toInt ≤ 65535) (S_COMPACT_STRINGS : Sta Z h0 s0_ s5_ "Z" (.int wcs)) (hcs : ¬ (wcs = i0)) (hv0 : ¬ (i255 < v0)) (hv1 : ¬ (i255 < v1)) (hv2 : ¬ (i255 < v2)) (hv3 : ¬ (i255 < v3)) :
  Met l Z h0 yy29 prog_77_method_6_code 1 (some .boolean) (rmk 9 0 0 210) #[(.ref a1)] (Qm54L Z a1 wb v0 v1 v2 v3 kb wcs h0 n0) := by
 refine enter (plainFor_of_name pn_5) (fun m => ef_5 m a1) fun p e s m below meth c s₁ hx hby hml hown hnm hZ X0 e0 hret hlk => ?_
 have N0 := Fr.nil n0; have H := @hb c _ hby
 refine g_aloadN X0 hx (H d5_0) rfl rfl ?_
 refine g_bipush X0 hx i42 (H d5_1) rfl ?_
 refine g_virtual X0 hx hZ (rm64L l Z a0 hw a1 i42 wb v0 v1 v2 v3 kb wcs h0 n0 Z0 E_a1 F_value_a1 F_coder_a1 V_wb hb0 hb1 hb2 hb3 S_COMPACT_STRINGS hcs hv0 hv1 hv2 hv3 (by decide)) hown (tw32 hw) (tw33 hw) (tw35 hw) rfl (tw34 hw) (tw8 hw) (tw36 hw) (by decide) E_a1 0 (by decide) (by decide) (by rw [hml]; rfl) [(.int i42)] [] (lenOf pd_0 rfl) (Nat.le_of_eq rfl) e0 (by decide) (by decide) rfl rfl (H d5_3) fun v2 T2 Lc2 X2 hQ2 => ?_
 obtain ⟨r0_2, rfl, hp2, N2q, eq2⟩ := hQ2
 have N2 := Fr.app N0 N2q
 show Gs p e below _ T2 m 6 #[rv a1] [(.int r0_2)]
 by_cases hc_37 : r0_2 < i0
 ·skip
  refine g_ifNo X2 hx (H d5_6) (tlt hc_37).2.1 ?_
  refine g_aloadN X2 hx (H d5_9) rfl rfl ?_
  refine g_bipush X2 hx i63 (H d5_10) rfl ?_
  refine g_virtual X2 hx hZ (rm64L l Z a0 hw a1 i63 wb v0 v1 v2 v3 kb wcs h0 n0 Z0 E_a1 F_value_a1 F_coder_a1 V_wb hb0 hb1 hb2 hb3 S_COMPACT_STRINGS hcs hv0 hv1 hv2 hv3 (by decide)) hown (tw32 hw) (tw33 hw) (tw35 hw) rfl (tw34 hw) (tw8 hw) (tw36 hw) (by decide) E_a1 0 (by decide) (by decide) (by rw [hml]; rfl) [(.int i63)] [] (lenOf pd_0 rfl) (Nat.le_of_eq rfl) eq2 (by decide) (by decide) rfl rfl (H d5_12) fun v3 T3 Lc3 X3 hQ3 => ?_
  obtain ⟨r0_3, rfl, hp3, N3q, eq3⟩ := hQ3
  have N3 := Fr.app N2 N3q
  show Gs p e below _ T3 m 15 #[rv a1] [(.int r0_3)]
  by_cases hc_38 : r0_3 < i0
  ·skip
   refine g_ifYes X3 hx 22 (H d5_15) (tlt hc_38).1 (by decide) (by decide) ?_
   refine g_iconst X3 hx i0 (H d5_22) rfl ?_
   exact Go.ret (Q := Qm54L Z a1 wb v0 v1 v2 v3 kb wcs h0 n0) X3 (v := some (.int i0)) (fun h => by rw [hret] at h; cases h) hlk (fun fs hr => retN X3 hx (t := .boolean) hret (by simp) (H d5_23) hr) eq3 ⟨_, rfl, (Or.inl ⟨rfl, hp2.mp hc_37, hp3.mp hc_38⟩), N3, rfl⟩ (by decide) (by decide)
  ·skip
   refine g_ifNo X3 hx (H d5_15) (flt hc_38).1 ?_
   refine g_iconst X3 hx i1 (H d5_18) rfl ?_
   refine g_goto X3 hx 23 (H d5_19) (by decide) (by decide) ?_
   exact Go.ret (Q := Qm54L Z a1 wb v0 v1 v2 v3 kb wcs h0 n0) X3 (v := some (.int i1)) (fun h => by rw [hret] at h; cases h) hlk (fun fs hr => retN X3 hx (t := .boolean) hret (by simp) (H d5_23) hr) eq3 ⟨_, rfl, (Or.inr ⟨rfl, fun q => hc_38 (hp3.mpr q.2)⟩), N3, rfl⟩ (by decide) (by decide)
 ·skip
  refine g_ifYes X2 hx 18 (H d5_6) (flt hc_37).2.1 (by decide) (by decide) ?_
  refine g_iconst X2 hx i1 (H d5_18) rfl ?_
  refine g_goto X2 hx 23 (H d5_19) (by decide) (by decide) ?_
  exact Go.ret (Q := Qm54L Z a1 wb v0 v1 v2 v3 kb wcs h0 n0) X2 (v := some (.int i1)) (fun h => by rw [hret] at h; cases h) hlk (fun fs hr => retN X2 hx (t := .boolean) hret (by simp) (H d5_23) hr) eq2 ⟨_, rfl, (Or.inr ⟨rfl, fun q => hc_37 (hp2.mpr q.1)⟩), N2, rfl⟩ (by decide) (by decide)
def Qm94U_o (Z : State) (a1 : Addr) (wb : Addr) (wcs : Int32) (h0 : Heap) (n0 : Nat) (v : Option Value) (h : Heap) (L : List Loc) : Prop := v = some (.int i4) ∧ Fr n0 L ∧ h = h0
theorem rm94U_o (l : Launch) (Z : State) (a0 : Array Value) (hw : Hw a0 Z) (a1 : Addr) (wb : Addr) (wcs : Int32) (h0 : Heap) (n0 : Nat) (Z0 : n0 ≤ h0.size) (E_a1 : Exa Z h0 a1 s0_) (F_value_a1 : Fld Z h0 a1 s0_ "value" "[B" (.ref wb)) (F_coder_a1 : Fld Z h0 a1 s0_ "coder" "B" (.int i1)) (V_wb : Arn Z h0 wb .byte i8) (S_COMPACT_STRINGS : Sta Z h0 s0_ s5_ "Z" (.int wcs)) (hcs : ¬ (wcs = i0)) :
  Met l Z h0 yy26 jdk_42_method_54_code 1 (some .int) (rmk 1 0 0 13) #[(.ref a1)] (Qm94U_o Z a1 wb wcs h0 n0) := by
 refine enter (plainFor_of_name pn_9) (fun m => ef_9 m a1) fun p e s m below meth c s₁ hx hby hml hown hnm hZ X0 e0 hret hlk => ?_
 have N0 := Fr.nil n0; have H := @hb c _ hby
 refine g_aloadN X0 hx (H d9_0) rfl rfl ?_
 refine g_getF X0 hx hZ hown (tw26 hw) Via.refl e0 F_value_a1 (H d9_1) fun T2 X2 e2 => ?_
 obtain ⟨clq3, Arq3, saq3, naq3⟩ := id V_wb
 refine g_len X2 hx hZ e2 Arq3 saq3 naq3 (H d9_4) ?_
 refine g_aloadN X2 hx (H d9_5) rfl rfl ?_
 refine g_virtual X2 hx hZ (rm10_f l Z a0 hw a1 wcs i1 h0 n0 Z0 S_COMPACT_STRINGS hcs F_coder_a1) hown (tw53 hw) (tw54 hw) (tw56 hw) rfl (tw55 hw) (tw8 hw) (tw57 hw) (by decide) E_a1 1 (by decide) (by decide) (by rw [hml]; rfl) [] [(.int i8)] (lenOf pd_15 rfl) (Nat.le_of_eq rfl) e2 (by decide) (by decide) rfl rfl (H d9_6) fun v4 T4 Lc4 X4 hQ4 => ?_
 obtain ⟨rfl, N4q, eq4⟩ := hQ4
 have N4 := Fr.app N0 N4q
 show Gs p e below _ T4 m 9 #[rv a1] [(.int (nar .byte i1)), (.int i8)]
 rw [show (nar .byte i1) = i1 from by decide]
 show Gs p e below _ T4 m 9 #[rv a1] [(.int i1), (.int i8)]
 refine g_ishr X4 hx (H d9_9) ?_
 rw [show (i8 >>> (i1 &&& 31)) = i4 from by decide]
 show Gs p e below _ T4 m 10 #[rv a1] [(.int i4)]
 exact Go.ret (Q := Qm94U_o Z a1 wb wcs h0 n0) X4 (v := some (.int i4)) (fun h => by rw [hret] at h; cases h) hlk (fun fs hr => retOut X4 hx hret rfl (Or.inl ⟨rfl, Or.inl rfl, _, rfl⟩) (H d9_10) hr) eq4 ⟨rfl, N4, rfl⟩ (by decide) (by decide)
def Qm74U (Z : State) (a1 : Addr) (p2 : Int32) (wb : Addr) (v0 : Int32) (v1 : Int32) (v2 : Int32) (v3 : Int32) (kb : ClassId) (wcs : Int32) (h0 : Heap) (n0 : Nat) (v : Option Value) (h : Heap) (L : List Loc) : Prop := ∃ (r0 : Int32), v = some (.int r0) ∧ ((r0 < 0) ↔ (¬ v0 = p2 ∧ ¬ v1 = p2 ∧ ¬ v2 = p2 ∧ ¬ v3 = p2)) ∧ Fr n0 L ∧ h = h0
theorem rm74U (l : Launch) (Z : State) (a0 : Array Value) (hw : Hw a0 Z) (a1 : Addr) (p2 : Int32) (wb : Addr) (v0 : Int32) (v1 : Int32) (v2 : Int32) (v3 : Int32) (kb : ClassId) (wcs : Int32) (h0 : Heap) (n0 : Nat) (Z0 : n0 ≤ h0.size) (E_a1 : Exa Z h0 a1 s0_) (F_value_a1 : Fld Z h0 a1 s0_ "value" "[B" (.ref wb)) (F_coder_a1 : Fld Z h0 a1 s0_ "coder" "B" (.int i1)) (V_wb : Arv Z h0 wb kb .byte i8 [(.int (nar .byte ((v0 >>> (i0 &&& 31)).toInt8.toInt32))), (.int (nar .byte ((v0 >>> (i8 &&& 31)).toInt8.toInt32))), (.int (nar .byte ((v1 >>> (i0 &&& 31)).toInt8.toInt32))), (.int (nar .byte ((v1 >>> (i8 &&& 31)).toInt8.toInt32))), (.int (nar .byte ((v2 >>> (i0 &&& 31)).toInt8.toInt32))), (.int (nar .byte ((v2 >>> (i8 &&& 31)).toInt8.toInt32))), (.int (nar .byte ((v3 >>> (i0 &&& 31)).toInt8.toInt32))), (.int (nar .byte ((v3 >>> (i8 &&& 31)).toInt8.toInt32)))] (.int i0)) (hb0 : 0 ≤ v0.toInt ∧ v0.toInt ≤ 65535) (hb1 : 0 ≤ v1.toInt ∧ v1.toInt ≤ 65535) (hb2 : 0 ≤ v2.toInt ∧ v2.toInt ≤ 65535) (hb3 : 0 ≤ v3.toInt ∧ v3.toInt ≤ 65535) (S_COMPACT_STRINGS : Sta Z h0 s0_ s5_ "Z" (.int wcs)) (hcs : ¬ (wcs = i0)) (S__assertionsDisabled : Sta Z h0 s1_ s2_ "Z" (.int i1)) (S_HI_BYTE_SHIFT : Sta Z h0 s1_ s3_ "I" (.int i0)) (S_LO_BYTE_SHIFT : Sta Z h0 s1_ s4_ "I" (.int i8)) (hfm : ∃ v : Value, v.isRef = true ∧ Sta Z h0 s6_ s7_ s8_ v) (hch : 0 ≤ p2.toInt ∧ p2.toInt ≤ 127) :
  Met l Z h0 yy27 jdk_42_method_80_code 3 (some .int) (rmk 5 0 0 73) #[(.ref a1), (.int p2), (.int i0)] (Qm74U Z a1 p2 wb v0 v1 v2 v3 kb wcs h0 n0) := by
 refine enter (plainFor_of_name pn_7) (fun m => ef_7 m a1 p2 i0) fun p e s m below meth c s₁ hx hby hml hown hnm hZ X0 e0 hret hlk => ?_
 have N0 := Fr.nil n0; have H := @hb c _ hby
 refine g_aloadN X0 hx (H d7_0) rfl rfl ?_
 refine g_virtual X0 hx hZ (rm8_ff l Z a0 hw a1 wcs i1 h0 n0 Z0 S_COMPACT_STRINGS hcs F_coder_a1 (by decide : ¬ (i1 = i0))) hown (tw42 hw) (tw43 hw) (tw45 hw) rfl (tw44 hw) (tw8 hw) (tw46 hw) (by decide) E_a1 0 (by decide) (by decide) (by rw [hml]; rfl) [] [] (lenOf pd_16 rfl) (Nat.le_of_eq rfl) e0 (by decide) (by decide) rfl rfl (H d7_1) fun v3 T3 Lc3 X3 hQ3 => ?_
 obtain ⟨rfl, N3q, eq3⟩ := hQ3
 have N3 := Fr.app N0 N3q
 show Gs p e below _ T3 m 4 #[rv a1, iv p2, iv i0] [(.int i0)]
 refine g_ifYes X3 hx 23 (H d7_4) (teq (by decide : (i0 = i0))).1 (by decide) (by decide) ?_
 refine g_aloadN X3 hx (H d7_23) rfl rfl ?_
 refine g_getF X3 hx hZ hown (tw26 hw) Via.refl eq3 F_value_a1 (H d7_24) fun T4 X4 e4 => ?_
 refine g_iloadN X4 hx (H d7_27) rfl ?_
 refine g_iloadN X4 hx (H d7_28) rfl ?_
 refine g_aloadN X4 hx (H d7_29) rfl rfl ?_
 refine g_virtual X4 hx hZ (rm94U_o l Z a0 hw a1 wb wcs h0 n0 Z0 E_a1 F_value_a1 F_coder_a1 (Arv.arn V_wb) S_COMPACT_STRINGS hcs) hown (tw48 hw) (tw49 hw) (tw51 hw) rfl (tw50 hw) (tw8 hw) (tw52 hw) (by decide) E_a1 3 (by decide) (by decide) (by rw [hml]; rfl) [] [(.int i0), (.int p2), (.ref wb)] (lenOf pd_17 rfl) (Nat.le_of_eq rfl) e4 (by decide) (by decide) rfl rfl (H d7_30) fun v5 T5 Lc5 X5 hQ5 => ?_
 obtain ⟨rfl, N5q, eq5⟩ := hQ5
 have N5 := Fr.app N3 N5q
 show Gs p e below _ T5 m 33 #[rv a1, iv p2, iv i0] [(.int i4), (.int i0), (.int p2), (.ref wb)]
 refine g_static X5 hx hZ (rm254 l Z a0 hw wb p2 v0 v1 v2 v3 kb h0 n0 Z0 V_wb hb0 hb1 hb2 hb3 hch S__assertionsDisabled S_HI_BYTE_SHIFT S_LO_BYTE_SHIFT hfm) hown (tw107 hw) (tw108 hw) (tw74 hw) (tw109 hw) (by decide) 0 (by decide) (by decide) (by rw [hml]; rfl) [(.ref wb), (.int p2), (.int i0), (.int i4)] [] (lenOf pd_10 rfl) (Nat.le_of_eq rfl) eq5 (by decide) (by decide) rfl rfl (H d7_33) fun v6 T6 Lc6 X6 hQ6 => ?_
 obtain ⟨r0_6, rfl, hp6, N6q, eq6⟩ := hQ6
 have N6 := Fr.app N5 N6q
 show Gs p e below _ T6 m 36 #[rv a1, iv p2, iv i0] [(.int r0_6)]
 exact Go.ret (Q := Qm74U Z a1 p2 wb v0 v1 v2 v3 kb wcs h0 n0) X6 (v := some (.int r0_6)) (fun h => by rw [hret] at h; cases h) hlk (fun fs hr => retOut X6 hx hret rfl (Or.inl ⟨rfl, Or.inl rfl, _, rfl⟩) (H d7_36) hr) eq6 ⟨_, rfl, hp6, N6, rfl⟩ (by decide) (by decide)
def Qm64U (Z : State) (a1 : Addr) (p2 : Int32) (wb : Addr) (v0 : Int32) (v1 : Int32) (v2 : Int32) (v3 : Int32) (kb : ClassId) (wcs : Int32) (h0 : Heap) (n0 : Nat) (v : Option Value) (h : Heap) (L : List Loc) : Prop := ∃ (r0 : Int32), v = some (.int r0) ∧ ((r0 < 0) ↔ (¬ v0 = p2 ∧ ¬ v1 = p2 ∧ ¬ v2 = p2 ∧ ¬ v3 = p2)) ∧ Fr n0 L ∧ h = h0
theorem rm64U (l : Launch) (Z : State) (a0 : Array Value) (hw : Hw a0 Z) (a1 : Addr) (p2 : Int32) (wb : Addr) (v0 : Int32) (v1 : Int32) (v2 : Int32) (v3 : Int32) (kb : ClassId) (wcs : Int32) (h0 : Heap) (n0 : Nat) (Z0 : n0 ≤ h0.size) (E_a1 : Exa Z h0 a1 s0_) (F_value_a1 : Fld Z h0 a1 s0_ "value" "[B" (.ref wb)) (F_coder_a1 : Fld Z h0 a1 s0_ "coder" "B" (.int i1)) (V_wb : Arv Z h0 wb kb .byte i8 [(.int (nar .byte ((v0 >>> (i0 &&& 31)).toInt8.toInt32))), (.int (nar .byte ((v0 >>> (i8 &&& 31)).toInt8.toInt32))), (.int (nar .byte ((v1 >>> (i0 &&& 31)).toInt8.toInt32))), (.int (nar .byte ((v1 >>> (i8 &&& 31)).toInt8.toInt32))), (.int (nar .byte ((v2 >>> (i0 &&& 31)).toInt8.toInt32))), (.int (nar .byte ((v2 >>> (i8 &&& 31)).toInt8.toInt32))), (.int (nar .byte ((v3 >>> (i0 &&& 31)).toInt8.toInt32))), (.int (nar .byte ((v3 >>> (i8 &&& 31)).toInt8.toInt32)))] (.int i0)) (hb0 : 0 ≤ v0.toInt ∧ v0.toInt ≤ 65535) (hb1 : 0 ≤ v1.toInt ∧ v1.toInt ≤ 65535) (hb2 : 0 ≤ v2.toInt ∧ v2.toInt ≤ 65535) (hb3 : 0 ≤ v3.toInt ∧ v3.toInt ≤ 65535) (S_COMPACT_STRINGS : Sta Z h0 s0_ s5_ "Z" (.int wcs)) (hcs : ¬ (wcs = i0)) (S__assertionsDisabled : Sta Z h0 s1_ s2_ "Z" (.int i1)) (S_HI_BYTE_SHIFT : Sta Z h0 s1_ s3_ "I" (.int i0)) (S_LO_BYTE_SHIFT : Sta Z h0 s1_ s4_ "I" (.int i8)) (hfm : ∃ v : Value, v.isRef = true ∧ Sta Z h0 s6_ s7_ s8_ v) (hch : 0 ≤ p2.toInt ∧ p2.toInt ≤ 127) :
  Met l Z h0 yy28 jdk_42_method_79_code 2 (some .int) (rmk 6 0 0 87) #[(.ref a1), (.int p2)] (Qm64U Z a1 p2 wb v0 v1 v2 v3 kb wcs h0 n0) := by
 refine enter (plainFor_of_name pn_6) (fun m => ef_6 m a1 p2) fun p e s m below meth c s₁ hx hby hml hown hnm hZ X0 e0 hret hlk => ?_
 have N0 := Fr.nil n0; have H := @hb c _ hby
 refine g_aloadN X0 hx (H d6_0) rfl rfl ?_
 refine g_iloadN X0 hx (H d6_1) rfl ?_
 refine g_iconst X0 hx i0 (H d6_2) rfl ?_
 refine g_virtual X0 hx hZ (rm74U l Z a0 hw a1 p2 wb v0 v1 v2 v3 kb wcs h0 n0 Z0 E_a1 F_value_a1 F_coder_a1 V_wb hb0 hb1 hb2 hb3 S_COMPACT_STRINGS hcs S__assertionsDisabled S_HI_BYTE_SHIFT S_LO_BYTE_SHIFT hfm hch) hown (tw37 hw) (tw38 hw) (tw40 hw) rfl (tw39 hw) (tw8 hw) (tw41 hw) (by decide) E_a1 0 (by decide) (by decide) (by rw [hml]; rfl) [(.int p2), (.int i0)] [] (lenOf pd_9 rfl) (Nat.le_of_eq rfl) e0 (by decide) (by decide) rfl rfl (H d6_3) fun v3 T3 Lc3 X3 hQ3 => ?_
 obtain ⟨r0_3, rfl, hp3, N3q, eq3⟩ := hQ3
 have N3 := Fr.app N0 N3q
 show Gs p e below _ T3 m 6 #[rv a1, iv p2] [(.int r0_3)]
 exact Go.ret (Q := Qm64U Z a1 p2 wb v0 v1 v2 v3 kb wcs h0 n0) X3 (v := some (.int r0_3)) (fun h => by rw [hret] at h; cases h) hlk (fun fs hr => retOut X3 hx hret rfl (Or.inl ⟨rfl, Or.inl rfl, _, rfl⟩) (H d6_6) hr) eq3 ⟨_, rfl, hp3, N3, rfl⟩ (by decide) (by decide)
def Qm54U (Z : State) (a1 : Addr) (wb : Addr) (v0 : Int32) (v1 : Int32) (v2 : Int32) (v3 : Int32) (kb : ClassId) (wcs : Int32) (h0 : Heap) (n0 : Nat) (v : Option Value) (h : Heap) (L : List Loc) : Prop := ∃ (r0 : Int32), v = some (.int r0) ∧ ((r0 = i0 ∧ (¬ v0 = i42 ∧ ¬ v1 = i42 ∧ ¬ v2 = i42 ∧ ¬ v3 = i42) ∧ (¬ v0 = i63 ∧ ¬ v1 = i63 ∧ ¬ v2 = i63 ∧ ¬ v3 = i63)) ∨ (r0 = i1 ∧ ¬ ((¬ v0 = i42 ∧ ¬ v1 = i42 ∧ ¬ v2 = i42 ∧ ¬ v3 = i42) ∧ (¬ v0 = i63 ∧ ¬ v1 = i63 ∧ ¬ v2 = i63 ∧ ¬ v3 = i63)))) ∧ Fr n0 L ∧ h = h0
theorem rm54U (l : Launch) (Z : State) (a0 : Array Value) (hw : Hw a0 Z) (a1 : Addr) (wb : Addr) (v0 : Int32) (v1 : Int32) (v2 : Int32) (v3 : Int32) (kb : ClassId) (wcs : Int32) (h0 : Heap) (n0 : Nat) (Z0 : n0 ≤ h0.size) (E_a1 : Exa Z h0 a1 s0_) (F_value_a1 : Fld Z h0 a1 s0_ "value" "[B" (.ref wb)) (F_coder_a1 : Fld Z h0 a1 s0_ "coder" "B" (.int i1)) (V_wb : Arv Z h0 wb kb .byte i8 [(.int (nar .byte ((v0 >>> (i0 &&& 31)).toInt8.toInt32))), (.int (nar .byte ((v0 >>> (i8 &&& 31)).toInt8.toInt32))), (.int (nar .byte ((v1 >>> (i0 &&& 31)).toInt8.toInt32))), (.int (nar .byte ((v1 >>> (i8 &&& 31)).toInt8.toInt32))), (.int (nar .byte ((v2 >>> (i0 &&& 31)).toInt8.toInt32))), (.int (nar .byte ((v2 >>> (i8 &&& 31)).toInt8.toInt32))), (.int (nar .byte ((v3 >>> (i0 &&& 31)).toInt8.toInt32))), (.int (nar .byte ((v3 >>> (i8 &&& 31)).toInt8.toInt32)))] (.int i0)) (hb0 : 0 ≤ v0.toInt ∧ v0.toInt ≤ 65535) (hb1 : 0 ≤ v1.toInt ∧ v1.toInt ≤ 65535) (hb2 : 0 ≤ v2.toInt ∧ v2.toInt ≤ 65535) (hb3 : 0 ≤ v3.toInt ∧ v3.toInt ≤ 65535) (S_COMPACT_STRINGS : Sta Z h0 s0_ s5_ "Z" (.int wcs)) (hcs : ¬ (wcs = i0)) (S__assertionsDisabled : Sta Z h0 s1_ s2_ "Z" (.int i1)) (S_HI_BYTE_SHIFT : Sta Z h0 s1_ s3_ "I" (.int i0)) (S_LO_BYTE_SHIFT : Sta Z h0 s1_ s4_ "I" (.int i8)) (hfm : ∃ v : Value, v.isRef = true ∧ Sta Z h0 s6_ s7_ s8_ v) :
  Met l Z h0 yy29 prog_77_method_6_code 1 (some .boolean) (rmk 9 0 0 210) #[(.ref a1)] (Qm54U Z a1 wb v0 v1 v2 v3 kb wcs h0 n0) := by
 refine enter (plainFor_of_name pn_5) (fun m => ef_5 m a1) fun p e s m below meth c s₁ hx hby hml hown hnm hZ X0 e0 hret hlk => ?_
 have N0 := Fr.nil n0; have H := @hb c _ hby
 refine g_aloadN X0 hx (H d5_0) rfl rfl ?_
 refine g_bipush X0 hx i42 (H d5_1) rfl ?_
 refine g_virtual X0 hx hZ (rm64U l Z a0 hw a1 i42 wb v0 v1 v2 v3 kb wcs h0 n0 Z0 E_a1 F_value_a1 F_coder_a1 V_wb hb0 hb1 hb2 hb3 S_COMPACT_STRINGS hcs S__assertionsDisabled S_HI_BYTE_SHIFT S_LO_BYTE_SHIFT hfm (by decide)) hown (tw32 hw) (tw33 hw) (tw35 hw) rfl (tw34 hw) (tw8 hw) (tw36 hw) (by decide) E_a1 0 (by decide) (by decide) (by rw [hml]; rfl) [(.int i42)] [] (lenOf pd_0 rfl) (Nat.le_of_eq rfl) e0 (by decide) (by decide) rfl rfl (H d5_3) fun v2 T2 Lc2 X2 hQ2 => ?_
 obtain ⟨r0_2, rfl, hp2, N2q, eq2⟩ := hQ2
 have N2 := Fr.app N0 N2q
 show Gs p e below _ T2 m 6 #[rv a1] [(.int r0_2)]
 by_cases hc_39 : r0_2 < i0
 ·skip
  refine g_ifNo X2 hx (H d5_6) (tlt hc_39).2.1 ?_
  refine g_aloadN X2 hx (H d5_9) rfl rfl ?_
  refine g_bipush X2 hx i63 (H d5_10) rfl ?_
  refine g_virtual X2 hx hZ (rm64U l Z a0 hw a1 i63 wb v0 v1 v2 v3 kb wcs h0 n0 Z0 E_a1 F_value_a1 F_coder_a1 V_wb hb0 hb1 hb2 hb3 S_COMPACT_STRINGS hcs S__assertionsDisabled S_HI_BYTE_SHIFT S_LO_BYTE_SHIFT hfm (by decide)) hown (tw32 hw) (tw33 hw) (tw35 hw) rfl (tw34 hw) (tw8 hw) (tw36 hw) (by decide) E_a1 0 (by decide) (by decide) (by rw [hml]; rfl) [(.int i63)] [] (lenOf pd_0 rfl) (Nat.le_of_eq rfl) eq2 (by decide) (by decide) rfl rfl (H d5_12) fun v3 T3 Lc3 X3 hQ3 => ?_
  obtain ⟨r0_3, rfl, hp3, N3q, eq3⟩ := hQ3
  have N3 := Fr.app N2 N3q
  show Gs p e below _ T3 m 15 #[rv a1] [(.int r0_3)]
  by_cases hc_40 : r0_3 < i0
  ·skip
   refine g_ifYes X3 hx 22 (H d5_15) (tlt hc_40).1 (by decide) (by decide) ?_
   refine g_iconst X3 hx i0 (H d5_22) rfl ?_
   exact Go.ret (Q := Qm54U Z a1 wb v0 v1 v2 v3 kb wcs h0 n0) X3 (v := some (.int i0)) (fun h => by rw [hret] at h; cases h) hlk (fun fs hr => retN X3 hx (t := .boolean) hret (by simp) (H d5_23) hr) eq3 ⟨_, rfl, (Or.inl ⟨rfl, hp2.mp hc_39, hp3.mp hc_40⟩), N3, rfl⟩ (by decide) (by decide)
  ·skip
   refine g_ifNo X3 hx (H d5_15) (flt hc_40).1 ?_
   refine g_iconst X3 hx i1 (H d5_18) rfl ?_
   refine g_goto X3 hx 23 (H d5_19) (by decide) (by decide) ?_
   exact Go.ret (Q := Qm54U Z a1 wb v0 v1 v2 v3 kb wcs h0 n0) X3 (v := some (.int i1)) (fun h => by rw [hret] at h; cases h) hlk (fun fs hr => retN X3 hx (t := .boolean) hret (by simp) (H d5_23) hr) eq3 ⟨_, rfl, (Or.inr ⟨rfl, fun q => hc_40 (hp3.mpr q.2)⟩), N3, rfl⟩ (by decide) (by decide)
 ·skip
  refine g_ifYes X2 hx 18 (H d5_6) (flt hc_39).2.1 (by decide) (by decide) ?_
  refine g_iconst X2 hx i1 (H d5_18) rfl ?_
  refine g_goto X2 hx 23 (H d5_19) (by decide) (by decide) ?_
  exact Go.ret (Q := Qm54U Z a1 wb v0 v1 v2 v3 kb wcs h0 n0) X2 (v := some (.int i1)) (fun h => by rw [hret] at h; cases h) hlk (fun fs hr => retN X2 hx (t := .boolean) hret (by simp) (H d5_23) hr) eq2 ⟨_, rfl, (Or.inr ⟨rfl, fun q => hc_39 (hp2.mpr q.1)⟩), N2, rfl⟩ (by decide) (by decide)
def Q0 (n0 : Nat) (v : Option Value) (h : Heap) (L : List Loc) : Prop := v = some (.int i1) ∧ Fr n0 L
theorem rm0 (l : Launch) (Z : State) (a0 : Array Value) (hw : Hw a0 Z) (ws : List Jvm.Cond) (p1 : Int32) (p2 : Int32) (p3 : Int32) (p4 : Int32) (p5 : Int32) (wcs : Int32) (h0 : Heap) (n0 : Nat) (Z0 : n0 ≤ h0.size) (S_COMPACT_STRINGS : Sta Z h0 s0_ s5_ "Z" (.int wcs)) (hcs : ¬ (wcs = i0)) (hfm : ∃ v : Value, v.isRef = true ∧ Sta Z h0 s6_ s7_ s8_ v) (S__assertionsDisabled : Sta Z h0 s1_ s2_ "Z" (.int i1)) (S_HI_BYTE_SHIFT : Sta Z h0 s1_ s3_ "I" (.int i0)) (S_LO_BYTE_SHIFT : Sta Z h0 s1_ s4_ "I" (.int i8)) :
  MetFree l x (head1 (Jvm.Cond.code x code maxLocals ret :: ws) room_1) (fun a U => a = #[(.int p1), (.int p2), (.int p3), (.int p4), (.int p5)] ∧ Z.Warmed39 U.vm ∧ U.heap = h0 ∧ CHv Z own_EL U.vm h0) (fun _ _ _ _ _ => True) (fun _ U o U' => ∃ v L, o = .returned v ∧ Q0 n0 v U'.heap L ∧ ReturnedEndW U o U' L room_1.cells room_1.slots) := by
 refine MetFree.of_bodySF (plainFor_of_name pn_0) hisR ?_
 intro p e s m args below meth c s₁ Bd hml0 hP hK
 obtain ⟨rfl, hZ, hh, hH⟩ := hP
 have hx := Bd.exec
 have hby := Bd.bytes
 have hml : c.maxLocals = 12 := hml0
 have hown : s.vm.findClass "com/example/canny_warden/cannywarden/engine/WildcardHasWildcardPinLaw" = some m.cls := findClass_of_methodNamed Bd.named
 have hnm := (name_of_methodNamed Bd.named Bd.method).1
 have X0 : Stand p l e room_1 (s.setVm s.vm) m #[(.int p1), (.int p2), (.int p3), (.int p4), (.int p5)] below meth c s₁ [] 0 0 := Stand.of_body Bd
 have hS : s.Since s.vm 0 := State.WarmedH.since (State.WarmedH.refl s) 0
 have hk : 0 ≤ h0.size := Nat.zero_le _
 have own_wS0 : ∀ a ∈ Bundle.stringAtoms, a.before a0 Z = true := own_wS hw
 have e0 : s₁.heap = h0 := by rw [← hh, Bd.state]; rfl
 have N0 := Fr.nil n0; have H := @hb c _ hby
 refine Go.en (ef_0 m p1 p2 p3 p4 p5) ?_
 show Gs p e below _ s₁ m 0 #[iv p1, iv p2, iv p3, iv p4, iv p5, .unset, .unset, .unset, .unset, .unset, .unset, .unset] []
 refine g_iloadN X0 hx (H at_0) rfl ?_
 refine Go.st (fun _ kk => X0.ldcInt hx hown (mvT hZ (tw0 hw)) (g := (mkF m 1 #[iv p1, iv p2, iv p3, iv p4, iv p5, .unset, .unset, .unset, .unset, .unset, .unset, .unset] [(.int p1)])) rfl (H at_1) _ kk) ?_
 show Gs p e below _ s₁ m 3 #[iv p1, iv p2, iv p3, iv p4, iv p5, .unset, .unset, .unset, .unset, .unset, .unset, .unset] [(.int i2147483647), (.int p1)]
 refine g_iand X0 hx (H at_3) ?_
 refine g_iconst X0 hx i5 (H at_4) rfl ?_
 refine g_irem X0 hx (H at_5) (by decide : ¬ (i5 = i0)) ?_
 rcases (own_k p1 : ((p1 &&& i2147483647) % i5) = i0 ∨ ((p1 &&& i2147483647) % i5) = i1 ∨ ((p1 &&& i2147483647) % i5) = i2 ∨ ((p1 &&& i2147483647) % i5) = i3 ∨ ((p1 &&& i2147483647) % i5) = i4) with hk6 | hk7 | hk8 | hk9 | hk10
 ·skip
  rw [hk6]
  show Gs p e below _ s₁ m 6 #[iv p1, iv p2, iv p3, iv p4, iv p5, .unset, .unset, .unset, .unset, .unset, .unset, .unset] [(.int i0)]
  refine g_istore X0 hx (H at_6) (l' := #[iv p1, iv p2, iv p3, iv p4, iv p5, iv i0, .unset, .unset, .unset, .unset, .unset, .unset]) rfl ?_
  refine g_iloadN X0 hx (H at_8) rfl ?_
  refine g_static X0 hx hZ (rm1 l Z a0 hw p2 h0 n0 Z0 ) hown (tw1 hw) (tw2 hw) (tw3 hw) (tw4 hw) (by decide) 0 (by decide) (by decide) (by rw [hml]; rfl) [(.int p2)] [] (lenOf pd_18 rfl) (Nat.le_of_eq rfl) e0 (by decide) (by decide) rfl rfl (H at_9) fun v11 T11 Lc11 X11 hQ11 => ?_
  obtain ⟨r0_11, rfl, hp11, N11q, eq11⟩ := hQ11
  have N11 := Fr.app N0 N11q
  show Gs p e below _ T11 m 12 #[iv p1, iv p2, iv p3, iv p4, iv p5, iv i0, .unset, .unset, .unset, .unset, .unset, .unset] [(.int r0_11)]
  refine g_istore X11 hx (H at_12) (l' := #[iv p1, iv p2, iv p3, iv p4, iv p5, iv i0, iv r0_11, .unset, .unset, .unset, .unset, .unset]) rfl ?_
  refine g_iloadN X11 hx (H at_14) rfl ?_
  refine g_static X11 hx hZ (rm1 l Z a0 hw p3 h0 n0 Z0 ) hown (tw1 hw) (tw2 hw) (tw3 hw) (tw4 hw) (by decide) 0 (by decide) (by decide) (by rw [hml]; rfl) [(.int p3)] [] (lenOf pd_18 rfl) (Nat.le_of_eq rfl) eq11 (by decide) (by decide) rfl rfl (H at_15) fun v12 T12 Lc12 X12 hQ12 => ?_
  obtain ⟨r0_12, rfl, hp12, N12q, eq12⟩ := hQ12
  have N12 := Fr.app N11 N12q
  show Gs p e below _ T12 m 18 #[iv p1, iv p2, iv p3, iv p4, iv p5, iv i0, iv r0_11, .unset, .unset, .unset, .unset, .unset] [(.int r0_12)]
  refine g_istore X12 hx (H at_18) (l' := #[iv p1, iv p2, iv p3, iv p4, iv p5, iv i0, iv r0_11, iv r0_12, .unset, .unset, .unset, .unset]) rfl ?_
  refine g_iloadN X12 hx (H at_20) rfl ?_
  refine g_static X12 hx hZ (rm1 l Z a0 hw p4 h0 n0 Z0 ) hown (tw1 hw) (tw2 hw) (tw3 hw) (tw4 hw) (by decide) 0 (by decide) (by decide) (by rw [hml]; rfl) [(.int p4)] [] (lenOf pd_18 rfl) (Nat.le_of_eq rfl) eq12 (by decide) (by decide) rfl rfl (H at_21) fun v13 T13 Lc13 X13 hQ13 => ?_
  obtain ⟨r0_13, rfl, hp13, N13q, eq13⟩ := hQ13
  have N13 := Fr.app N12 N13q
  show Gs p e below _ T13 m 24 #[iv p1, iv p2, iv p3, iv p4, iv p5, iv i0, iv r0_11, iv r0_12, .unset, .unset, .unset, .unset] [(.int r0_13)]
  refine g_istore X13 hx (H at_24) (l' := #[iv p1, iv p2, iv p3, iv p4, iv p5, iv i0, iv r0_11, iv r0_12, iv r0_13, .unset, .unset, .unset]) rfl ?_
  refine g_iload X13 hx (H at_26) rfl ?_
  refine g_static X13 hx hZ (rm1 l Z a0 hw p5 h0 n0 Z0 ) hown (tw1 hw) (tw2 hw) (tw3 hw) (tw4 hw) (by decide) 0 (by decide) (by decide) (by rw [hml]; rfl) [(.int p5)] [] (lenOf pd_18 rfl) (Nat.le_of_eq rfl) eq13 (by decide) (by decide) rfl rfl (H at_28) fun v14 T14 Lc14 X14 hQ14 => ?_
  obtain ⟨r0_14, rfl, hp14, N14q, eq14⟩ := hQ14
  have N14 := Fr.app N13 N14q
  show Gs p e below _ T14 m 31 #[iv p1, iv p2, iv p3, iv p4, iv p5, iv i0, iv r0_11, iv r0_12, iv r0_13, .unset, .unset, .unset] [(.int r0_14)]
  refine g_istore X14 hx (H at_31) (l' := #[iv p1, iv p2, iv p3, iv p4, iv p5, iv i0, iv r0_11, iv r0_12, iv r0_13, iv r0_14, .unset, .unset]) rfl ?_
  have tail : ∀ (x : Addr) (T : State) (h : Heap) (locs : List Loc) (vm0 : Vm) (k0 : Nat), s.Since vm0 k0 → k0 ≤ h.size → Z.Warmed39 (s.setVm vm0).vm → (s.setVm vm0).vm.findClass "com/example/canny_warden/cannywarden/engine/WildcardHasWildcardPinLaw" = some m.cls → Stand p l e room_1 (s.setVm vm0) m #[(.int p1), (.int p2), (.int p3), (.int p4), (.int p5)] below meth c T locs 20 100 → T.heap = h → Fr n0 locs → Keep h0 h [] → Met l Z h yy29 prog_77_method_6_code 1 (some .boolean) (rmk 9 0 0 210) #[(.ref x)] (own_QH0  h n0) → Go p e below (fun o s₂ => ∃ v L, o = .returned v ∧ Q0 n0 v s₂.heap L ∧ ReturnedEndW s o s₂ L room_1.cells room_1.slots) (T.setTop (mkF m 178 #[iv p1, iv p2, iv p3, iv p4, iv p5, iv i0, iv r0_11, iv r0_12, iv r0_13, iv r0_14, rv x, .unset] [])) := by
   intro x T h locs vm0 k0 hS hk hZ hown X eT N K hM
   refine g_iload X hx (H at_178) rfl ?_
   refine g_ifYes X hx 191 (H at_180) (flt (by decide : ¬ (i0 < i0))).2.2.2 (by decide) (by decide) ?_
   refine g_iload X hx (H at_191) rfl ?_
   refine g_iconst X hx i1 (H at_193) rfl ?_
   refine g_icmpYes X hx 205 (H at_194) (flt (by decide : ¬ (i1 < i0))).2.2.2 (by decide) (by decide) ?_
   refine g_iload X hx (H at_205) rfl ?_
   refine g_iconst X hx i2 (H at_207) rfl ?_
   refine g_icmpYes X hx 219 (H at_208) (flt (by decide : ¬ (i2 < i0))).2.2.2 (by decide) (by decide) ?_
   refine g_iload X hx (H at_219) rfl ?_
   refine g_iconst X hx i3 (H at_221) rfl ?_
   refine g_icmpYes X hx 237 (H at_222) (flt (by decide : ¬ (i3 < i0))).2.2.2 (by decide) (by decide) ?_
   refine g_iconst X hx i0 (H at_237) rfl ?_
   refine g_istore X hx (H at_238) (l' := #[iv p1, iv p2, iv p3, iv p4, iv p5, iv i0, iv r0_11, iv r0_12, iv r0_13, iv r0_14, rv x, iv i0]) rfl ?_
   refine g_aload X hx (H at_240) rfl rfl ?_
   refine g_static X hx hZ hM hown (tw28 hw) (tw29 hw) (tw30 hw) (tw31 hw) (by decide) 0 (by decide) (by decide) (by rw [hml]; rfl) [(.ref x)] [] (lenOf pd_19 rfl) (Nat.le_of_eq rfl) eT (by decide) (by decide) rfl rfl (H at_242) fun v15 T15 Lc15 X15 hQ15 => ?_
   obtain ⟨r0_15, rfl, hp15, N15q, eq15⟩ := hQ15
   have N15 := Fr.app N N15q
   show Gs p e below _ T15 m 245 #[iv p1, iv p2, iv p3, iv p4, iv p5, iv i0, iv r0_11, iv r0_12, iv r0_13, iv r0_14, rv x, iv i0] [(.int r0_15)]
   refine g_iload X15 hx (H at_245) rfl ?_
   refine g_icmpNo X15 hx (H at_247) (teq (hp15.elim (fun q => q.1) (fun q => absurd ⟨trivial, trivial⟩ q.2))).2 ?_
   refine g_iconst X15 hx i1 (H at_250) rfl ?_
   refine g_goto X15 hx 255 (H at_251) (by decide) (by decide) ?_
   exact Go.retW (Q := Q0 n0) hS (hk) X15 (v := some (.int i1)) (fun h => by rw [Bd.returns] at h; cases h) Bd.notSynchronized (fun fs hr => retN X15 hx (t := .boolean) Bd.returns (by simp) (H at_255) hr) eq15 ⟨rfl, N15⟩ (by decide) (by decide)
  refine g_iload X14 hx (H at_33) rfl ?_
  refine g_ifNo X14 hx (H at_35) (teq (by decide : (i0 = i0))).2 ?_
  refine g_new X14 hx hZ hown (tw6 hw) (tw7 hw) (tw8 hw) eq14 (H at_38) (by decide) (by decide) fun b16 T16 h16 g16 X16 e16 E16 A16 D16 => ?_
  have g_b16 : n0 ≤ b16 := Nat.le_trans Z0 (Nat.le_of_eq g16.symm)
  have sz_b16 : h0.size ≤ b16 := Nat.le_of_eq g16.symm
  have K16 : Keep h0 h16 [] := (Keep.refl h0 []).ext E16
  have E_b16 : Exa Z h16 b16 s0_ := A16
  have F_value_b16 : Fld Z h16 b16 s0_ "value" "[B" .null := D16 (Or.inr (tw22 hw)) (ty := (.array .byte)) (by decide)
  have F_coder_b16 : Fld Z h16 b16 s0_ "coder" "B" (.int i0) := D16 (Or.inr (tw23 hw)) (ty := .byte) (by decide)
  refine g_dup X16 hx (H at_41) rfl ?_
  refine g_iconst X16 hx i0 (H at_42) rfl ?_
  refine g_newP X16 hx hZ (H at_43) (tw9 hw) e16 (by decide) 0 (by decide) (by decide) (by decide) (by decide) fun b17 T17 h17 k17 g17 X17 e17 E17 A17 => ?_
  have g_b17 : n0 ≤ b17 := Nat.le_trans (Nat.le_trans Z0 K16.1) (Nat.le_of_eq g17.symm)
  have sz_b17 : h0.size ≤ b17 := Nat.le_trans K16.1 (Nat.le_of_eq g17.symm)
  have lt_b16_b17 : b16 < b17 := Nat.lt_of_lt_of_le E_b16.lt (Nat.le_of_eq g17.symm)
  have K17 : Keep h0 h17 [] := K16.ext E17
  have V_b17 : Arv Z h17 b17 k17 .char i0 [] (.int i0) := (Arv.new A17 (by decide)).pad (pad_rep [] (.int i0) 0)
  have f_18 := (Exa.ext E17 E_b16)
  have f_19 := (Fld.ext E17 F_coder_b16)
  have f_20 := (Fld.ext E17 F_value_b16)
  have hk := (Nat.le_trans (Nat.le_trans hk E16.1) E17.1)
  obtain ⟨_, _, ⟨T21, L21, k21, n21⟩, -, X21, hS21, hG21, ⟨Lc21, hQ21, l21, y21, z21⟩, st21⟩ := X17.specialBackS hx (y := yy16) rfl hown (mvT hZ (tw10 hw)) (mvT hZ (tw11 hw)) (mvT hZ (tw12 hw)) (by decide) (backOfSC (W := 1) (rm2e_o l Z a0 hw [] b16 b17 (.int i0) .null h17 n0 (Nat.le_trans Z0 K17.1) f_18 f_19 f_20 g_b16 (Arv.arn V_b17) (Ne.symm (Nat.ne_of_lt lt_b16_b17))) hZ (tw12 hw) (tw8 hw) (by decide) (by decide) (own_EW hw) (CHv.keep K17 all0 hH)) (g := (mkF m 45 #[iv p1, iv p2, iv p3, iv p4, iv p5, iv i0, iv r0_11, iv r0_12, iv r0_13, iv r0_14, .unset, .unset] [(.ref b17), (.ref b16), (.ref b16)])) rfl (by rw [hml]; rfl) (Steps.refl _) (a := b16) (argsL := [(.ref b17)]) (rest := [(.ref b16)]) (lenOf pd_20 rfl) rfl (by show 2 * 0 + _ ≤ _; exact Nat.le_of_eq rfl) (H at_45) (fun _ _ => ⟨rfl, e17, (by decide : 2 + 2 ≤ _), (by decide : 4 + 4 ≤ _)⟩)
  dsimp only [Pt.U, Pt.locs, Pt.cells, Pt.slots] at X21 l21 y21 z21 st21 hQ21 hS21 hG21
  subst l21 y21 z21
  obtain ⟨X21, hS, hZ, hown⟩ := rebS hS (by rw [e17]; exact hk) X21 hS21 hG21 hZ hown
  have hk := Nat.le_refl T21.heap.size
  obtain ⟨b4_4_21, kb4_4_21, rfl, N21q, Kc21, P21_0, P21_1, P21_2, P21_3⟩ := hQ21
  have K21 : Keep h0 T21.heap [] := K17.trans Kc21 (allS (Or.inr sz_b16) all0)
  have N21 := Fr.app N14 N21q
  refine Go.tr st21 ?_
  show Gs p e below _ T21 m 48 #[iv p1, iv p2, iv p3, iv p4, iv p5, iv i0, iv r0_11, iv r0_12, iv r0_13, iv r0_14, .unset, .unset] [(.ref b16)]
  refine g_astore X21 hx (H at_48) rfl (l' := #[iv p1, iv p2, iv p3, iv p4, iv p5, iv i0, iv r0_11, iv r0_12, iv r0_13, iv r0_14, rv b16, .unset]) rfl ?_
  refine g_goto X21 hx 178 (H at_50) (by decide) (by decide) ?_
  have f_22 := (staKeep0 S_COMPACT_STRINGS K21)
  exact tail _ _ _ _ _ _ hS hk hZ hown (X21.more (by decide) (by decide)) rfl N21 K21 (rm50L l Z a0 hw b16 b4_4_21 kb4_4_21 wcs T21.heap n0 (Nat.le_trans Z0 K21.1) P21_0 P21_2 P21_1 P21_3 f_22 hcs)
 ·skip
  rw [hk7]
  show Gs p e below _ s₁ m 6 #[iv p1, iv p2, iv p3, iv p4, iv p5, .unset, .unset, .unset, .unset, .unset, .unset, .unset] [(.int i1)]
  refine g_istore X0 hx (H at_6) (l' := #[iv p1, iv p2, iv p3, iv p4, iv p5, iv i1, .unset, .unset, .unset, .unset, .unset, .unset]) rfl ?_
  refine g_iloadN X0 hx (H at_8) rfl ?_
  refine g_static X0 hx hZ (rm1 l Z a0 hw p2 h0 n0 Z0 ) hown (tw1 hw) (tw2 hw) (tw3 hw) (tw4 hw) (by decide) 0 (by decide) (by decide) (by rw [hml]; rfl) [(.int p2)] [] (lenOf pd_18 rfl) (Nat.le_of_eq rfl) e0 (by decide) (by decide) rfl rfl (H at_9) fun v23 T23 Lc23 X23 hQ23 => ?_
  obtain ⟨r0_23, rfl, hp23, N23q, eq23⟩ := hQ23
  have N23 := Fr.app N0 N23q
  show Gs p e below _ T23 m 12 #[iv p1, iv p2, iv p3, iv p4, iv p5, iv i1, .unset, .unset, .unset, .unset, .unset, .unset] [(.int r0_23)]
  refine g_istore X23 hx (H at_12) (l' := #[iv p1, iv p2, iv p3, iv p4, iv p5, iv i1, iv r0_23, .unset, .unset, .unset, .unset, .unset]) rfl ?_
  refine g_iloadN X23 hx (H at_14) rfl ?_
  refine g_static X23 hx hZ (rm1 l Z a0 hw p3 h0 n0 Z0 ) hown (tw1 hw) (tw2 hw) (tw3 hw) (tw4 hw) (by decide) 0 (by decide) (by decide) (by rw [hml]; rfl) [(.int p3)] [] (lenOf pd_18 rfl) (Nat.le_of_eq rfl) eq23 (by decide) (by decide) rfl rfl (H at_15) fun v24 T24 Lc24 X24 hQ24 => ?_
  obtain ⟨r0_24, rfl, hp24, N24q, eq24⟩ := hQ24
  have N24 := Fr.app N23 N24q
  show Gs p e below _ T24 m 18 #[iv p1, iv p2, iv p3, iv p4, iv p5, iv i1, iv r0_23, .unset, .unset, .unset, .unset, .unset] [(.int r0_24)]
  refine g_istore X24 hx (H at_18) (l' := #[iv p1, iv p2, iv p3, iv p4, iv p5, iv i1, iv r0_23, iv r0_24, .unset, .unset, .unset, .unset]) rfl ?_
  refine g_iloadN X24 hx (H at_20) rfl ?_
  refine g_static X24 hx hZ (rm1 l Z a0 hw p4 h0 n0 Z0 ) hown (tw1 hw) (tw2 hw) (tw3 hw) (tw4 hw) (by decide) 0 (by decide) (by decide) (by rw [hml]; rfl) [(.int p4)] [] (lenOf pd_18 rfl) (Nat.le_of_eq rfl) eq24 (by decide) (by decide) rfl rfl (H at_21) fun v25 T25 Lc25 X25 hQ25 => ?_
  obtain ⟨r0_25, rfl, hp25, N25q, eq25⟩ := hQ25
  have N25 := Fr.app N24 N25q
  show Gs p e below _ T25 m 24 #[iv p1, iv p2, iv p3, iv p4, iv p5, iv i1, iv r0_23, iv r0_24, .unset, .unset, .unset, .unset] [(.int r0_25)]
  refine g_istore X25 hx (H at_24) (l' := #[iv p1, iv p2, iv p3, iv p4, iv p5, iv i1, iv r0_23, iv r0_24, iv r0_25, .unset, .unset, .unset]) rfl ?_
  refine g_iload X25 hx (H at_26) rfl ?_
  refine g_static X25 hx hZ (rm1 l Z a0 hw p5 h0 n0 Z0 ) hown (tw1 hw) (tw2 hw) (tw3 hw) (tw4 hw) (by decide) 0 (by decide) (by decide) (by rw [hml]; rfl) [(.int p5)] [] (lenOf pd_18 rfl) (Nat.le_of_eq rfl) eq25 (by decide) (by decide) rfl rfl (H at_28) fun v26 T26 Lc26 X26 hQ26 => ?_
  obtain ⟨r0_26, rfl, hp26, N26q, eq26⟩ := hQ26
  have N26 := Fr.app N25 N26q
  show Gs p e below _ T26 m 31 #[iv p1, iv p2, iv p3, iv p4, iv p5, iv i1, iv r0_23, iv r0_24, iv r0_25, .unset, .unset, .unset] [(.int r0_26)]
  refine g_istore X26 hx (H at_31) (l' := #[iv p1, iv p2, iv p3, iv p4, iv p5, iv i1, iv r0_23, iv r0_24, iv r0_25, iv r0_26, .unset, .unset]) rfl ?_
  have tail : ∀ (x : Addr) (T : State) (h : Heap) (locs : List Loc) (vm0 : Vm) (k0 : Nat), s.Since vm0 k0 → k0 ≤ h.size → Z.Warmed39 (s.setVm vm0).vm → (s.setVm vm0).vm.findClass "com/example/canny_warden/cannywarden/engine/WildcardHasWildcardPinLaw" = some m.cls → Stand p l e room_1 (s.setVm vm0) m #[(.int p1), (.int p2), (.int p3), (.int p4), (.int p5)] below meth c T locs 20 100 → T.heap = h → Fr n0 locs → Keep h0 h [] → Met l Z h yy29 prog_77_method_6_code 1 (some .boolean) (rmk 9 0 0 210) #[(.ref x)] (own_QH1 r0_23 h n0) → Go p e below (fun o s₂ => ∃ v L, o = .returned v ∧ Q0 n0 v s₂.heap L ∧ ReturnedEndW s o s₂ L room_1.cells room_1.slots) (T.setTop (mkF m 178 #[iv p1, iv p2, iv p3, iv p4, iv p5, iv i1, iv r0_23, iv r0_24, iv r0_25, iv r0_26, rv x, .unset] [])) := by
   intro x T h locs vm0 k0 hS hk hZ hown X eT N K hM
   refine g_iload X hx (H at_178) rfl ?_
   refine g_ifNo X hx (H at_180) (tlt (by decide : (i0 < i1))).2.2.2 ?_
   refine g_iload X hx (H at_183) rfl ?_
   by_cases hc_41 : r0_23 = i42
   ·skip
    refine g_static X hx hZ (rm18_t l Z a0 hw r0_23 h n0 (Nat.le_trans Z0 K.1) hc_41) hown (tw82 hw) (tw83 hw) (tw3 hw) (tw84 hw) (by decide) 0 (by decide) (by decide) (by rw [hml]; rfl) [(.int r0_23)] [] (lenOf pd_21 rfl) (Nat.le_of_eq rfl) eT (by decide) (by decide) rfl rfl (H at_185) fun v27 T27 Lc27 X27 hQ27 => ?_
    obtain ⟨rfl, N27q, eq27⟩ := hQ27
    have N27 := Fr.app N N27q
    show Gs p e below _ T27 m 188 #[iv p1, iv p2, iv p3, iv p4, iv p5, iv i1, iv r0_23, iv r0_24, iv r0_25, iv r0_26, rv x, .unset] [(.int i1)]
    refine g_ifYes X27 hx 233 (H at_188) (feq (by decide : ¬ (i1 = i0))).2 (by decide) (by decide) ?_
    refine g_iconst X27 hx i1 (H at_233) rfl ?_
    refine g_goto X27 hx 238 (H at_234) (by decide) (by decide) ?_
    refine g_istore X27 hx (H at_238) (l' := #[iv p1, iv p2, iv p3, iv p4, iv p5, iv i1, iv r0_23, iv r0_24, iv r0_25, iv r0_26, rv x, iv i1]) rfl ?_
    refine g_aload X27 hx (H at_240) rfl rfl ?_
    refine g_static X27 hx hZ hM hown (tw28 hw) (tw29 hw) (tw30 hw) (tw31 hw) (by decide) 0 (by decide) (by decide) (by rw [hml]; rfl) [(.ref x)] [] (lenOf pd_19 rfl) (Nat.le_of_eq rfl) eq27 (by decide) (by decide) rfl rfl (H at_242) fun v28 T28 Lc28 X28 hQ28 => ?_
    obtain ⟨r0_28, rfl, hp28, N28q, eq28⟩ := hQ28
    have N28 := Fr.app N27 N28q
    show Gs p e below _ T28 m 245 #[iv p1, iv p2, iv p3, iv p4, iv p5, iv i1, iv r0_23, iv r0_24, iv r0_25, iv r0_26, rv x, iv i1] [(.int r0_28)]
    refine g_iload X28 hx (H at_245) rfl ?_
    refine g_icmpNo X28 hx (H at_247) (teq (hp28.elim (fun q => absurd hc_41 (q.2.1)) (fun q => q.1))).2 ?_
    refine g_iconst X28 hx i1 (H at_250) rfl ?_
    refine g_goto X28 hx 255 (H at_251) (by decide) (by decide) ?_
    exact Go.retW (Q := Q0 n0) hS (hk) X28 (v := some (.int i1)) (fun h => by rw [Bd.returns] at h; cases h) Bd.notSynchronized (fun fs hr => retN X28 hx (t := .boolean) Bd.returns (by simp) (H at_255) hr) eq28 ⟨rfl, N28⟩ (by decide) (by decide)
   ·skip
    by_cases hc_42 : r0_23 = i63
    ·skip
     refine g_static X hx hZ (rm18_ft l Z a0 hw r0_23 h n0 (Nat.le_trans Z0 K.1) hc_41 hc_42) hown (tw82 hw) (tw83 hw) (tw3 hw) (tw84 hw) (by decide) 0 (by decide) (by decide) (by rw [hml]; rfl) [(.int r0_23)] [] (lenOf pd_21 rfl) (Nat.le_of_eq rfl) eT (by decide) (by decide) rfl rfl (H at_185) fun v27 T27 Lc27 X27 hQ27 => ?_
     obtain ⟨rfl, N27q, eq27⟩ := hQ27
     have N27 := Fr.app N N27q
     show Gs p e below _ T27 m 188 #[iv p1, iv p2, iv p3, iv p4, iv p5, iv i1, iv r0_23, iv r0_24, iv r0_25, iv r0_26, rv x, .unset] [(.int i1)]
     refine g_ifYes X27 hx 233 (H at_188) (feq (by decide : ¬ (i1 = i0))).2 (by decide) (by decide) ?_
     refine g_iconst X27 hx i1 (H at_233) rfl ?_
     refine g_goto X27 hx 238 (H at_234) (by decide) (by decide) ?_
     refine g_istore X27 hx (H at_238) (l' := #[iv p1, iv p2, iv p3, iv p4, iv p5, iv i1, iv r0_23, iv r0_24, iv r0_25, iv r0_26, rv x, iv i1]) rfl ?_
     refine g_aload X27 hx (H at_240) rfl rfl ?_
     refine g_static X27 hx hZ hM hown (tw28 hw) (tw29 hw) (tw30 hw) (tw31 hw) (by decide) 0 (by decide) (by decide) (by rw [hml]; rfl) [(.ref x)] [] (lenOf pd_19 rfl) (Nat.le_of_eq rfl) eq27 (by decide) (by decide) rfl rfl (H at_242) fun v28 T28 Lc28 X28 hQ28 => ?_
     obtain ⟨r0_28, rfl, hp28, N28q, eq28⟩ := hQ28
     have N28 := Fr.app N27 N28q
     show Gs p e below _ T28 m 245 #[iv p1, iv p2, iv p3, iv p4, iv p5, iv i1, iv r0_23, iv r0_24, iv r0_25, iv r0_26, rv x, iv i1] [(.int r0_28)]
     refine g_iload X28 hx (H at_245) rfl ?_
     refine g_icmpNo X28 hx (H at_247) (teq (hp28.elim (fun q => absurd hc_42 (q.2.2)) (fun q => q.1))).2 ?_
     refine g_iconst X28 hx i1 (H at_250) rfl ?_
     refine g_goto X28 hx 255 (H at_251) (by decide) (by decide) ?_
     exact Go.retW (Q := Q0 n0) hS (hk) X28 (v := some (.int i1)) (fun h => by rw [Bd.returns] at h; cases h) Bd.notSynchronized (fun fs hr => retN X28 hx (t := .boolean) Bd.returns (by simp) (H at_255) hr) eq28 ⟨rfl, N28⟩ (by decide) (by decide)
    ·skip
     refine g_static X hx hZ (rm18_ff l Z a0 hw r0_23 h n0 (Nat.le_trans Z0 K.1) hc_41 hc_42) hown (tw82 hw) (tw83 hw) (tw3 hw) (tw84 hw) (by decide) 0 (by decide) (by decide) (by rw [hml]; rfl) [(.int r0_23)] [] (lenOf pd_21 rfl) (Nat.le_of_eq rfl) eT (by decide) (by decide) rfl rfl (H at_185) fun v27 T27 Lc27 X27 hQ27 => ?_
     obtain ⟨rfl, N27q, eq27⟩ := hQ27
     have N27 := Fr.app N N27q
     show Gs p e below _ T27 m 188 #[iv p1, iv p2, iv p3, iv p4, iv p5, iv i1, iv r0_23, iv r0_24, iv r0_25, iv r0_26, rv x, .unset] [(.int i0)]
     refine g_ifNo X27 hx (H at_188) (teq (by decide : (i0 = i0))).2 ?_
     refine g_iload X27 hx (H at_191) rfl ?_
     refine g_iconst X27 hx i1 (H at_193) rfl ?_
     refine g_icmpYes X27 hx 205 (H at_194) (flt (by decide : ¬ (i1 < i1))).2.2.2 (by decide) (by decide) ?_
     refine g_iload X27 hx (H at_205) rfl ?_
     refine g_iconst X27 hx i2 (H at_207) rfl ?_
     refine g_icmpYes X27 hx 219 (H at_208) (flt (by decide : ¬ (i2 < i1))).2.2.2 (by decide) (by decide) ?_
     refine g_iload X27 hx (H at_219) rfl ?_
     refine g_iconst X27 hx i3 (H at_221) rfl ?_
     refine g_icmpYes X27 hx 237 (H at_222) (flt (by decide : ¬ (i3 < i1))).2.2.2 (by decide) (by decide) ?_
     refine g_iconst X27 hx i0 (H at_237) rfl ?_
     refine g_istore X27 hx (H at_238) (l' := #[iv p1, iv p2, iv p3, iv p4, iv p5, iv i1, iv r0_23, iv r0_24, iv r0_25, iv r0_26, rv x, iv i0]) rfl ?_
     refine g_aload X27 hx (H at_240) rfl rfl ?_
     refine g_static X27 hx hZ hM hown (tw28 hw) (tw29 hw) (tw30 hw) (tw31 hw) (by decide) 0 (by decide) (by decide) (by rw [hml]; rfl) [(.ref x)] [] (lenOf pd_19 rfl) (Nat.le_of_eq rfl) eq27 (by decide) (by decide) rfl rfl (H at_242) fun v28 T28 Lc28 X28 hQ28 => ?_
     obtain ⟨r0_28, rfl, hp28, N28q, eq28⟩ := hQ28
     have N28 := Fr.app N27 N28q
     show Gs p e below _ T28 m 245 #[iv p1, iv p2, iv p3, iv p4, iv p5, iv i1, iv r0_23, iv r0_24, iv r0_25, iv r0_26, rv x, iv i0] [(.int r0_28)]
     refine g_iload X28 hx (H at_245) rfl ?_
     refine g_icmpNo X28 hx (H at_247) (teq (hp28.elim (fun q => q.1) (fun q => absurd ⟨hc_41, hc_42⟩ q.2))).2 ?_
     refine g_iconst X28 hx i1 (H at_250) rfl ?_
     refine g_goto X28 hx 255 (H at_251) (by decide) (by decide) ?_
     exact Go.retW (Q := Q0 n0) hS (hk) X28 (v := some (.int i1)) (fun h => by rw [Bd.returns] at h; cases h) Bd.notSynchronized (fun fs hr => retN X28 hx (t := .boolean) Bd.returns (by simp) (H at_255) hr) eq28 ⟨rfl, N28⟩ (by decide) (by decide)
  refine g_iload X26 hx (H at_33) rfl ?_
  refine g_ifYes X26 hx 53 (H at_35) (feq (by decide : ¬ (i1 = i0))).2 (by decide) (by decide) ?_
  refine g_iload X26 hx (H at_53) rfl ?_
  refine g_iconst X26 hx i1 (H at_55) rfl ?_
  refine g_icmpNo X26 hx (H at_56) (teq (by decide : (i1 = i1))).2 ?_
  refine g_new X26 hx hZ hown (tw6 hw) (tw7 hw) (tw8 hw) eq26 (H at_59) (by decide) (by decide) fun b29 T29 h29 g29 X29 e29 E29 A29 D29 => ?_
  have g_b29 : n0 ≤ b29 := Nat.le_trans Z0 (Nat.le_of_eq g29.symm)
  have sz_b29 : h0.size ≤ b29 := Nat.le_of_eq g29.symm
  have K29 : Keep h0 h29 [] := (Keep.refl h0 []).ext E29
  have E_b29 : Exa Z h29 b29 s0_ := A29
  have F_value_b29 : Fld Z h29 b29 s0_ "value" "[B" .null := D29 (Or.inr (tw22 hw)) (ty := (.array .byte)) (by decide)
  have F_coder_b29 : Fld Z h29 b29 s0_ "coder" "B" (.int i0) := D29 (Or.inr (tw23 hw)) (ty := .byte) (by decide)
  refine g_dup X29 hx (H at_62) rfl ?_
  refine g_iconst X29 hx i1 (H at_63) rfl ?_
  refine g_newP X29 hx hZ (H at_64) (tw9 hw) e29 (by decide) 1 (by decide) (by decide) (by decide) (by decide) fun b30 T30 h30 k30 g30 X30 e30 E30 A30 => ?_
  have g_b30 : n0 ≤ b30 := Nat.le_trans (Nat.le_trans Z0 K29.1) (Nat.le_of_eq g30.symm)
  have sz_b30 : h0.size ≤ b30 := Nat.le_trans K29.1 (Nat.le_of_eq g30.symm)
  have lt_b29_b30 : b29 < b30 := Nat.lt_of_lt_of_le E_b29.lt (Nat.le_of_eq g30.symm)
  have K30 : Keep h0 h30 [] := K29.ext E30
  have V_b30 : Arv Z h30 b30 k30 .char i1 [(.int i0)] (.int i0) := (Arv.new A30 (by decide)).pad (pad_rep [] (.int i0) 1)
  refine g_dup X30 hx (H at_66) rfl ?_
  refine g_iconst X30 hx i0 (H at_67) rfl ?_
  refine g_iload X30 hx (H at_68) rfl ?_
  obtain ⟨clq31, Arq31, caq31, saq31, naq31, haq31, gaq31⟩ := id V_b30
  have inq31 : ¬ (i0 < 0 ∨ clq31.slots.size ≤ (i0).toNatClampNeg) := inb_of saq31 ⟨by decide, by decide⟩
  refine g_stC X30 hx hZ e30 Arq31 inq31 (H at_70) fun T32 h32 X32 e32 W32 => ?_
  have K32 : Keep h0 h32 [] := K30.wr W32 (Or.inr sz_b30)
  have V32 : Arv Z h32 b30 k30 .char i1 [(.int (nar .char r0_23))] (.int i0) := Arv.set Arq31 caq31 saq31 naq31 haq31 gaq31 (fits_nar_char _) W32 0 rfl (Nat.le_of_ble_eq_true rfl)
  rw [own_nar hp23] at V32
  have N32 := Fr.snoc X32 N26 g_b30
  by_cases hc_43 : i255 < r0_23
  ·skip
   have f_33 := (Exa.wr W32 (Exa.ext E30 E_b29))
   have f_34 := (staKeep0 S__assertionsDisabled K32)
   have f_35 := (staKeep0 S_HI_BYTE_SHIFT K32)
   have f_36 := (staKeep0 S_LO_BYTE_SHIFT K32)
   have f_37 := (Fld.other W32 (Fld.ext E30 F_coder_b29) (Or.inl (Nat.ne_of_lt lt_b29_b30)))
   have f_38 := (Fld.other W32 (Fld.ext E30 F_value_b29) (Or.inl (Nat.ne_of_lt lt_b29_b30)))
   have f_39 := (staKeep0 S_COMPACT_STRINGS K32)
   refine g_special X32 hx hZ (rm21U_f l Z a0 hw b29 b30 r0_23 k30 (.int i0) .null wcs h32 n0 (Nat.le_trans Z0 K32.1) f_33 V32 hp23 f_34 f_35 f_36 f_37 f_38 g_b29 (Ne.symm (Nat.ne_of_lt lt_b29_b30)) hc_43 hcs f_39) rfl rfl hown (tw10 hw) (tw11 hw) (tw8 hw) (tw12 hw) (by decide) 1 (by decide) (by decide) (by rw [hml]; rfl) [(.ref b30)] [(.ref b29)] (lenOf pd_20 rfl) (Nat.le_of_eq rfl) e32 (by decide) (by decide) rfl rfl (H at_71) fun v40 T40 Lc40 X40 hQ40 => ?_
   obtain ⟨b2_2_8_6_5_40, k2_2_8_6_5_40, rfl, N40q, Kc40, P40_0, P40_1, P40_2, P40_3⟩ := hQ40
   have K40 : Keep h0 T40.heap [] := K32.trans Kc40 (allS (Or.inr sz_b29) all0)
   have N40 := Fr.app N32 N40q
   show Gs p e below _ T40 m 74 #[iv p1, iv p2, iv p3, iv p4, iv p5, iv i1, iv r0_23, iv r0_24, iv r0_25, iv r0_26, .unset, .unset] [(.ref b29)]
   refine g_astore X40 hx (H at_74) rfl (l' := #[iv p1, iv p2, iv p3, iv p4, iv p5, iv i1, iv r0_23, iv r0_24, iv r0_25, iv r0_26, rv b29, .unset]) rfl ?_
   refine g_goto X40 hx 178 (H at_76) (by decide) (by decide) ?_
   have f_41 := (staKeepE f_39 Kc40 f_33)
   have f_42 := (staKeepE f_34 Kc40 f_33)
   have f_43 := (staKeepE f_35 Kc40 f_33)
   have f_44 := (staKeepE f_36 Kc40 f_33)
   have hk := (Nat.le_trans (Nat.le_trans (Nat.le_trans (Nat.le_trans hk E29.1) E30.1) (Nat.le_of_eq (Wr.size W32).symm)) Kc40.1)
   exact tail _ _ _ _ _ _ hS hk hZ hown (X40.more (by decide) (by decide)) rfl N40 K40 (rm51U l Z a0 hw b29 b2_2_8_6_5_40 r0_23 k2_2_8_6_5_40 wcs T40.heap n0 (Nat.le_trans Z0 K40.1) P40_0 P40_2 P40_1 P40_3 hp23 f_41 hcs f_42 f_43 f_44 (own_fm K40 hfm))
  ·skip
   have f_33 := (Exa.wr W32 (Exa.ext E30 E_b29))
   have f_34 := (staKeep0 S__assertionsDisabled K32)
   have f_35 := (staKeep0 S_HI_BYTE_SHIFT K32)
   have f_36 := (staKeep0 S_LO_BYTE_SHIFT K32)
   have f_37 := (Fld.other W32 (Fld.ext E30 F_coder_b29) (Or.inl (Nat.ne_of_lt lt_b29_b30)))
   have f_38 := (Fld.other W32 (Fld.ext E30 F_value_b29) (Or.inl (Nat.ne_of_lt lt_b29_b30)))
   have f_39 := (staKeep0 S_COMPACT_STRINGS K32)
   refine g_special X32 hx hZ (rm21L_f l Z a0 hw b29 b30 r0_23 k30 (.int i0) .null wcs h32 n0 (Nat.le_trans Z0 K32.1) f_33 V32 hp23 f_34 f_35 f_36 f_37 f_38 g_b29 (Ne.symm (Nat.ne_of_lt lt_b29_b30)) hc_43 hcs f_39) rfl rfl hown (tw10 hw) (tw11 hw) (tw8 hw) (tw12 hw) (by decide) 1 (by decide) (by decide) (by rw [hml]; rfl) [(.ref b30)] [(.ref b29)] (lenOf pd_20 rfl) (Nat.le_of_eq rfl) e32 (by decide) (by decide) rfl rfl (H at_71) fun v40 T40 Lc40 X40 hQ40 => ?_
   obtain ⟨b2_6_5_40, k2_6_5_40, rfl, N40q, Kc40, P40_0, P40_1, P40_2, P40_3⟩ := hQ40
   have K40 : Keep h0 T40.heap [] := K32.trans Kc40 (allS (Or.inr sz_b29) all0)
   have N40 := Fr.app N32 N40q
   show Gs p e below _ T40 m 74 #[iv p1, iv p2, iv p3, iv p4, iv p5, iv i1, iv r0_23, iv r0_24, iv r0_25, iv r0_26, .unset, .unset] [(.ref b29)]
   refine g_astore X40 hx (H at_74) rfl (l' := #[iv p1, iv p2, iv p3, iv p4, iv p5, iv i1, iv r0_23, iv r0_24, iv r0_25, iv r0_26, rv b29, .unset]) rfl ?_
   refine g_goto X40 hx 178 (H at_76) (by decide) (by decide) ?_
   have f_41 := (staKeepE f_39 Kc40 f_33)
   have hk := (Nat.le_trans (Nat.le_trans (Nat.le_trans (Nat.le_trans hk E29.1) E30.1) (Nat.le_of_eq (Wr.size W32).symm)) Kc40.1)
   exact tail _ _ _ _ _ _ hS hk hZ hown (X40.more (by decide) (by decide)) rfl N40 K40 (rm51L l Z a0 hw b29 b2_6_5_40 r0_23 k2_6_5_40 wcs T40.heap n0 (Nat.le_trans Z0 K40.1) P40_0 P40_2 P40_1 P40_3 hp23 f_41 hcs hc_43)
 ·skip
  rw [hk8]
  show Gs p e below _ s₁ m 6 #[iv p1, iv p2, iv p3, iv p4, iv p5, .unset, .unset, .unset, .unset, .unset, .unset, .unset] [(.int i2)]
  refine g_istore X0 hx (H at_6) (l' := #[iv p1, iv p2, iv p3, iv p4, iv p5, iv i2, .unset, .unset, .unset, .unset, .unset, .unset]) rfl ?_
  refine g_iloadN X0 hx (H at_8) rfl ?_
  refine g_static X0 hx hZ (rm1 l Z a0 hw p2 h0 n0 Z0 ) hown (tw1 hw) (tw2 hw) (tw3 hw) (tw4 hw) (by decide) 0 (by decide) (by decide) (by rw [hml]; rfl) [(.int p2)] [] (lenOf pd_18 rfl) (Nat.le_of_eq rfl) e0 (by decide) (by decide) rfl rfl (H at_9) fun v42 T42 Lc42 X42 hQ42 => ?_
  obtain ⟨r0_42, rfl, hp42, N42q, eq42⟩ := hQ42
  have N42 := Fr.app N0 N42q
  show Gs p e below _ T42 m 12 #[iv p1, iv p2, iv p3, iv p4, iv p5, iv i2, .unset, .unset, .unset, .unset, .unset, .unset] [(.int r0_42)]
  refine g_istore X42 hx (H at_12) (l' := #[iv p1, iv p2, iv p3, iv p4, iv p5, iv i2, iv r0_42, .unset, .unset, .unset, .unset, .unset]) rfl ?_
  refine g_iloadN X42 hx (H at_14) rfl ?_
  refine g_static X42 hx hZ (rm1 l Z a0 hw p3 h0 n0 Z0 ) hown (tw1 hw) (tw2 hw) (tw3 hw) (tw4 hw) (by decide) 0 (by decide) (by decide) (by rw [hml]; rfl) [(.int p3)] [] (lenOf pd_18 rfl) (Nat.le_of_eq rfl) eq42 (by decide) (by decide) rfl rfl (H at_15) fun v43 T43 Lc43 X43 hQ43 => ?_
  obtain ⟨r0_43, rfl, hp43, N43q, eq43⟩ := hQ43
  have N43 := Fr.app N42 N43q
  show Gs p e below _ T43 m 18 #[iv p1, iv p2, iv p3, iv p4, iv p5, iv i2, iv r0_42, .unset, .unset, .unset, .unset, .unset] [(.int r0_43)]
  refine g_istore X43 hx (H at_18) (l' := #[iv p1, iv p2, iv p3, iv p4, iv p5, iv i2, iv r0_42, iv r0_43, .unset, .unset, .unset, .unset]) rfl ?_
  refine g_iloadN X43 hx (H at_20) rfl ?_
  refine g_static X43 hx hZ (rm1 l Z a0 hw p4 h0 n0 Z0 ) hown (tw1 hw) (tw2 hw) (tw3 hw) (tw4 hw) (by decide) 0 (by decide) (by decide) (by rw [hml]; rfl) [(.int p4)] [] (lenOf pd_18 rfl) (Nat.le_of_eq rfl) eq43 (by decide) (by decide) rfl rfl (H at_21) fun v44 T44 Lc44 X44 hQ44 => ?_
  obtain ⟨r0_44, rfl, hp44, N44q, eq44⟩ := hQ44
  have N44 := Fr.app N43 N44q
  show Gs p e below _ T44 m 24 #[iv p1, iv p2, iv p3, iv p4, iv p5, iv i2, iv r0_42, iv r0_43, .unset, .unset, .unset, .unset] [(.int r0_44)]
  refine g_istore X44 hx (H at_24) (l' := #[iv p1, iv p2, iv p3, iv p4, iv p5, iv i2, iv r0_42, iv r0_43, iv r0_44, .unset, .unset, .unset]) rfl ?_
  refine g_iload X44 hx (H at_26) rfl ?_
  refine g_static X44 hx hZ (rm1 l Z a0 hw p5 h0 n0 Z0 ) hown (tw1 hw) (tw2 hw) (tw3 hw) (tw4 hw) (by decide) 0 (by decide) (by decide) (by rw [hml]; rfl) [(.int p5)] [] (lenOf pd_18 rfl) (Nat.le_of_eq rfl) eq44 (by decide) (by decide) rfl rfl (H at_28) fun v45 T45 Lc45 X45 hQ45 => ?_
  obtain ⟨r0_45, rfl, hp45, N45q, eq45⟩ := hQ45
  have N45 := Fr.app N44 N45q
  show Gs p e below _ T45 m 31 #[iv p1, iv p2, iv p3, iv p4, iv p5, iv i2, iv r0_42, iv r0_43, iv r0_44, .unset, .unset, .unset] [(.int r0_45)]
  refine g_istore X45 hx (H at_31) (l' := #[iv p1, iv p2, iv p3, iv p4, iv p5, iv i2, iv r0_42, iv r0_43, iv r0_44, iv r0_45, .unset, .unset]) rfl ?_
  have tail : ∀ (x : Addr) (T : State) (h : Heap) (locs : List Loc) (vm0 : Vm) (k0 : Nat), s.Since vm0 k0 → k0 ≤ h.size → Z.Warmed39 (s.setVm vm0).vm → (s.setVm vm0).vm.findClass "com/example/canny_warden/cannywarden/engine/WildcardHasWildcardPinLaw" = some m.cls → Stand p l e room_1 (s.setVm vm0) m #[(.int p1), (.int p2), (.int p3), (.int p4), (.int p5)] below meth c T locs 20 100 → T.heap = h → Fr n0 locs → Keep h0 h [] → Met l Z h yy29 prog_77_method_6_code 1 (some .boolean) (rmk 9 0 0 210) #[(.ref x)] (own_QH2 r0_42 r0_43 h n0) → Go p e below (fun o s₂ => ∃ v L, o = .returned v ∧ Q0 n0 v s₂.heap L ∧ ReturnedEndW s o s₂ L room_1.cells room_1.slots) (T.setTop (mkF m 178 #[iv p1, iv p2, iv p3, iv p4, iv p5, iv i2, iv r0_42, iv r0_43, iv r0_44, iv r0_45, rv x, .unset] [])) := by
   intro x T h locs vm0 k0 hS hk hZ hown X eT N K hM
   refine g_iload X hx (H at_178) rfl ?_
   refine g_ifNo X hx (H at_180) (tlt (by decide : (i0 < i2))).2.2.2 ?_
   refine g_iload X hx (H at_183) rfl ?_
   by_cases hc_44 : r0_42 = i42
   ·skip
    refine g_static X hx hZ (rm18_t l Z a0 hw r0_42 h n0 (Nat.le_trans Z0 K.1) hc_44) hown (tw82 hw) (tw83 hw) (tw3 hw) (tw84 hw) (by decide) 0 (by decide) (by decide) (by rw [hml]; rfl) [(.int r0_42)] [] (lenOf pd_21 rfl) (Nat.le_of_eq rfl) eT (by decide) (by decide) rfl rfl (H at_185) fun v46 T46 Lc46 X46 hQ46 => ?_
    obtain ⟨rfl, N46q, eq46⟩ := hQ46
    have N46 := Fr.app N N46q
    show Gs p e below _ T46 m 188 #[iv p1, iv p2, iv p3, iv p4, iv p5, iv i2, iv r0_42, iv r0_43, iv r0_44, iv r0_45, rv x, .unset] [(.int i1)]
    refine g_ifYes X46 hx 233 (H at_188) (feq (by decide : ¬ (i1 = i0))).2 (by decide) (by decide) ?_
    refine g_iconst X46 hx i1 (H at_233) rfl ?_
    refine g_goto X46 hx 238 (H at_234) (by decide) (by decide) ?_
    refine g_istore X46 hx (H at_238) (l' := #[iv p1, iv p2, iv p3, iv p4, iv p5, iv i2, iv r0_42, iv r0_43, iv r0_44, iv r0_45, rv x, iv i1]) rfl ?_
    refine g_aload X46 hx (H at_240) rfl rfl ?_
    refine g_static X46 hx hZ hM hown (tw28 hw) (tw29 hw) (tw30 hw) (tw31 hw) (by decide) 0 (by decide) (by decide) (by rw [hml]; rfl) [(.ref x)] [] (lenOf pd_19 rfl) (Nat.le_of_eq rfl) eq46 (by decide) (by decide) rfl rfl (H at_242) fun v47 T47 Lc47 X47 hQ47 => ?_
    obtain ⟨r0_47, rfl, hp47, N47q, eq47⟩ := hQ47
    have N47 := Fr.app N46 N47q
    show Gs p e below _ T47 m 245 #[iv p1, iv p2, iv p3, iv p4, iv p5, iv i2, iv r0_42, iv r0_43, iv r0_44, iv r0_45, rv x, iv i1] [(.int r0_47)]
    refine g_iload X47 hx (H at_245) rfl ?_
    refine g_icmpNo X47 hx (H at_247) (teq (hp47.elim (fun q => absurd hc_44 (q.2.1.1)) (fun q => q.1))).2 ?_
    refine g_iconst X47 hx i1 (H at_250) rfl ?_
    refine g_goto X47 hx 255 (H at_251) (by decide) (by decide) ?_
    exact Go.retW (Q := Q0 n0) hS (hk) X47 (v := some (.int i1)) (fun h => by rw [Bd.returns] at h; cases h) Bd.notSynchronized (fun fs hr => retN X47 hx (t := .boolean) Bd.returns (by simp) (H at_255) hr) eq47 ⟨rfl, N47⟩ (by decide) (by decide)
   ·skip
    by_cases hc_45 : r0_42 = i63
    ·skip
     refine g_static X hx hZ (rm18_ft l Z a0 hw r0_42 h n0 (Nat.le_trans Z0 K.1) hc_44 hc_45) hown (tw82 hw) (tw83 hw) (tw3 hw) (tw84 hw) (by decide) 0 (by decide) (by decide) (by rw [hml]; rfl) [(.int r0_42)] [] (lenOf pd_21 rfl) (Nat.le_of_eq rfl) eT (by decide) (by decide) rfl rfl (H at_185) fun v46 T46 Lc46 X46 hQ46 => ?_
     obtain ⟨rfl, N46q, eq46⟩ := hQ46
     have N46 := Fr.app N N46q
     show Gs p e below _ T46 m 188 #[iv p1, iv p2, iv p3, iv p4, iv p5, iv i2, iv r0_42, iv r0_43, iv r0_44, iv r0_45, rv x, .unset] [(.int i1)]
     refine g_ifYes X46 hx 233 (H at_188) (feq (by decide : ¬ (i1 = i0))).2 (by decide) (by decide) ?_
     refine g_iconst X46 hx i1 (H at_233) rfl ?_
     refine g_goto X46 hx 238 (H at_234) (by decide) (by decide) ?_
     refine g_istore X46 hx (H at_238) (l' := #[iv p1, iv p2, iv p3, iv p4, iv p5, iv i2, iv r0_42, iv r0_43, iv r0_44, iv r0_45, rv x, iv i1]) rfl ?_
     refine g_aload X46 hx (H at_240) rfl rfl ?_
     refine g_static X46 hx hZ hM hown (tw28 hw) (tw29 hw) (tw30 hw) (tw31 hw) (by decide) 0 (by decide) (by decide) (by rw [hml]; rfl) [(.ref x)] [] (lenOf pd_19 rfl) (Nat.le_of_eq rfl) eq46 (by decide) (by decide) rfl rfl (H at_242) fun v47 T47 Lc47 X47 hQ47 => ?_
     obtain ⟨r0_47, rfl, hp47, N47q, eq47⟩ := hQ47
     have N47 := Fr.app N46 N47q
     show Gs p e below _ T47 m 245 #[iv p1, iv p2, iv p3, iv p4, iv p5, iv i2, iv r0_42, iv r0_43, iv r0_44, iv r0_45, rv x, iv i1] [(.int r0_47)]
     refine g_iload X47 hx (H at_245) rfl ?_
     refine g_icmpNo X47 hx (H at_247) (teq (hp47.elim (fun q => absurd hc_45 (q.2.2.1)) (fun q => q.1))).2 ?_
     refine g_iconst X47 hx i1 (H at_250) rfl ?_
     refine g_goto X47 hx 255 (H at_251) (by decide) (by decide) ?_
     exact Go.retW (Q := Q0 n0) hS (hk) X47 (v := some (.int i1)) (fun h => by rw [Bd.returns] at h; cases h) Bd.notSynchronized (fun fs hr => retN X47 hx (t := .boolean) Bd.returns (by simp) (H at_255) hr) eq47 ⟨rfl, N47⟩ (by decide) (by decide)
    ·skip
     refine g_static X hx hZ (rm18_ff l Z a0 hw r0_42 h n0 (Nat.le_trans Z0 K.1) hc_44 hc_45) hown (tw82 hw) (tw83 hw) (tw3 hw) (tw84 hw) (by decide) 0 (by decide) (by decide) (by rw [hml]; rfl) [(.int r0_42)] [] (lenOf pd_21 rfl) (Nat.le_of_eq rfl) eT (by decide) (by decide) rfl rfl (H at_185) fun v46 T46 Lc46 X46 hQ46 => ?_
     obtain ⟨rfl, N46q, eq46⟩ := hQ46
     have N46 := Fr.app N N46q
     show Gs p e below _ T46 m 188 #[iv p1, iv p2, iv p3, iv p4, iv p5, iv i2, iv r0_42, iv r0_43, iv r0_44, iv r0_45, rv x, .unset] [(.int i0)]
     refine g_ifNo X46 hx (H at_188) (teq (by decide : (i0 = i0))).2 ?_
     refine g_iload X46 hx (H at_191) rfl ?_
     refine g_iconst X46 hx i1 (H at_193) rfl ?_
     refine g_icmpNo X46 hx (H at_194) (tlt (by decide : (i1 < i2))).2.2.2 ?_
     refine g_iload X46 hx (H at_197) rfl ?_
     by_cases hc_46 : r0_43 = i42
     ·skip
      refine g_static X46 hx hZ (rm18_t l Z a0 hw r0_43 h n0 (Nat.le_trans Z0 K.1) hc_46) hown (tw82 hw) (tw83 hw) (tw3 hw) (tw84 hw) (by decide) 0 (by decide) (by decide) (by rw [hml]; rfl) [(.int r0_43)] [] (lenOf pd_21 rfl) (Nat.le_of_eq rfl) eq46 (by decide) (by decide) rfl rfl (H at_199) fun v47 T47 Lc47 X47 hQ47 => ?_
      obtain ⟨rfl, N47q, eq47⟩ := hQ47
      have N47 := Fr.app N46 N47q
      show Gs p e below _ T47 m 202 #[iv p1, iv p2, iv p3, iv p4, iv p5, iv i2, iv r0_42, iv r0_43, iv r0_44, iv r0_45, rv x, .unset] [(.int i1)]
      refine g_ifYes X47 hx 233 (H at_202) (feq (by decide : ¬ (i1 = i0))).2 (by decide) (by decide) ?_
      refine g_iconst X47 hx i1 (H at_233) rfl ?_
      refine g_goto X47 hx 238 (H at_234) (by decide) (by decide) ?_
      refine g_istore X47 hx (H at_238) (l' := #[iv p1, iv p2, iv p3, iv p4, iv p5, iv i2, iv r0_42, iv r0_43, iv r0_44, iv r0_45, rv x, iv i1]) rfl ?_
      refine g_aload X47 hx (H at_240) rfl rfl ?_
      refine g_static X47 hx hZ hM hown (tw28 hw) (tw29 hw) (tw30 hw) (tw31 hw) (by decide) 0 (by decide) (by decide) (by rw [hml]; rfl) [(.ref x)] [] (lenOf pd_19 rfl) (Nat.le_of_eq rfl) eq47 (by decide) (by decide) rfl rfl (H at_242) fun v48 T48 Lc48 X48 hQ48 => ?_
      obtain ⟨r0_48, rfl, hp48, N48q, eq48⟩ := hQ48
      have N48 := Fr.app N47 N48q
      show Gs p e below _ T48 m 245 #[iv p1, iv p2, iv p3, iv p4, iv p5, iv i2, iv r0_42, iv r0_43, iv r0_44, iv r0_45, rv x, iv i1] [(.int r0_48)]
      refine g_iload X48 hx (H at_245) rfl ?_
      refine g_icmpNo X48 hx (H at_247) (teq (hp48.elim (fun q => absurd hc_46 (q.2.1.2)) (fun q => q.1))).2 ?_
      refine g_iconst X48 hx i1 (H at_250) rfl ?_
      refine g_goto X48 hx 255 (H at_251) (by decide) (by decide) ?_
      exact Go.retW (Q := Q0 n0) hS (hk) X48 (v := some (.int i1)) (fun h => by rw [Bd.returns] at h; cases h) Bd.notSynchronized (fun fs hr => retN X48 hx (t := .boolean) Bd.returns (by simp) (H at_255) hr) eq48 ⟨rfl, N48⟩ (by decide) (by decide)
     ·skip
      by_cases hc_47 : r0_43 = i63
      ·skip
       refine g_static X46 hx hZ (rm18_ft l Z a0 hw r0_43 h n0 (Nat.le_trans Z0 K.1) hc_46 hc_47) hown (tw82 hw) (tw83 hw) (tw3 hw) (tw84 hw) (by decide) 0 (by decide) (by decide) (by rw [hml]; rfl) [(.int r0_43)] [] (lenOf pd_21 rfl) (Nat.le_of_eq rfl) eq46 (by decide) (by decide) rfl rfl (H at_199) fun v47 T47 Lc47 X47 hQ47 => ?_
       obtain ⟨rfl, N47q, eq47⟩ := hQ47
       have N47 := Fr.app N46 N47q
       show Gs p e below _ T47 m 202 #[iv p1, iv p2, iv p3, iv p4, iv p5, iv i2, iv r0_42, iv r0_43, iv r0_44, iv r0_45, rv x, .unset] [(.int i1)]
       refine g_ifYes X47 hx 233 (H at_202) (feq (by decide : ¬ (i1 = i0))).2 (by decide) (by decide) ?_
       refine g_iconst X47 hx i1 (H at_233) rfl ?_
       refine g_goto X47 hx 238 (H at_234) (by decide) (by decide) ?_
       refine g_istore X47 hx (H at_238) (l' := #[iv p1, iv p2, iv p3, iv p4, iv p5, iv i2, iv r0_42, iv r0_43, iv r0_44, iv r0_45, rv x, iv i1]) rfl ?_
       refine g_aload X47 hx (H at_240) rfl rfl ?_
       refine g_static X47 hx hZ hM hown (tw28 hw) (tw29 hw) (tw30 hw) (tw31 hw) (by decide) 0 (by decide) (by decide) (by rw [hml]; rfl) [(.ref x)] [] (lenOf pd_19 rfl) (Nat.le_of_eq rfl) eq47 (by decide) (by decide) rfl rfl (H at_242) fun v48 T48 Lc48 X48 hQ48 => ?_
       obtain ⟨r0_48, rfl, hp48, N48q, eq48⟩ := hQ48
       have N48 := Fr.app N47 N48q
       show Gs p e below _ T48 m 245 #[iv p1, iv p2, iv p3, iv p4, iv p5, iv i2, iv r0_42, iv r0_43, iv r0_44, iv r0_45, rv x, iv i1] [(.int r0_48)]
       refine g_iload X48 hx (H at_245) rfl ?_
       refine g_icmpNo X48 hx (H at_247) (teq (hp48.elim (fun q => absurd hc_47 (q.2.2.2)) (fun q => q.1))).2 ?_
       refine g_iconst X48 hx i1 (H at_250) rfl ?_
       refine g_goto X48 hx 255 (H at_251) (by decide) (by decide) ?_
       exact Go.retW (Q := Q0 n0) hS (hk) X48 (v := some (.int i1)) (fun h => by rw [Bd.returns] at h; cases h) Bd.notSynchronized (fun fs hr => retN X48 hx (t := .boolean) Bd.returns (by simp) (H at_255) hr) eq48 ⟨rfl, N48⟩ (by decide) (by decide)
      ·skip
       refine g_static X46 hx hZ (rm18_ff l Z a0 hw r0_43 h n0 (Nat.le_trans Z0 K.1) hc_46 hc_47) hown (tw82 hw) (tw83 hw) (tw3 hw) (tw84 hw) (by decide) 0 (by decide) (by decide) (by rw [hml]; rfl) [(.int r0_43)] [] (lenOf pd_21 rfl) (Nat.le_of_eq rfl) eq46 (by decide) (by decide) rfl rfl (H at_199) fun v47 T47 Lc47 X47 hQ47 => ?_
       obtain ⟨rfl, N47q, eq47⟩ := hQ47
       have N47 := Fr.app N46 N47q
       show Gs p e below _ T47 m 202 #[iv p1, iv p2, iv p3, iv p4, iv p5, iv i2, iv r0_42, iv r0_43, iv r0_44, iv r0_45, rv x, .unset] [(.int i0)]
       refine g_ifNo X47 hx (H at_202) (teq (by decide : (i0 = i0))).2 ?_
       refine g_iload X47 hx (H at_205) rfl ?_
       refine g_iconst X47 hx i2 (H at_207) rfl ?_
       refine g_icmpYes X47 hx 219 (H at_208) (flt (by decide : ¬ (i2 < i2))).2.2.2 (by decide) (by decide) ?_
       refine g_iload X47 hx (H at_219) rfl ?_
       refine g_iconst X47 hx i3 (H at_221) rfl ?_
       refine g_icmpYes X47 hx 237 (H at_222) (flt (by decide : ¬ (i3 < i2))).2.2.2 (by decide) (by decide) ?_
       refine g_iconst X47 hx i0 (H at_237) rfl ?_
       refine g_istore X47 hx (H at_238) (l' := #[iv p1, iv p2, iv p3, iv p4, iv p5, iv i2, iv r0_42, iv r0_43, iv r0_44, iv r0_45, rv x, iv i0]) rfl ?_
       refine g_aload X47 hx (H at_240) rfl rfl ?_
       refine g_static X47 hx hZ hM hown (tw28 hw) (tw29 hw) (tw30 hw) (tw31 hw) (by decide) 0 (by decide) (by decide) (by rw [hml]; rfl) [(.ref x)] [] (lenOf pd_19 rfl) (Nat.le_of_eq rfl) eq47 (by decide) (by decide) rfl rfl (H at_242) fun v48 T48 Lc48 X48 hQ48 => ?_
       obtain ⟨r0_48, rfl, hp48, N48q, eq48⟩ := hQ48
       have N48 := Fr.app N47 N48q
       show Gs p e below _ T48 m 245 #[iv p1, iv p2, iv p3, iv p4, iv p5, iv i2, iv r0_42, iv r0_43, iv r0_44, iv r0_45, rv x, iv i0] [(.int r0_48)]
       refine g_iload X48 hx (H at_245) rfl ?_
       refine g_icmpNo X48 hx (H at_247) (teq (hp48.elim (fun q => q.1) (fun q => absurd ⟨⟨hc_44, hc_46⟩, ⟨hc_45, hc_47⟩⟩ q.2))).2 ?_
       refine g_iconst X48 hx i1 (H at_250) rfl ?_
       refine g_goto X48 hx 255 (H at_251) (by decide) (by decide) ?_
       exact Go.retW (Q := Q0 n0) hS (hk) X48 (v := some (.int i1)) (fun h => by rw [Bd.returns] at h; cases h) Bd.notSynchronized (fun fs hr => retN X48 hx (t := .boolean) Bd.returns (by simp) (H at_255) hr) eq48 ⟨rfl, N48⟩ (by decide) (by decide)
  refine g_iload X45 hx (H at_33) rfl ?_
  refine g_ifYes X45 hx 53 (H at_35) (feq (by decide : ¬ (i2 = i0))).2 (by decide) (by decide) ?_
  refine g_iload X45 hx (H at_53) rfl ?_
  refine g_iconst X45 hx i1 (H at_55) rfl ?_
  refine g_icmpYes X45 hx 79 (H at_56) (feq (by decide : ¬ (i2 = i1))).2 (by decide) (by decide) ?_
  refine g_iload X45 hx (H at_79) rfl ?_
  refine g_iconst X45 hx i2 (H at_81) rfl ?_
  refine g_icmpNo X45 hx (H at_82) (teq (by decide : (i2 = i2))).2 ?_
  refine g_new X45 hx hZ hown (tw6 hw) (tw7 hw) (tw8 hw) eq45 (H at_85) (by decide) (by decide) fun b49 T49 h49 g49 X49 e49 E49 A49 D49 => ?_
  have g_b49 : n0 ≤ b49 := Nat.le_trans Z0 (Nat.le_of_eq g49.symm)
  have sz_b49 : h0.size ≤ b49 := Nat.le_of_eq g49.symm
  have K49 : Keep h0 h49 [] := (Keep.refl h0 []).ext E49
  have E_b49 : Exa Z h49 b49 s0_ := A49
  have F_value_b49 : Fld Z h49 b49 s0_ "value" "[B" .null := D49 (Or.inr (tw22 hw)) (ty := (.array .byte)) (by decide)
  have F_coder_b49 : Fld Z h49 b49 s0_ "coder" "B" (.int i0) := D49 (Or.inr (tw23 hw)) (ty := .byte) (by decide)
  refine g_dup X49 hx (H at_88) rfl ?_
  refine g_iconst X49 hx i2 (H at_89) rfl ?_
  refine g_newP X49 hx hZ (H at_90) (tw9 hw) e49 (by decide) 2 (by decide) (by decide) (by decide) (by decide) fun b50 T50 h50 k50 g50 X50 e50 E50 A50 => ?_
  have g_b50 : n0 ≤ b50 := Nat.le_trans (Nat.le_trans Z0 K49.1) (Nat.le_of_eq g50.symm)
  have sz_b50 : h0.size ≤ b50 := Nat.le_trans K49.1 (Nat.le_of_eq g50.symm)
  have lt_b49_b50 : b49 < b50 := Nat.lt_of_lt_of_le E_b49.lt (Nat.le_of_eq g50.symm)
  have K50 : Keep h0 h50 [] := K49.ext E50
  have V_b50 : Arv Z h50 b50 k50 .char i2 [(.int i0), (.int i0)] (.int i0) := (Arv.new A50 (by decide)).pad (pad_rep [] (.int i0) 2)
  refine g_dup X50 hx (H at_92) rfl ?_
  refine g_iconst X50 hx i0 (H at_93) rfl ?_
  refine g_iload X50 hx (H at_94) rfl ?_
  obtain ⟨clq51, Arq51, caq51, saq51, naq51, haq51, gaq51⟩ := id V_b50
  have inq51 : ¬ (i0 < 0 ∨ clq51.slots.size ≤ (i0).toNatClampNeg) := inb_of saq51 ⟨by decide, by decide⟩
  refine g_stC X50 hx hZ e50 Arq51 inq51 (H at_96) fun T52 h52 X52 e52 W52 => ?_
  have K52 : Keep h0 h52 [] := K50.wr W52 (Or.inr sz_b50)
  have V52 : Arv Z h52 b50 k50 .char i2 [(.int (nar .char r0_42)), (.int i0)] (.int i0) := Arv.set Arq51 caq51 saq51 naq51 haq51 gaq51 (fits_nar_char _) W52 0 rfl (Nat.le_of_ble_eq_true rfl)
  rw [own_nar hp42] at V52
  have N52 := Fr.snoc X52 N45 g_b50
  refine g_dup X52 hx (H at_97) rfl ?_
  refine g_iconst X52 hx i1 (H at_98) rfl ?_
  refine g_iload X52 hx (H at_99) rfl ?_
  obtain ⟨clq53, Arq53, caq53, saq53, naq53, haq53, gaq53⟩ := id V52
  have inq53 : ¬ (i1 < 0 ∨ clq53.slots.size ≤ (i1).toNatClampNeg) := inb_of saq53 ⟨by decide, by decide⟩
  refine g_stC X52 hx hZ e52 Arq53 inq53 (H at_101) fun T54 h54 X54 e54 W54 => ?_
  have K54 : Keep h0 h54 [] := K52.wr W54 (Or.inr sz_b50)
  have V54 : Arv Z h54 b50 k50 .char i2 [(.int r0_42), (.int (nar .char r0_43))] (.int i0) := Arv.set Arq53 caq53 saq53 naq53 haq53 gaq53 (fits_nar_char _) W54 1 rfl (Nat.le_of_ble_eq_true rfl)
  rw [own_nar hp43] at V54
  have N54 := Fr.snoc X54 N52 g_b50
  by_cases hc_48 : i255 < r0_42
  ·skip
   have f_55 := (Exa.wr W54 (Exa.wr W52 (Exa.ext E50 E_b49)))
   have f_56 := (staKeep0 S__assertionsDisabled K54)
   have f_57 := (staKeep0 S_HI_BYTE_SHIFT K54)
   have f_58 := (staKeep0 S_LO_BYTE_SHIFT K54)
   have f_59 := (Fld.other W54 (Fld.other W52 (Fld.ext E50 F_coder_b49) (Or.inl (Nat.ne_of_lt lt_b49_b50))) (Or.inl (Nat.ne_of_lt lt_b49_b50)))
   have f_60 := (Fld.other W54 (Fld.other W52 (Fld.ext E50 F_value_b49) (Or.inl (Nat.ne_of_lt lt_b49_b50))) (Or.inl (Nat.ne_of_lt lt_b49_b50)))
   have f_61 := (staKeep0 S_COMPACT_STRINGS K54)
   refine g_special X54 hx hZ (rm22U_f l Z a0 hw b49 b50 r0_42 r0_43 k50 (.int i0) .null wcs h54 n0 (Nat.le_trans Z0 K54.1) f_55 V54 hp42 hp43 f_56 f_57 f_58 f_59 f_60 g_b49 (Ne.symm (Nat.ne_of_lt lt_b49_b50)) (Or.inl hc_48) hcs f_61) rfl rfl hown (tw10 hw) (tw11 hw) (tw8 hw) (tw12 hw) (by decide) 1 (by decide) (by decide) (by rw [hml]; rfl) [(.ref b50)] [(.ref b49)] (lenOf pd_20 rfl) (Nat.le_of_eq rfl) e54 (by decide) (by decide) rfl rfl (H at_102) fun v62 T62 Lc62 X62 hQ62 => ?_
   obtain ⟨b2_2_8_6_5_62, k2_2_8_6_5_62, rfl, N62q, Kc62, P62_0, P62_1, P62_2, P62_3⟩ := hQ62
   have K62 : Keep h0 T62.heap [] := K54.trans Kc62 (allS (Or.inr sz_b49) all0)
   have N62 := Fr.app N54 N62q
   show Gs p e below _ T62 m 105 #[iv p1, iv p2, iv p3, iv p4, iv p5, iv i2, iv r0_42, iv r0_43, iv r0_44, iv r0_45, .unset, .unset] [(.ref b49)]
   refine g_astore X62 hx (H at_105) rfl (l' := #[iv p1, iv p2, iv p3, iv p4, iv p5, iv i2, iv r0_42, iv r0_43, iv r0_44, iv r0_45, rv b49, .unset]) rfl ?_
   refine g_goto X62 hx 178 (H at_107) (by decide) (by decide) ?_
   have f_63 := (staKeepE f_61 Kc62 f_55)
   have f_64 := (staKeepE f_56 Kc62 f_55)
   have f_65 := (staKeepE f_57 Kc62 f_55)
   have f_66 := (staKeepE f_58 Kc62 f_55)
   have hk := (Nat.le_trans (Nat.le_trans (Nat.le_trans (Nat.le_trans (Nat.le_trans hk E49.1) E50.1) (Nat.le_of_eq (Wr.size W52).symm)) (Nat.le_of_eq (Wr.size W54).symm)) Kc62.1)
   exact tail _ _ _ _ _ _ hS hk hZ hown (X62.more (by decide) (by decide)) rfl N62 K62 (rm52U l Z a0 hw b49 b2_2_8_6_5_62 r0_42 r0_43 k2_2_8_6_5_62 wcs T62.heap n0 (Nat.le_trans Z0 K62.1) P62_0 P62_2 P62_1 P62_3 hp42 hp43 f_63 hcs f_64 f_65 f_66 (own_fm K62 hfm))
  ·skip
   by_cases hc_49 : i255 < r0_43
   ·skip
    have f_55 := (Exa.wr W54 (Exa.wr W52 (Exa.ext E50 E_b49)))
    have f_56 := (staKeep0 S__assertionsDisabled K54)
    have f_57 := (staKeep0 S_HI_BYTE_SHIFT K54)
    have f_58 := (staKeep0 S_LO_BYTE_SHIFT K54)
    have f_59 := (Fld.other W54 (Fld.other W52 (Fld.ext E50 F_coder_b49) (Or.inl (Nat.ne_of_lt lt_b49_b50))) (Or.inl (Nat.ne_of_lt lt_b49_b50)))
    have f_60 := (Fld.other W54 (Fld.other W52 (Fld.ext E50 F_value_b49) (Or.inl (Nat.ne_of_lt lt_b49_b50))) (Or.inl (Nat.ne_of_lt lt_b49_b50)))
    have f_61 := (staKeep0 S_COMPACT_STRINGS K54)
    refine g_special X54 hx hZ (rm22U_f l Z a0 hw b49 b50 r0_42 r0_43 k50 (.int i0) .null wcs h54 n0 (Nat.le_trans Z0 K54.1) f_55 V54 hp42 hp43 f_56 f_57 f_58 f_59 f_60 g_b49 (Ne.symm (Nat.ne_of_lt lt_b49_b50)) (Or.inr hc_49) hcs f_61) rfl rfl hown (tw10 hw) (tw11 hw) (tw8 hw) (tw12 hw) (by decide) 1 (by decide) (by decide) (by rw [hml]; rfl) [(.ref b50)] [(.ref b49)] (lenOf pd_20 rfl) (Nat.le_of_eq rfl) e54 (by decide) (by decide) rfl rfl (H at_102) fun v62 T62 Lc62 X62 hQ62 => ?_
    obtain ⟨b2_2_8_6_5_62, k2_2_8_6_5_62, rfl, N62q, Kc62, P62_0, P62_1, P62_2, P62_3⟩ := hQ62
    have K62 : Keep h0 T62.heap [] := K54.trans Kc62 (allS (Or.inr sz_b49) all0)
    have N62 := Fr.app N54 N62q
    show Gs p e below _ T62 m 105 #[iv p1, iv p2, iv p3, iv p4, iv p5, iv i2, iv r0_42, iv r0_43, iv r0_44, iv r0_45, .unset, .unset] [(.ref b49)]
    refine g_astore X62 hx (H at_105) rfl (l' := #[iv p1, iv p2, iv p3, iv p4, iv p5, iv i2, iv r0_42, iv r0_43, iv r0_44, iv r0_45, rv b49, .unset]) rfl ?_
    refine g_goto X62 hx 178 (H at_107) (by decide) (by decide) ?_
    have f_63 := (staKeepE f_61 Kc62 f_55)
    have f_64 := (staKeepE f_56 Kc62 f_55)
    have f_65 := (staKeepE f_57 Kc62 f_55)
    have f_66 := (staKeepE f_58 Kc62 f_55)
    have hk := (Nat.le_trans (Nat.le_trans (Nat.le_trans (Nat.le_trans (Nat.le_trans hk E49.1) E50.1) (Nat.le_of_eq (Wr.size W52).symm)) (Nat.le_of_eq (Wr.size W54).symm)) Kc62.1)
    exact tail _ _ _ _ _ _ hS hk hZ hown (X62.more (by decide) (by decide)) rfl N62 K62 (rm52U l Z a0 hw b49 b2_2_8_6_5_62 r0_42 r0_43 k2_2_8_6_5_62 wcs T62.heap n0 (Nat.le_trans Z0 K62.1) P62_0 P62_2 P62_1 P62_3 hp42 hp43 f_63 hcs f_64 f_65 f_66 (own_fm K62 hfm))
   ·skip
    have f_55 := (Exa.wr W54 (Exa.wr W52 (Exa.ext E50 E_b49)))
    have f_56 := (staKeep0 S__assertionsDisabled K54)
    have f_57 := (staKeep0 S_HI_BYTE_SHIFT K54)
    have f_58 := (staKeep0 S_LO_BYTE_SHIFT K54)
    have f_59 := (Fld.other W54 (Fld.other W52 (Fld.ext E50 F_coder_b49) (Or.inl (Nat.ne_of_lt lt_b49_b50))) (Or.inl (Nat.ne_of_lt lt_b49_b50)))
    have f_60 := (Fld.other W54 (Fld.other W52 (Fld.ext E50 F_value_b49) (Or.inl (Nat.ne_of_lt lt_b49_b50))) (Or.inl (Nat.ne_of_lt lt_b49_b50)))
    have f_61 := (staKeep0 S_COMPACT_STRINGS K54)
    refine g_special X54 hx hZ (rm22L_f l Z a0 hw b49 b50 r0_42 r0_43 k50 (.int i0) .null wcs h54 n0 (Nat.le_trans Z0 K54.1) f_55 V54 hp42 hp43 f_56 f_57 f_58 f_59 f_60 g_b49 (Ne.symm (Nat.ne_of_lt lt_b49_b50)) hc_48 hc_49 hcs f_61) rfl rfl hown (tw10 hw) (tw11 hw) (tw8 hw) (tw12 hw) (by decide) 1 (by decide) (by decide) (by rw [hml]; rfl) [(.ref b50)] [(.ref b49)] (lenOf pd_20 rfl) (Nat.le_of_eq rfl) e54 (by decide) (by decide) rfl rfl (H at_102) fun v62 T62 Lc62 X62 hQ62 => ?_
    obtain ⟨b2_6_5_62, k2_6_5_62, rfl, N62q, Kc62, P62_0, P62_1, P62_2, P62_3⟩ := hQ62
    have K62 : Keep h0 T62.heap [] := K54.trans Kc62 (allS (Or.inr sz_b49) all0)
    have N62 := Fr.app N54 N62q
    show Gs p e below _ T62 m 105 #[iv p1, iv p2, iv p3, iv p4, iv p5, iv i2, iv r0_42, iv r0_43, iv r0_44, iv r0_45, .unset, .unset] [(.ref b49)]
    refine g_astore X62 hx (H at_105) rfl (l' := #[iv p1, iv p2, iv p3, iv p4, iv p5, iv i2, iv r0_42, iv r0_43, iv r0_44, iv r0_45, rv b49, .unset]) rfl ?_
    refine g_goto X62 hx 178 (H at_107) (by decide) (by decide) ?_
    have f_63 := (staKeepE f_61 Kc62 f_55)
    have hk := (Nat.le_trans (Nat.le_trans (Nat.le_trans (Nat.le_trans (Nat.le_trans hk E49.1) E50.1) (Nat.le_of_eq (Wr.size W52).symm)) (Nat.le_of_eq (Wr.size W54).symm)) Kc62.1)
    exact tail _ _ _ _ _ _ hS hk hZ hown (X62.more (by decide) (by decide)) rfl N62 K62 (rm52L l Z a0 hw b49 b2_6_5_62 r0_42 r0_43 k2_6_5_62 wcs T62.heap n0 (Nat.le_trans Z0 K62.1) P62_0 P62_2 P62_1 P62_3 hp42 hp43 f_63 hcs hc_48 hc_49)
 ·skip
  rw [hk9]
  show Gs p e below _ s₁ m 6 #[iv p1, iv p2, iv p3, iv p4, iv p5, .unset, .unset, .unset, .unset, .unset, .unset, .unset] [(.int i3)]
  refine g_istore X0 hx (H at_6) (l' := #[iv p1, iv p2, iv p3, iv p4, iv p5, iv i3, .unset, .unset, .unset, .unset, .unset, .unset]) rfl ?_
  refine g_iloadN X0 hx (H at_8) rfl ?_
  refine g_static X0 hx hZ (rm1 l Z a0 hw p2 h0 n0 Z0 ) hown (tw1 hw) (tw2 hw) (tw3 hw) (tw4 hw) (by decide) 0 (by decide) (by decide) (by rw [hml]; rfl) [(.int p2)] [] (lenOf pd_18 rfl) (Nat.le_of_eq rfl) e0 (by decide) (by decide) rfl rfl (H at_9) fun v64 T64 Lc64 X64 hQ64 => ?_
  obtain ⟨r0_64, rfl, hp64, N64q, eq64⟩ := hQ64
  have N64 := Fr.app N0 N64q
  show Gs p e below _ T64 m 12 #[iv p1, iv p2, iv p3, iv p4, iv p5, iv i3, .unset, .unset, .unset, .unset, .unset, .unset] [(.int r0_64)]
  refine g_istore X64 hx (H at_12) (l' := #[iv p1, iv p2, iv p3, iv p4, iv p5, iv i3, iv r0_64, .unset, .unset, .unset, .unset, .unset]) rfl ?_
  refine g_iloadN X64 hx (H at_14) rfl ?_
  refine g_static X64 hx hZ (rm1 l Z a0 hw p3 h0 n0 Z0 ) hown (tw1 hw) (tw2 hw) (tw3 hw) (tw4 hw) (by decide) 0 (by decide) (by decide) (by rw [hml]; rfl) [(.int p3)] [] (lenOf pd_18 rfl) (Nat.le_of_eq rfl) eq64 (by decide) (by decide) rfl rfl (H at_15) fun v65 T65 Lc65 X65 hQ65 => ?_
  obtain ⟨r0_65, rfl, hp65, N65q, eq65⟩ := hQ65
  have N65 := Fr.app N64 N65q
  show Gs p e below _ T65 m 18 #[iv p1, iv p2, iv p3, iv p4, iv p5, iv i3, iv r0_64, .unset, .unset, .unset, .unset, .unset] [(.int r0_65)]
  refine g_istore X65 hx (H at_18) (l' := #[iv p1, iv p2, iv p3, iv p4, iv p5, iv i3, iv r0_64, iv r0_65, .unset, .unset, .unset, .unset]) rfl ?_
  refine g_iloadN X65 hx (H at_20) rfl ?_
  refine g_static X65 hx hZ (rm1 l Z a0 hw p4 h0 n0 Z0 ) hown (tw1 hw) (tw2 hw) (tw3 hw) (tw4 hw) (by decide) 0 (by decide) (by decide) (by rw [hml]; rfl) [(.int p4)] [] (lenOf pd_18 rfl) (Nat.le_of_eq rfl) eq65 (by decide) (by decide) rfl rfl (H at_21) fun v66 T66 Lc66 X66 hQ66 => ?_
  obtain ⟨r0_66, rfl, hp66, N66q, eq66⟩ := hQ66
  have N66 := Fr.app N65 N66q
  show Gs p e below _ T66 m 24 #[iv p1, iv p2, iv p3, iv p4, iv p5, iv i3, iv r0_64, iv r0_65, .unset, .unset, .unset, .unset] [(.int r0_66)]
  refine g_istore X66 hx (H at_24) (l' := #[iv p1, iv p2, iv p3, iv p4, iv p5, iv i3, iv r0_64, iv r0_65, iv r0_66, .unset, .unset, .unset]) rfl ?_
  refine g_iload X66 hx (H at_26) rfl ?_
  refine g_static X66 hx hZ (rm1 l Z a0 hw p5 h0 n0 Z0 ) hown (tw1 hw) (tw2 hw) (tw3 hw) (tw4 hw) (by decide) 0 (by decide) (by decide) (by rw [hml]; rfl) [(.int p5)] [] (lenOf pd_18 rfl) (Nat.le_of_eq rfl) eq66 (by decide) (by decide) rfl rfl (H at_28) fun v67 T67 Lc67 X67 hQ67 => ?_
  obtain ⟨r0_67, rfl, hp67, N67q, eq67⟩ := hQ67
  have N67 := Fr.app N66 N67q
  show Gs p e below _ T67 m 31 #[iv p1, iv p2, iv p3, iv p4, iv p5, iv i3, iv r0_64, iv r0_65, iv r0_66, .unset, .unset, .unset] [(.int r0_67)]
  refine g_istore X67 hx (H at_31) (l' := #[iv p1, iv p2, iv p3, iv p4, iv p5, iv i3, iv r0_64, iv r0_65, iv r0_66, iv r0_67, .unset, .unset]) rfl ?_
  have tail : ∀ (x : Addr) (T : State) (h : Heap) (locs : List Loc) (vm0 : Vm) (k0 : Nat), s.Since vm0 k0 → k0 ≤ h.size → Z.Warmed39 (s.setVm vm0).vm → (s.setVm vm0).vm.findClass "com/example/canny_warden/cannywarden/engine/WildcardHasWildcardPinLaw" = some m.cls → Stand p l e room_1 (s.setVm vm0) m #[(.int p1), (.int p2), (.int p3), (.int p4), (.int p5)] below meth c T locs 20 100 → T.heap = h → Fr n0 locs → Keep h0 h [] → Met l Z h yy29 prog_77_method_6_code 1 (some .boolean) (rmk 9 0 0 210) #[(.ref x)] (own_QH3 r0_64 r0_65 r0_66 h n0) → Go p e below (fun o s₂ => ∃ v L, o = .returned v ∧ Q0 n0 v s₂.heap L ∧ ReturnedEndW s o s₂ L room_1.cells room_1.slots) (T.setTop (mkF m 178 #[iv p1, iv p2, iv p3, iv p4, iv p5, iv i3, iv r0_64, iv r0_65, iv r0_66, iv r0_67, rv x, .unset] [])) := by
   intro x T h locs vm0 k0 hS hk hZ hown X eT N K hM
   refine g_iload X hx (H at_178) rfl ?_
   refine g_ifNo X hx (H at_180) (tlt (by decide : (i0 < i3))).2.2.2 ?_
   refine g_iload X hx (H at_183) rfl ?_
   by_cases hc_50 : r0_64 = i42
   ·skip
    refine g_static X hx hZ (rm18_t l Z a0 hw r0_64 h n0 (Nat.le_trans Z0 K.1) hc_50) hown (tw82 hw) (tw83 hw) (tw3 hw) (tw84 hw) (by decide) 0 (by decide) (by decide) (by rw [hml]; rfl) [(.int r0_64)] [] (lenOf pd_21 rfl) (Nat.le_of_eq rfl) eT (by decide) (by decide) rfl rfl (H at_185) fun v68 T68 Lc68 X68 hQ68 => ?_
    obtain ⟨rfl, N68q, eq68⟩ := hQ68
    have N68 := Fr.app N N68q
    show Gs p e below _ T68 m 188 #[iv p1, iv p2, iv p3, iv p4, iv p5, iv i3, iv r0_64, iv r0_65, iv r0_66, iv r0_67, rv x, .unset] [(.int i1)]
    refine g_ifYes X68 hx 233 (H at_188) (feq (by decide : ¬ (i1 = i0))).2 (by decide) (by decide) ?_
    refine g_iconst X68 hx i1 (H at_233) rfl ?_
    refine g_goto X68 hx 238 (H at_234) (by decide) (by decide) ?_
    refine g_istore X68 hx (H at_238) (l' := #[iv p1, iv p2, iv p3, iv p4, iv p5, iv i3, iv r0_64, iv r0_65, iv r0_66, iv r0_67, rv x, iv i1]) rfl ?_
    refine g_aload X68 hx (H at_240) rfl rfl ?_
    refine g_static X68 hx hZ hM hown (tw28 hw) (tw29 hw) (tw30 hw) (tw31 hw) (by decide) 0 (by decide) (by decide) (by rw [hml]; rfl) [(.ref x)] [] (lenOf pd_19 rfl) (Nat.le_of_eq rfl) eq68 (by decide) (by decide) rfl rfl (H at_242) fun v69 T69 Lc69 X69 hQ69 => ?_
    obtain ⟨r0_69, rfl, hp69, N69q, eq69⟩ := hQ69
    have N69 := Fr.app N68 N69q
    show Gs p e below _ T69 m 245 #[iv p1, iv p2, iv p3, iv p4, iv p5, iv i3, iv r0_64, iv r0_65, iv r0_66, iv r0_67, rv x, iv i1] [(.int r0_69)]
    refine g_iload X69 hx (H at_245) rfl ?_
    refine g_icmpNo X69 hx (H at_247) (teq (hp69.elim (fun q => absurd hc_50 (q.2.1.1)) (fun q => q.1))).2 ?_
    refine g_iconst X69 hx i1 (H at_250) rfl ?_
    refine g_goto X69 hx 255 (H at_251) (by decide) (by decide) ?_
    exact Go.retW (Q := Q0 n0) hS (hk) X69 (v := some (.int i1)) (fun h => by rw [Bd.returns] at h; cases h) Bd.notSynchronized (fun fs hr => retN X69 hx (t := .boolean) Bd.returns (by simp) (H at_255) hr) eq69 ⟨rfl, N69⟩ (by decide) (by decide)
   ·skip
    by_cases hc_51 : r0_64 = i63
    ·skip
     refine g_static X hx hZ (rm18_ft l Z a0 hw r0_64 h n0 (Nat.le_trans Z0 K.1) hc_50 hc_51) hown (tw82 hw) (tw83 hw) (tw3 hw) (tw84 hw) (by decide) 0 (by decide) (by decide) (by rw [hml]; rfl) [(.int r0_64)] [] (lenOf pd_21 rfl) (Nat.le_of_eq rfl) eT (by decide) (by decide) rfl rfl (H at_185) fun v68 T68 Lc68 X68 hQ68 => ?_
     obtain ⟨rfl, N68q, eq68⟩ := hQ68
     have N68 := Fr.app N N68q
     show Gs p e below _ T68 m 188 #[iv p1, iv p2, iv p3, iv p4, iv p5, iv i3, iv r0_64, iv r0_65, iv r0_66, iv r0_67, rv x, .unset] [(.int i1)]
     refine g_ifYes X68 hx 233 (H at_188) (feq (by decide : ¬ (i1 = i0))).2 (by decide) (by decide) ?_
     refine g_iconst X68 hx i1 (H at_233) rfl ?_
     refine g_goto X68 hx 238 (H at_234) (by decide) (by decide) ?_
     refine g_istore X68 hx (H at_238) (l' := #[iv p1, iv p2, iv p3, iv p4, iv p5, iv i3, iv r0_64, iv r0_65, iv r0_66, iv r0_67, rv x, iv i1]) rfl ?_
     refine g_aload X68 hx (H at_240) rfl rfl ?_
     refine g_static X68 hx hZ hM hown (tw28 hw) (tw29 hw) (tw30 hw) (tw31 hw) (by decide) 0 (by decide) (by decide) (by rw [hml]; rfl) [(.ref x)] [] (lenOf pd_19 rfl) (Nat.le_of_eq rfl) eq68 (by decide) (by decide) rfl rfl (H at_242) fun v69 T69 Lc69 X69 hQ69 => ?_
     obtain ⟨r0_69, rfl, hp69, N69q, eq69⟩ := hQ69
     have N69 := Fr.app N68 N69q
     show Gs p e below _ T69 m 245 #[iv p1, iv p2, iv p3, iv p4, iv p5, iv i3, iv r0_64, iv r0_65, iv r0_66, iv r0_67, rv x, iv i1] [(.int r0_69)]
     refine g_iload X69 hx (H at_245) rfl ?_
     refine g_icmpNo X69 hx (H at_247) (teq (hp69.elim (fun q => absurd hc_51 (q.2.2.1)) (fun q => q.1))).2 ?_
     refine g_iconst X69 hx i1 (H at_250) rfl ?_
     refine g_goto X69 hx 255 (H at_251) (by decide) (by decide) ?_
     exact Go.retW (Q := Q0 n0) hS (hk) X69 (v := some (.int i1)) (fun h => by rw [Bd.returns] at h; cases h) Bd.notSynchronized (fun fs hr => retN X69 hx (t := .boolean) Bd.returns (by simp) (H at_255) hr) eq69 ⟨rfl, N69⟩ (by decide) (by decide)
    ·skip
     refine g_static X hx hZ (rm18_ff l Z a0 hw r0_64 h n0 (Nat.le_trans Z0 K.1) hc_50 hc_51) hown (tw82 hw) (tw83 hw) (tw3 hw) (tw84 hw) (by decide) 0 (by decide) (by decide) (by rw [hml]; rfl) [(.int r0_64)] [] (lenOf pd_21 rfl) (Nat.le_of_eq rfl) eT (by decide) (by decide) rfl rfl (H at_185) fun v68 T68 Lc68 X68 hQ68 => ?_
     obtain ⟨rfl, N68q, eq68⟩ := hQ68
     have N68 := Fr.app N N68q
     show Gs p e below _ T68 m 188 #[iv p1, iv p2, iv p3, iv p4, iv p5, iv i3, iv r0_64, iv r0_65, iv r0_66, iv r0_67, rv x, .unset] [(.int i0)]
     refine g_ifNo X68 hx (H at_188) (teq (by decide : (i0 = i0))).2 ?_
     refine g_iload X68 hx (H at_191) rfl ?_
     refine g_iconst X68 hx i1 (H at_193) rfl ?_
     refine g_icmpNo X68 hx (H at_194) (tlt (by decide : (i1 < i3))).2.2.2 ?_
     refine g_iload X68 hx (H at_197) rfl ?_
     by_cases hc_52 : r0_65 = i42
     ·skip
      refine g_static X68 hx hZ (rm18_t l Z a0 hw r0_65 h n0 (Nat.le_trans Z0 K.1) hc_52) hown (tw82 hw) (tw83 hw) (tw3 hw) (tw84 hw) (by decide) 0 (by decide) (by decide) (by rw [hml]; rfl) [(.int r0_65)] [] (lenOf pd_21 rfl) (Nat.le_of_eq rfl) eq68 (by decide) (by decide) rfl rfl (H at_199) fun v69 T69 Lc69 X69 hQ69 => ?_
      obtain ⟨rfl, N69q, eq69⟩ := hQ69
      have N69 := Fr.app N68 N69q
      show Gs p e below _ T69 m 202 #[iv p1, iv p2, iv p3, iv p4, iv p5, iv i3, iv r0_64, iv r0_65, iv r0_66, iv r0_67, rv x, .unset] [(.int i1)]
      refine g_ifYes X69 hx 233 (H at_202) (feq (by decide : ¬ (i1 = i0))).2 (by decide) (by decide) ?_
      refine g_iconst X69 hx i1 (H at_233) rfl ?_
      refine g_goto X69 hx 238 (H at_234) (by decide) (by decide) ?_
      refine g_istore X69 hx (H at_238) (l' := #[iv p1, iv p2, iv p3, iv p4, iv p5, iv i3, iv r0_64, iv r0_65, iv r0_66, iv r0_67, rv x, iv i1]) rfl ?_
      refine g_aload X69 hx (H at_240) rfl rfl ?_
      refine g_static X69 hx hZ hM hown (tw28 hw) (tw29 hw) (tw30 hw) (tw31 hw) (by decide) 0 (by decide) (by decide) (by rw [hml]; rfl) [(.ref x)] [] (lenOf pd_19 rfl) (Nat.le_of_eq rfl) eq69 (by decide) (by decide) rfl rfl (H at_242) fun v70 T70 Lc70 X70 hQ70 => ?_
      obtain ⟨r0_70, rfl, hp70, N70q, eq70⟩ := hQ70
      have N70 := Fr.app N69 N70q
      show Gs p e below _ T70 m 245 #[iv p1, iv p2, iv p3, iv p4, iv p5, iv i3, iv r0_64, iv r0_65, iv r0_66, iv r0_67, rv x, iv i1] [(.int r0_70)]
      refine g_iload X70 hx (H at_245) rfl ?_
      refine g_icmpNo X70 hx (H at_247) (teq (hp70.elim (fun q => absurd hc_52 (q.2.1.2.1)) (fun q => q.1))).2 ?_
      refine g_iconst X70 hx i1 (H at_250) rfl ?_
      refine g_goto X70 hx 255 (H at_251) (by decide) (by decide) ?_
      exact Go.retW (Q := Q0 n0) hS (hk) X70 (v := some (.int i1)) (fun h => by rw [Bd.returns] at h; cases h) Bd.notSynchronized (fun fs hr => retN X70 hx (t := .boolean) Bd.returns (by simp) (H at_255) hr) eq70 ⟨rfl, N70⟩ (by decide) (by decide)
     ·skip
      by_cases hc_53 : r0_65 = i63
      ·skip
       refine g_static X68 hx hZ (rm18_ft l Z a0 hw r0_65 h n0 (Nat.le_trans Z0 K.1) hc_52 hc_53) hown (tw82 hw) (tw83 hw) (tw3 hw) (tw84 hw) (by decide) 0 (by decide) (by decide) (by rw [hml]; rfl) [(.int r0_65)] [] (lenOf pd_21 rfl) (Nat.le_of_eq rfl) eq68 (by decide) (by decide) rfl rfl (H at_199) fun v69 T69 Lc69 X69 hQ69 => ?_
       obtain ⟨rfl, N69q, eq69⟩ := hQ69
       have N69 := Fr.app N68 N69q
       show Gs p e below _ T69 m 202 #[iv p1, iv p2, iv p3, iv p4, iv p5, iv i3, iv r0_64, iv r0_65, iv r0_66, iv r0_67, rv x, .unset] [(.int i1)]
       refine g_ifYes X69 hx 233 (H at_202) (feq (by decide : ¬ (i1 = i0))).2 (by decide) (by decide) ?_
       refine g_iconst X69 hx i1 (H at_233) rfl ?_
       refine g_goto X69 hx 238 (H at_234) (by decide) (by decide) ?_
       refine g_istore X69 hx (H at_238) (l' := #[iv p1, iv p2, iv p3, iv p4, iv p5, iv i3, iv r0_64, iv r0_65, iv r0_66, iv r0_67, rv x, iv i1]) rfl ?_
       refine g_aload X69 hx (H at_240) rfl rfl ?_
       refine g_static X69 hx hZ hM hown (tw28 hw) (tw29 hw) (tw30 hw) (tw31 hw) (by decide) 0 (by decide) (by decide) (by rw [hml]; rfl) [(.ref x)] [] (lenOf pd_19 rfl) (Nat.le_of_eq rfl) eq69 (by decide) (by decide) rfl rfl (H at_242) fun v70 T70 Lc70 X70 hQ70 => ?_
       obtain ⟨r0_70, rfl, hp70, N70q, eq70⟩ := hQ70
       have N70 := Fr.app N69 N70q
       show Gs p e below _ T70 m 245 #[iv p1, iv p2, iv p3, iv p4, iv p5, iv i3, iv r0_64, iv r0_65, iv r0_66, iv r0_67, rv x, iv i1] [(.int r0_70)]
       refine g_iload X70 hx (H at_245) rfl ?_
       refine g_icmpNo X70 hx (H at_247) (teq (hp70.elim (fun q => absurd hc_53 (q.2.2.2.1)) (fun q => q.1))).2 ?_
       refine g_iconst X70 hx i1 (H at_250) rfl ?_
       refine g_goto X70 hx 255 (H at_251) (by decide) (by decide) ?_
       exact Go.retW (Q := Q0 n0) hS (hk) X70 (v := some (.int i1)) (fun h => by rw [Bd.returns] at h; cases h) Bd.notSynchronized (fun fs hr => retN X70 hx (t := .boolean) Bd.returns (by simp) (H at_255) hr) eq70 ⟨rfl, N70⟩ (by decide) (by decide)
      ·skip
       refine g_static X68 hx hZ (rm18_ff l Z a0 hw r0_65 h n0 (Nat.le_trans Z0 K.1) hc_52 hc_53) hown (tw82 hw) (tw83 hw) (tw3 hw) (tw84 hw) (by decide) 0 (by decide) (by decide) (by rw [hml]; rfl) [(.int r0_65)] [] (lenOf pd_21 rfl) (Nat.le_of_eq rfl) eq68 (by decide) (by decide) rfl rfl (H at_199) fun v69 T69 Lc69 X69 hQ69 => ?_
       obtain ⟨rfl, N69q, eq69⟩ := hQ69
       have N69 := Fr.app N68 N69q
       show Gs p e below _ T69 m 202 #[iv p1, iv p2, iv p3, iv p4, iv p5, iv i3, iv r0_64, iv r0_65, iv r0_66, iv r0_67, rv x, .unset] [(.int i0)]
       refine g_ifNo X69 hx (H at_202) (teq (by decide : (i0 = i0))).2 ?_
       refine g_iload X69 hx (H at_205) rfl ?_
       refine g_iconst X69 hx i2 (H at_207) rfl ?_
       refine g_icmpNo X69 hx (H at_208) (tlt (by decide : (i2 < i3))).2.2.2 ?_
       refine g_iload X69 hx (H at_211) rfl ?_
       by_cases hc_54 : r0_66 = i42
       ·skip
        refine g_static X69 hx hZ (rm18_t l Z a0 hw r0_66 h n0 (Nat.le_trans Z0 K.1) hc_54) hown (tw82 hw) (tw83 hw) (tw3 hw) (tw84 hw) (by decide) 0 (by decide) (by decide) (by rw [hml]; rfl) [(.int r0_66)] [] (lenOf pd_21 rfl) (Nat.le_of_eq rfl) eq69 (by decide) (by decide) rfl rfl (H at_213) fun v70 T70 Lc70 X70 hQ70 => ?_
        obtain ⟨rfl, N70q, eq70⟩ := hQ70
        have N70 := Fr.app N69 N70q
        show Gs p e below _ T70 m 216 #[iv p1, iv p2, iv p3, iv p4, iv p5, iv i3, iv r0_64, iv r0_65, iv r0_66, iv r0_67, rv x, .unset] [(.int i1)]
        refine g_ifYes X70 hx 233 (H at_216) (feq (by decide : ¬ (i1 = i0))).2 (by decide) (by decide) ?_
        refine g_iconst X70 hx i1 (H at_233) rfl ?_
        refine g_goto X70 hx 238 (H at_234) (by decide) (by decide) ?_
        refine g_istore X70 hx (H at_238) (l' := #[iv p1, iv p2, iv p3, iv p4, iv p5, iv i3, iv r0_64, iv r0_65, iv r0_66, iv r0_67, rv x, iv i1]) rfl ?_
        refine g_aload X70 hx (H at_240) rfl rfl ?_
        refine g_static X70 hx hZ hM hown (tw28 hw) (tw29 hw) (tw30 hw) (tw31 hw) (by decide) 0 (by decide) (by decide) (by rw [hml]; rfl) [(.ref x)] [] (lenOf pd_19 rfl) (Nat.le_of_eq rfl) eq70 (by decide) (by decide) rfl rfl (H at_242) fun v71 T71 Lc71 X71 hQ71 => ?_
        obtain ⟨r0_71, rfl, hp71, N71q, eq71⟩ := hQ71
        have N71 := Fr.app N70 N71q
        show Gs p e below _ T71 m 245 #[iv p1, iv p2, iv p3, iv p4, iv p5, iv i3, iv r0_64, iv r0_65, iv r0_66, iv r0_67, rv x, iv i1] [(.int r0_71)]
        refine g_iload X71 hx (H at_245) rfl ?_
        refine g_icmpNo X71 hx (H at_247) (teq (hp71.elim (fun q => absurd hc_54 (q.2.1.2.2)) (fun q => q.1))).2 ?_
        refine g_iconst X71 hx i1 (H at_250) rfl ?_
        refine g_goto X71 hx 255 (H at_251) (by decide) (by decide) ?_
        exact Go.retW (Q := Q0 n0) hS (hk) X71 (v := some (.int i1)) (fun h => by rw [Bd.returns] at h; cases h) Bd.notSynchronized (fun fs hr => retN X71 hx (t := .boolean) Bd.returns (by simp) (H at_255) hr) eq71 ⟨rfl, N71⟩ (by decide) (by decide)
       ·skip
        by_cases hc_55 : r0_66 = i63
        ·skip
         refine g_static X69 hx hZ (rm18_ft l Z a0 hw r0_66 h n0 (Nat.le_trans Z0 K.1) hc_54 hc_55) hown (tw82 hw) (tw83 hw) (tw3 hw) (tw84 hw) (by decide) 0 (by decide) (by decide) (by rw [hml]; rfl) [(.int r0_66)] [] (lenOf pd_21 rfl) (Nat.le_of_eq rfl) eq69 (by decide) (by decide) rfl rfl (H at_213) fun v70 T70 Lc70 X70 hQ70 => ?_
         obtain ⟨rfl, N70q, eq70⟩ := hQ70
         have N70 := Fr.app N69 N70q
         show Gs p e below _ T70 m 216 #[iv p1, iv p2, iv p3, iv p4, iv p5, iv i3, iv r0_64, iv r0_65, iv r0_66, iv r0_67, rv x, .unset] [(.int i1)]
         refine g_ifYes X70 hx 233 (H at_216) (feq (by decide : ¬ (i1 = i0))).2 (by decide) (by decide) ?_
         refine g_iconst X70 hx i1 (H at_233) rfl ?_
         refine g_goto X70 hx 238 (H at_234) (by decide) (by decide) ?_
         refine g_istore X70 hx (H at_238) (l' := #[iv p1, iv p2, iv p3, iv p4, iv p5, iv i3, iv r0_64, iv r0_65, iv r0_66, iv r0_67, rv x, iv i1]) rfl ?_
         refine g_aload X70 hx (H at_240) rfl rfl ?_
         refine g_static X70 hx hZ hM hown (tw28 hw) (tw29 hw) (tw30 hw) (tw31 hw) (by decide) 0 (by decide) (by decide) (by rw [hml]; rfl) [(.ref x)] [] (lenOf pd_19 rfl) (Nat.le_of_eq rfl) eq70 (by decide) (by decide) rfl rfl (H at_242) fun v71 T71 Lc71 X71 hQ71 => ?_
         obtain ⟨r0_71, rfl, hp71, N71q, eq71⟩ := hQ71
         have N71 := Fr.app N70 N71q
         show Gs p e below _ T71 m 245 #[iv p1, iv p2, iv p3, iv p4, iv p5, iv i3, iv r0_64, iv r0_65, iv r0_66, iv r0_67, rv x, iv i1] [(.int r0_71)]
         refine g_iload X71 hx (H at_245) rfl ?_
         refine g_icmpNo X71 hx (H at_247) (teq (hp71.elim (fun q => absurd hc_55 (q.2.2.2.2)) (fun q => q.1))).2 ?_
         refine g_iconst X71 hx i1 (H at_250) rfl ?_
         refine g_goto X71 hx 255 (H at_251) (by decide) (by decide) ?_
         exact Go.retW (Q := Q0 n0) hS (hk) X71 (v := some (.int i1)) (fun h => by rw [Bd.returns] at h; cases h) Bd.notSynchronized (fun fs hr => retN X71 hx (t := .boolean) Bd.returns (by simp) (H at_255) hr) eq71 ⟨rfl, N71⟩ (by decide) (by decide)
        ·skip
         refine g_static X69 hx hZ (rm18_ff l Z a0 hw r0_66 h n0 (Nat.le_trans Z0 K.1) hc_54 hc_55) hown (tw82 hw) (tw83 hw) (tw3 hw) (tw84 hw) (by decide) 0 (by decide) (by decide) (by rw [hml]; rfl) [(.int r0_66)] [] (lenOf pd_21 rfl) (Nat.le_of_eq rfl) eq69 (by decide) (by decide) rfl rfl (H at_213) fun v70 T70 Lc70 X70 hQ70 => ?_
         obtain ⟨rfl, N70q, eq70⟩ := hQ70
         have N70 := Fr.app N69 N70q
         show Gs p e below _ T70 m 216 #[iv p1, iv p2, iv p3, iv p4, iv p5, iv i3, iv r0_64, iv r0_65, iv r0_66, iv r0_67, rv x, .unset] [(.int i0)]
         refine g_ifNo X70 hx (H at_216) (teq (by decide : (i0 = i0))).2 ?_
         refine g_iload X70 hx (H at_219) rfl ?_
         refine g_iconst X70 hx i3 (H at_221) rfl ?_
         refine g_icmpYes X70 hx 237 (H at_222) (flt (by decide : ¬ (i3 < i3))).2.2.2 (by decide) (by decide) ?_
         refine g_iconst X70 hx i0 (H at_237) rfl ?_
         refine g_istore X70 hx (H at_238) (l' := #[iv p1, iv p2, iv p3, iv p4, iv p5, iv i3, iv r0_64, iv r0_65, iv r0_66, iv r0_67, rv x, iv i0]) rfl ?_
         refine g_aload X70 hx (H at_240) rfl rfl ?_
         refine g_static X70 hx hZ hM hown (tw28 hw) (tw29 hw) (tw30 hw) (tw31 hw) (by decide) 0 (by decide) (by decide) (by rw [hml]; rfl) [(.ref x)] [] (lenOf pd_19 rfl) (Nat.le_of_eq rfl) eq70 (by decide) (by decide) rfl rfl (H at_242) fun v71 T71 Lc71 X71 hQ71 => ?_
         obtain ⟨r0_71, rfl, hp71, N71q, eq71⟩ := hQ71
         have N71 := Fr.app N70 N71q
         show Gs p e below _ T71 m 245 #[iv p1, iv p2, iv p3, iv p4, iv p5, iv i3, iv r0_64, iv r0_65, iv r0_66, iv r0_67, rv x, iv i0] [(.int r0_71)]
         refine g_iload X71 hx (H at_245) rfl ?_
         refine g_icmpNo X71 hx (H at_247) (teq (hp71.elim (fun q => q.1) (fun q => absurd ⟨⟨hc_50, hc_52, hc_54⟩, ⟨hc_51, hc_53, hc_55⟩⟩ q.2))).2 ?_
         refine g_iconst X71 hx i1 (H at_250) rfl ?_
         refine g_goto X71 hx 255 (H at_251) (by decide) (by decide) ?_
         exact Go.retW (Q := Q0 n0) hS (hk) X71 (v := some (.int i1)) (fun h => by rw [Bd.returns] at h; cases h) Bd.notSynchronized (fun fs hr => retN X71 hx (t := .boolean) Bd.returns (by simp) (H at_255) hr) eq71 ⟨rfl, N71⟩ (by decide) (by decide)
  refine g_iload X67 hx (H at_33) rfl ?_
  refine g_ifYes X67 hx 53 (H at_35) (feq (by decide : ¬ (i3 = i0))).2 (by decide) (by decide) ?_
  refine g_iload X67 hx (H at_53) rfl ?_
  refine g_iconst X67 hx i1 (H at_55) rfl ?_
  refine g_icmpYes X67 hx 79 (H at_56) (feq (by decide : ¬ (i3 = i1))).2 (by decide) (by decide) ?_
  refine g_iload X67 hx (H at_79) rfl ?_
  refine g_iconst X67 hx i2 (H at_81) rfl ?_
  refine g_icmpYes X67 hx 110 (H at_82) (feq (by decide : ¬ (i3 = i2))).2 (by decide) (by decide) ?_
  refine g_iload X67 hx (H at_110) rfl ?_
  refine g_iconst X67 hx i3 (H at_112) rfl ?_
  refine g_icmpNo X67 hx (H at_113) (teq (by decide : (i3 = i3))).2 ?_
  refine g_new X67 hx hZ hown (tw6 hw) (tw7 hw) (tw8 hw) eq67 (H at_116) (by decide) (by decide) fun b72 T72 h72 g72 X72 e72 E72 A72 D72 => ?_
  have g_b72 : n0 ≤ b72 := Nat.le_trans Z0 (Nat.le_of_eq g72.symm)
  have sz_b72 : h0.size ≤ b72 := Nat.le_of_eq g72.symm
  have K72 : Keep h0 h72 [] := (Keep.refl h0 []).ext E72
  have E_b72 : Exa Z h72 b72 s0_ := A72
  have F_value_b72 : Fld Z h72 b72 s0_ "value" "[B" .null := D72 (Or.inr (tw22 hw)) (ty := (.array .byte)) (by decide)
  have F_coder_b72 : Fld Z h72 b72 s0_ "coder" "B" (.int i0) := D72 (Or.inr (tw23 hw)) (ty := .byte) (by decide)
  refine g_dup X72 hx (H at_119) rfl ?_
  refine g_iconst X72 hx i3 (H at_120) rfl ?_
  refine g_newP X72 hx hZ (H at_121) (tw9 hw) e72 (by decide) 3 (by decide) (by decide) (by decide) (by decide) fun b73 T73 h73 k73 g73 X73 e73 E73 A73 => ?_
  have g_b73 : n0 ≤ b73 := Nat.le_trans (Nat.le_trans Z0 K72.1) (Nat.le_of_eq g73.symm)
  have sz_b73 : h0.size ≤ b73 := Nat.le_trans K72.1 (Nat.le_of_eq g73.symm)
  have lt_b72_b73 : b72 < b73 := Nat.lt_of_lt_of_le E_b72.lt (Nat.le_of_eq g73.symm)
  have K73 : Keep h0 h73 [] := K72.ext E73
  have V_b73 : Arv Z h73 b73 k73 .char i3 [(.int i0), (.int i0), (.int i0)] (.int i0) := (Arv.new A73 (by decide)).pad (pad_rep [] (.int i0) 3)
  refine g_dup X73 hx (H at_123) rfl ?_
  refine g_iconst X73 hx i0 (H at_124) rfl ?_
  refine g_iload X73 hx (H at_125) rfl ?_
  obtain ⟨clq74, Arq74, caq74, saq74, naq74, haq74, gaq74⟩ := id V_b73
  have inq74 : ¬ (i0 < 0 ∨ clq74.slots.size ≤ (i0).toNatClampNeg) := inb_of saq74 ⟨by decide, by decide⟩
  refine g_stC X73 hx hZ e73 Arq74 inq74 (H at_127) fun T75 h75 X75 e75 W75 => ?_
  have K75 : Keep h0 h75 [] := K73.wr W75 (Or.inr sz_b73)
  have V75 : Arv Z h75 b73 k73 .char i3 [(.int (nar .char r0_64)), (.int i0), (.int i0)] (.int i0) := Arv.set Arq74 caq74 saq74 naq74 haq74 gaq74 (fits_nar_char _) W75 0 rfl (Nat.le_of_ble_eq_true rfl)
  rw [own_nar hp64] at V75
  have N75 := Fr.snoc X75 N67 g_b73
  refine g_dup X75 hx (H at_128) rfl ?_
  refine g_iconst X75 hx i1 (H at_129) rfl ?_
  refine g_iload X75 hx (H at_130) rfl ?_
  obtain ⟨clq76, Arq76, caq76, saq76, naq76, haq76, gaq76⟩ := id V75
  have inq76 : ¬ (i1 < 0 ∨ clq76.slots.size ≤ (i1).toNatClampNeg) := inb_of saq76 ⟨by decide, by decide⟩
  refine g_stC X75 hx hZ e75 Arq76 inq76 (H at_132) fun T77 h77 X77 e77 W77 => ?_
  have K77 : Keep h0 h77 [] := K75.wr W77 (Or.inr sz_b73)
  have V77 : Arv Z h77 b73 k73 .char i3 [(.int r0_64), (.int (nar .char r0_65)), (.int i0)] (.int i0) := Arv.set Arq76 caq76 saq76 naq76 haq76 gaq76 (fits_nar_char _) W77 1 rfl (Nat.le_of_ble_eq_true rfl)
  rw [own_nar hp65] at V77
  have N77 := Fr.snoc X77 N75 g_b73
  refine g_dup X77 hx (H at_133) rfl ?_
  refine g_iconst X77 hx i2 (H at_134) rfl ?_
  refine g_iload X77 hx (H at_135) rfl ?_
  obtain ⟨clq78, Arq78, caq78, saq78, naq78, haq78, gaq78⟩ := id V77
  have inq78 : ¬ (i2 < 0 ∨ clq78.slots.size ≤ (i2).toNatClampNeg) := inb_of saq78 ⟨by decide, by decide⟩
  refine g_stC X77 hx hZ e77 Arq78 inq78 (H at_137) fun T79 h79 X79 e79 W79 => ?_
  have K79 : Keep h0 h79 [] := K77.wr W79 (Or.inr sz_b73)
  have V79 : Arv Z h79 b73 k73 .char i3 [(.int r0_64), (.int r0_65), (.int (nar .char r0_66))] (.int i0) := Arv.set Arq78 caq78 saq78 naq78 haq78 gaq78 (fits_nar_char _) W79 2 rfl (Nat.le_of_ble_eq_true rfl)
  rw [own_nar hp66] at V79
  have N79 := Fr.snoc X79 N77 g_b73
  by_cases hc_56 : i255 < r0_64
  ·skip
   have f_80 := (Exa.wr W79 (Exa.wr W77 (Exa.wr W75 (Exa.ext E73 E_b72))))
   have f_81 := (staKeep0 S__assertionsDisabled K79)
   have f_82 := (staKeep0 S_HI_BYTE_SHIFT K79)
   have f_83 := (staKeep0 S_LO_BYTE_SHIFT K79)
   have f_84 := (Fld.other W79 (Fld.other W77 (Fld.other W75 (Fld.ext E73 F_coder_b72) (Or.inl (Nat.ne_of_lt lt_b72_b73))) (Or.inl (Nat.ne_of_lt lt_b72_b73))) (Or.inl (Nat.ne_of_lt lt_b72_b73)))
   have f_85 := (Fld.other W79 (Fld.other W77 (Fld.other W75 (Fld.ext E73 F_value_b72) (Or.inl (Nat.ne_of_lt lt_b72_b73))) (Or.inl (Nat.ne_of_lt lt_b72_b73))) (Or.inl (Nat.ne_of_lt lt_b72_b73)))
   have f_86 := (staKeep0 S_COMPACT_STRINGS K79)
   refine g_special X79 hx hZ (rm23U_f l Z a0 hw b72 b73 r0_64 r0_65 r0_66 k73 (.int i0) .null wcs h79 n0 (Nat.le_trans Z0 K79.1) f_80 V79 hp64 hp65 hp66 f_81 f_82 f_83 f_84 f_85 g_b72 (Ne.symm (Nat.ne_of_lt lt_b72_b73)) (Or.inl hc_56) hcs f_86) rfl rfl hown (tw10 hw) (tw11 hw) (tw8 hw) (tw12 hw) (by decide) 1 (by decide) (by decide) (by rw [hml]; rfl) [(.ref b73)] [(.ref b72)] (lenOf pd_20 rfl) (Nat.le_of_eq rfl) e79 (by decide) (by decide) rfl rfl (H at_138) fun v87 T87 Lc87 X87 hQ87 => ?_
   obtain ⟨b2_2_8_6_5_87, k2_2_8_6_5_87, rfl, N87q, Kc87, P87_0, P87_1, P87_2, P87_3⟩ := hQ87
   have K87 : Keep h0 T87.heap [] := K79.trans Kc87 (allS (Or.inr sz_b72) all0)
   have N87 := Fr.app N79 N87q
   show Gs p e below _ T87 m 141 #[iv p1, iv p2, iv p3, iv p4, iv p5, iv i3, iv r0_64, iv r0_65, iv r0_66, iv r0_67, .unset, .unset] [(.ref b72)]
   refine g_astore X87 hx (H at_141) rfl (l' := #[iv p1, iv p2, iv p3, iv p4, iv p5, iv i3, iv r0_64, iv r0_65, iv r0_66, iv r0_67, rv b72, .unset]) rfl ?_
   refine g_goto X87 hx 178 (H at_143) (by decide) (by decide) ?_
   have f_88 := (staKeepE f_86 Kc87 f_80)
   have f_89 := (staKeepE f_81 Kc87 f_80)
   have f_90 := (staKeepE f_82 Kc87 f_80)
   have f_91 := (staKeepE f_83 Kc87 f_80)
   have hk := (Nat.le_trans (Nat.le_trans (Nat.le_trans (Nat.le_trans (Nat.le_trans (Nat.le_trans hk E72.1) E73.1) (Nat.le_of_eq (Wr.size W75).symm)) (Nat.le_of_eq (Wr.size W77).symm)) (Nat.le_of_eq (Wr.size W79).symm)) Kc87.1)
   exact tail _ _ _ _ _ _ hS hk hZ hown (X87.more (by decide) (by decide)) rfl N87 K87 (rm53U l Z a0 hw b72 b2_2_8_6_5_87 r0_64 r0_65 r0_66 k2_2_8_6_5_87 wcs T87.heap n0 (Nat.le_trans Z0 K87.1) P87_0 P87_2 P87_1 P87_3 hp64 hp65 hp66 f_88 hcs f_89 f_90 f_91 (own_fm K87 hfm))
  ·skip
   by_cases hc_57 : i255 < r0_65
   ·skip
    have f_80 := (Exa.wr W79 (Exa.wr W77 (Exa.wr W75 (Exa.ext E73 E_b72))))
    have f_81 := (staKeep0 S__assertionsDisabled K79)
    have f_82 := (staKeep0 S_HI_BYTE_SHIFT K79)
    have f_83 := (staKeep0 S_LO_BYTE_SHIFT K79)
    have f_84 := (Fld.other W79 (Fld.other W77 (Fld.other W75 (Fld.ext E73 F_coder_b72) (Or.inl (Nat.ne_of_lt lt_b72_b73))) (Or.inl (Nat.ne_of_lt lt_b72_b73))) (Or.inl (Nat.ne_of_lt lt_b72_b73)))
    have f_85 := (Fld.other W79 (Fld.other W77 (Fld.other W75 (Fld.ext E73 F_value_b72) (Or.inl (Nat.ne_of_lt lt_b72_b73))) (Or.inl (Nat.ne_of_lt lt_b72_b73))) (Or.inl (Nat.ne_of_lt lt_b72_b73)))
    have f_86 := (staKeep0 S_COMPACT_STRINGS K79)
    refine g_special X79 hx hZ (rm23U_f l Z a0 hw b72 b73 r0_64 r0_65 r0_66 k73 (.int i0) .null wcs h79 n0 (Nat.le_trans Z0 K79.1) f_80 V79 hp64 hp65 hp66 f_81 f_82 f_83 f_84 f_85 g_b72 (Ne.symm (Nat.ne_of_lt lt_b72_b73)) (Or.inr (Or.inl hc_57)) hcs f_86) rfl rfl hown (tw10 hw) (tw11 hw) (tw8 hw) (tw12 hw) (by decide) 1 (by decide) (by decide) (by rw [hml]; rfl) [(.ref b73)] [(.ref b72)] (lenOf pd_20 rfl) (Nat.le_of_eq rfl) e79 (by decide) (by decide) rfl rfl (H at_138) fun v87 T87 Lc87 X87 hQ87 => ?_
    obtain ⟨b2_2_8_6_5_87, k2_2_8_6_5_87, rfl, N87q, Kc87, P87_0, P87_1, P87_2, P87_3⟩ := hQ87
    have K87 : Keep h0 T87.heap [] := K79.trans Kc87 (allS (Or.inr sz_b72) all0)
    have N87 := Fr.app N79 N87q
    show Gs p e below _ T87 m 141 #[iv p1, iv p2, iv p3, iv p4, iv p5, iv i3, iv r0_64, iv r0_65, iv r0_66, iv r0_67, .unset, .unset] [(.ref b72)]
    refine g_astore X87 hx (H at_141) rfl (l' := #[iv p1, iv p2, iv p3, iv p4, iv p5, iv i3, iv r0_64, iv r0_65, iv r0_66, iv r0_67, rv b72, .unset]) rfl ?_
    refine g_goto X87 hx 178 (H at_143) (by decide) (by decide) ?_
    have f_88 := (staKeepE f_86 Kc87 f_80)
    have f_89 := (staKeepE f_81 Kc87 f_80)
    have f_90 := (staKeepE f_82 Kc87 f_80)
    have f_91 := (staKeepE f_83 Kc87 f_80)
    have hk := (Nat.le_trans (Nat.le_trans (Nat.le_trans (Nat.le_trans (Nat.le_trans (Nat.le_trans hk E72.1) E73.1) (Nat.le_of_eq (Wr.size W75).symm)) (Nat.le_of_eq (Wr.size W77).symm)) (Nat.le_of_eq (Wr.size W79).symm)) Kc87.1)
    exact tail _ _ _ _ _ _ hS hk hZ hown (X87.more (by decide) (by decide)) rfl N87 K87 (rm53U l Z a0 hw b72 b2_2_8_6_5_87 r0_64 r0_65 r0_66 k2_2_8_6_5_87 wcs T87.heap n0 (Nat.le_trans Z0 K87.1) P87_0 P87_2 P87_1 P87_3 hp64 hp65 hp66 f_88 hcs f_89 f_90 f_91 (own_fm K87 hfm))
   ·skip
    by_cases hc_58 : i255 < r0_66
    ·skip
     have f_80 := (Exa.wr W79 (Exa.wr W77 (Exa.wr W75 (Exa.ext E73 E_b72))))
     have f_81 := (staKeep0 S__assertionsDisabled K79)
     have f_82 := (staKeep0 S_HI_BYTE_SHIFT K79)
     have f_83 := (staKeep0 S_LO_BYTE_SHIFT K79)
     have f_84 := (Fld.other W79 (Fld.other W77 (Fld.other W75 (Fld.ext E73 F_coder_b72) (Or.inl (Nat.ne_of_lt lt_b72_b73))) (Or.inl (Nat.ne_of_lt lt_b72_b73))) (Or.inl (Nat.ne_of_lt lt_b72_b73)))
     have f_85 := (Fld.other W79 (Fld.other W77 (Fld.other W75 (Fld.ext E73 F_value_b72) (Or.inl (Nat.ne_of_lt lt_b72_b73))) (Or.inl (Nat.ne_of_lt lt_b72_b73))) (Or.inl (Nat.ne_of_lt lt_b72_b73)))
     have f_86 := (staKeep0 S_COMPACT_STRINGS K79)
     refine g_special X79 hx hZ (rm23U_f l Z a0 hw b72 b73 r0_64 r0_65 r0_66 k73 (.int i0) .null wcs h79 n0 (Nat.le_trans Z0 K79.1) f_80 V79 hp64 hp65 hp66 f_81 f_82 f_83 f_84 f_85 g_b72 (Ne.symm (Nat.ne_of_lt lt_b72_b73)) (Or.inr (Or.inr hc_58)) hcs f_86) rfl rfl hown (tw10 hw) (tw11 hw) (tw8 hw) (tw12 hw) (by decide) 1 (by decide) (by decide) (by rw [hml]; rfl) [(.ref b73)] [(.ref b72)] (lenOf pd_20 rfl) (Nat.le_of_eq rfl) e79 (by decide) (by decide) rfl rfl (H at_138) fun v87 T87 Lc87 X87 hQ87 => ?_
     obtain ⟨b2_2_8_6_5_87, k2_2_8_6_5_87, rfl, N87q, Kc87, P87_0, P87_1, P87_2, P87_3⟩ := hQ87
     have K87 : Keep h0 T87.heap [] := K79.trans Kc87 (allS (Or.inr sz_b72) all0)
     have N87 := Fr.app N79 N87q
     show Gs p e below _ T87 m 141 #[iv p1, iv p2, iv p3, iv p4, iv p5, iv i3, iv r0_64, iv r0_65, iv r0_66, iv r0_67, .unset, .unset] [(.ref b72)]
     refine g_astore X87 hx (H at_141) rfl (l' := #[iv p1, iv p2, iv p3, iv p4, iv p5, iv i3, iv r0_64, iv r0_65, iv r0_66, iv r0_67, rv b72, .unset]) rfl ?_
     refine g_goto X87 hx 178 (H at_143) (by decide) (by decide) ?_
     have f_88 := (staKeepE f_86 Kc87 f_80)
     have f_89 := (staKeepE f_81 Kc87 f_80)
     have f_90 := (staKeepE f_82 Kc87 f_80)
     have f_91 := (staKeepE f_83 Kc87 f_80)
     have hk := (Nat.le_trans (Nat.le_trans (Nat.le_trans (Nat.le_trans (Nat.le_trans (Nat.le_trans hk E72.1) E73.1) (Nat.le_of_eq (Wr.size W75).symm)) (Nat.le_of_eq (Wr.size W77).symm)) (Nat.le_of_eq (Wr.size W79).symm)) Kc87.1)
     exact tail _ _ _ _ _ _ hS hk hZ hown (X87.more (by decide) (by decide)) rfl N87 K87 (rm53U l Z a0 hw b72 b2_2_8_6_5_87 r0_64 r0_65 r0_66 k2_2_8_6_5_87 wcs T87.heap n0 (Nat.le_trans Z0 K87.1) P87_0 P87_2 P87_1 P87_3 hp64 hp65 hp66 f_88 hcs f_89 f_90 f_91 (own_fm K87 hfm))
    ·skip
     have f_80 := (Exa.wr W79 (Exa.wr W77 (Exa.wr W75 (Exa.ext E73 E_b72))))
     have f_81 := (staKeep0 S__assertionsDisabled K79)
     have f_82 := (staKeep0 S_HI_BYTE_SHIFT K79)
     have f_83 := (staKeep0 S_LO_BYTE_SHIFT K79)
     have f_84 := (Fld.other W79 (Fld.other W77 (Fld.other W75 (Fld.ext E73 F_coder_b72) (Or.inl (Nat.ne_of_lt lt_b72_b73))) (Or.inl (Nat.ne_of_lt lt_b72_b73))) (Or.inl (Nat.ne_of_lt lt_b72_b73)))
     have f_85 := (Fld.other W79 (Fld.other W77 (Fld.other W75 (Fld.ext E73 F_value_b72) (Or.inl (Nat.ne_of_lt lt_b72_b73))) (Or.inl (Nat.ne_of_lt lt_b72_b73))) (Or.inl (Nat.ne_of_lt lt_b72_b73)))
     have f_86 := (staKeep0 S_COMPACT_STRINGS K79)
     refine g_special X79 hx hZ (rm23L_f l Z a0 hw b72 b73 r0_64 r0_65 r0_66 k73 (.int i0) .null wcs h79 n0 (Nat.le_trans Z0 K79.1) f_80 V79 hp64 hp65 hp66 f_81 f_82 f_83 f_84 f_85 g_b72 (Ne.symm (Nat.ne_of_lt lt_b72_b73)) hc_56 hc_57 hc_58 hcs f_86) rfl rfl hown (tw10 hw) (tw11 hw) (tw8 hw) (tw12 hw) (by decide) 1 (by decide) (by decide) (by rw [hml]; rfl) [(.ref b73)] [(.ref b72)] (lenOf pd_20 rfl) (Nat.le_of_eq rfl) e79 (by decide) (by decide) rfl rfl (H at_138) fun v87 T87 Lc87 X87 hQ87 => ?_
     obtain ⟨b2_6_5_87, k2_6_5_87, rfl, N87q, Kc87, P87_0, P87_1, P87_2, P87_3⟩ := hQ87
     have K87 : Keep h0 T87.heap [] := K79.trans Kc87 (allS (Or.inr sz_b72) all0)
     have N87 := Fr.app N79 N87q
     show Gs p e below _ T87 m 141 #[iv p1, iv p2, iv p3, iv p4, iv p5, iv i3, iv r0_64, iv r0_65, iv r0_66, iv r0_67, .unset, .unset] [(.ref b72)]
     refine g_astore X87 hx (H at_141) rfl (l' := #[iv p1, iv p2, iv p3, iv p4, iv p5, iv i3, iv r0_64, iv r0_65, iv r0_66, iv r0_67, rv b72, .unset]) rfl ?_
     refine g_goto X87 hx 178 (H at_143) (by decide) (by decide) ?_
     have f_88 := (staKeepE f_86 Kc87 f_80)
     have hk := (Nat.le_trans (Nat.le_trans (Nat.le_trans (Nat.le_trans (Nat.le_trans (Nat.le_trans hk E72.1) E73.1) (Nat.le_of_eq (Wr.size W75).symm)) (Nat.le_of_eq (Wr.size W77).symm)) (Nat.le_of_eq (Wr.size W79).symm)) Kc87.1)
     exact tail _ _ _ _ _ _ hS hk hZ hown (X87.more (by decide) (by decide)) rfl N87 K87 (rm53L l Z a0 hw b72 b2_6_5_87 r0_64 r0_65 r0_66 k2_6_5_87 wcs T87.heap n0 (Nat.le_trans Z0 K87.1) P87_0 P87_2 P87_1 P87_3 hp64 hp65 hp66 f_88 hcs hc_56 hc_57 hc_58)
 ·skip
  rw [hk10]
  show Gs p e below _ s₁ m 6 #[iv p1, iv p2, iv p3, iv p4, iv p5, .unset, .unset, .unset, .unset, .unset, .unset, .unset] [(.int i4)]
  refine g_istore X0 hx (H at_6) (l' := #[iv p1, iv p2, iv p3, iv p4, iv p5, iv i4, .unset, .unset, .unset, .unset, .unset, .unset]) rfl ?_
  refine g_iloadN X0 hx (H at_8) rfl ?_
  refine g_static X0 hx hZ (rm1 l Z a0 hw p2 h0 n0 Z0 ) hown (tw1 hw) (tw2 hw) (tw3 hw) (tw4 hw) (by decide) 0 (by decide) (by decide) (by rw [hml]; rfl) [(.int p2)] [] (lenOf pd_18 rfl) (Nat.le_of_eq rfl) e0 (by decide) (by decide) rfl rfl (H at_9) fun v89 T89 Lc89 X89 hQ89 => ?_
  obtain ⟨r0_89, rfl, hp89, N89q, eq89⟩ := hQ89
  have N89 := Fr.app N0 N89q
  show Gs p e below _ T89 m 12 #[iv p1, iv p2, iv p3, iv p4, iv p5, iv i4, .unset, .unset, .unset, .unset, .unset, .unset] [(.int r0_89)]
  refine g_istore X89 hx (H at_12) (l' := #[iv p1, iv p2, iv p3, iv p4, iv p5, iv i4, iv r0_89, .unset, .unset, .unset, .unset, .unset]) rfl ?_
  refine g_iloadN X89 hx (H at_14) rfl ?_
  refine g_static X89 hx hZ (rm1 l Z a0 hw p3 h0 n0 Z0 ) hown (tw1 hw) (tw2 hw) (tw3 hw) (tw4 hw) (by decide) 0 (by decide) (by decide) (by rw [hml]; rfl) [(.int p3)] [] (lenOf pd_18 rfl) (Nat.le_of_eq rfl) eq89 (by decide) (by decide) rfl rfl (H at_15) fun v90 T90 Lc90 X90 hQ90 => ?_
  obtain ⟨r0_90, rfl, hp90, N90q, eq90⟩ := hQ90
  have N90 := Fr.app N89 N90q
  show Gs p e below _ T90 m 18 #[iv p1, iv p2, iv p3, iv p4, iv p5, iv i4, iv r0_89, .unset, .unset, .unset, .unset, .unset] [(.int r0_90)]
  refine g_istore X90 hx (H at_18) (l' := #[iv p1, iv p2, iv p3, iv p4, iv p5, iv i4, iv r0_89, iv r0_90, .unset, .unset, .unset, .unset]) rfl ?_
  refine g_iloadN X90 hx (H at_20) rfl ?_
  refine g_static X90 hx hZ (rm1 l Z a0 hw p4 h0 n0 Z0 ) hown (tw1 hw) (tw2 hw) (tw3 hw) (tw4 hw) (by decide) 0 (by decide) (by decide) (by rw [hml]; rfl) [(.int p4)] [] (lenOf pd_18 rfl) (Nat.le_of_eq rfl) eq90 (by decide) (by decide) rfl rfl (H at_21) fun v91 T91 Lc91 X91 hQ91 => ?_
  obtain ⟨r0_91, rfl, hp91, N91q, eq91⟩ := hQ91
  have N91 := Fr.app N90 N91q
  show Gs p e below _ T91 m 24 #[iv p1, iv p2, iv p3, iv p4, iv p5, iv i4, iv r0_89, iv r0_90, .unset, .unset, .unset, .unset] [(.int r0_91)]
  refine g_istore X91 hx (H at_24) (l' := #[iv p1, iv p2, iv p3, iv p4, iv p5, iv i4, iv r0_89, iv r0_90, iv r0_91, .unset, .unset, .unset]) rfl ?_
  refine g_iload X91 hx (H at_26) rfl ?_
  refine g_static X91 hx hZ (rm1 l Z a0 hw p5 h0 n0 Z0 ) hown (tw1 hw) (tw2 hw) (tw3 hw) (tw4 hw) (by decide) 0 (by decide) (by decide) (by rw [hml]; rfl) [(.int p5)] [] (lenOf pd_18 rfl) (Nat.le_of_eq rfl) eq91 (by decide) (by decide) rfl rfl (H at_28) fun v92 T92 Lc92 X92 hQ92 => ?_
  obtain ⟨r0_92, rfl, hp92, N92q, eq92⟩ := hQ92
  have N92 := Fr.app N91 N92q
  show Gs p e below _ T92 m 31 #[iv p1, iv p2, iv p3, iv p4, iv p5, iv i4, iv r0_89, iv r0_90, iv r0_91, .unset, .unset, .unset] [(.int r0_92)]
  refine g_istore X92 hx (H at_31) (l' := #[iv p1, iv p2, iv p3, iv p4, iv p5, iv i4, iv r0_89, iv r0_90, iv r0_91, iv r0_92, .unset, .unset]) rfl ?_
  have tail : ∀ (x : Addr) (T : State) (h : Heap) (locs : List Loc) (vm0 : Vm) (k0 : Nat), s.Since vm0 k0 → k0 ≤ h.size → Z.Warmed39 (s.setVm vm0).vm → (s.setVm vm0).vm.findClass "com/example/canny_warden/cannywarden/engine/WildcardHasWildcardPinLaw" = some m.cls → Stand p l e room_1 (s.setVm vm0) m #[(.int p1), (.int p2), (.int p3), (.int p4), (.int p5)] below meth c T locs 20 100 → T.heap = h → Fr n0 locs → Keep h0 h [] → Met l Z h yy29 prog_77_method_6_code 1 (some .boolean) (rmk 9 0 0 210) #[(.ref x)] (own_QH4 r0_89 r0_90 r0_91 r0_92 h n0) → Go p e below (fun o s₂ => ∃ v L, o = .returned v ∧ Q0 n0 v s₂.heap L ∧ ReturnedEndW s o s₂ L room_1.cells room_1.slots) (T.setTop (mkF m 178 #[iv p1, iv p2, iv p3, iv p4, iv p5, iv i4, iv r0_89, iv r0_90, iv r0_91, iv r0_92, rv x, .unset] [])) := by
   intro x T h locs vm0 k0 hS hk hZ hown X eT N K hM
   refine g_iload X hx (H at_178) rfl ?_
   refine g_ifNo X hx (H at_180) (tlt (by decide : (i0 < i4))).2.2.2 ?_
   refine g_iload X hx (H at_183) rfl ?_
   by_cases hc_59 : r0_89 = i42
   ·skip
    refine g_static X hx hZ (rm18_t l Z a0 hw r0_89 h n0 (Nat.le_trans Z0 K.1) hc_59) hown (tw82 hw) (tw83 hw) (tw3 hw) (tw84 hw) (by decide) 0 (by decide) (by decide) (by rw [hml]; rfl) [(.int r0_89)] [] (lenOf pd_21 rfl) (Nat.le_of_eq rfl) eT (by decide) (by decide) rfl rfl (H at_185) fun v93 T93 Lc93 X93 hQ93 => ?_
    obtain ⟨rfl, N93q, eq93⟩ := hQ93
    have N93 := Fr.app N N93q
    show Gs p e below _ T93 m 188 #[iv p1, iv p2, iv p3, iv p4, iv p5, iv i4, iv r0_89, iv r0_90, iv r0_91, iv r0_92, rv x, .unset] [(.int i1)]
    refine g_ifYes X93 hx 233 (H at_188) (feq (by decide : ¬ (i1 = i0))).2 (by decide) (by decide) ?_
    refine g_iconst X93 hx i1 (H at_233) rfl ?_
    refine g_goto X93 hx 238 (H at_234) (by decide) (by decide) ?_
    refine g_istore X93 hx (H at_238) (l' := #[iv p1, iv p2, iv p3, iv p4, iv p5, iv i4, iv r0_89, iv r0_90, iv r0_91, iv r0_92, rv x, iv i1]) rfl ?_
    refine g_aload X93 hx (H at_240) rfl rfl ?_
    refine g_static X93 hx hZ hM hown (tw28 hw) (tw29 hw) (tw30 hw) (tw31 hw) (by decide) 0 (by decide) (by decide) (by rw [hml]; rfl) [(.ref x)] [] (lenOf pd_19 rfl) (Nat.le_of_eq rfl) eq93 (by decide) (by decide) rfl rfl (H at_242) fun v94 T94 Lc94 X94 hQ94 => ?_
    obtain ⟨r0_94, rfl, hp94, N94q, eq94⟩ := hQ94
    have N94 := Fr.app N93 N94q
    show Gs p e below _ T94 m 245 #[iv p1, iv p2, iv p3, iv p4, iv p5, iv i4, iv r0_89, iv r0_90, iv r0_91, iv r0_92, rv x, iv i1] [(.int r0_94)]
    refine g_iload X94 hx (H at_245) rfl ?_
    refine g_icmpNo X94 hx (H at_247) (teq (hp94.elim (fun q => absurd hc_59 (q.2.1.1)) (fun q => q.1))).2 ?_
    refine g_iconst X94 hx i1 (H at_250) rfl ?_
    refine g_goto X94 hx 255 (H at_251) (by decide) (by decide) ?_
    exact Go.retW (Q := Q0 n0) hS (hk) X94 (v := some (.int i1)) (fun h => by rw [Bd.returns] at h; cases h) Bd.notSynchronized (fun fs hr => retN X94 hx (t := .boolean) Bd.returns (by simp) (H at_255) hr) eq94 ⟨rfl, N94⟩ (by decide) (by decide)
   ·skip
    by_cases hc_60 : r0_89 = i63
    ·skip
     refine g_static X hx hZ (rm18_ft l Z a0 hw r0_89 h n0 (Nat.le_trans Z0 K.1) hc_59 hc_60) hown (tw82 hw) (tw83 hw) (tw3 hw) (tw84 hw) (by decide) 0 (by decide) (by decide) (by rw [hml]; rfl) [(.int r0_89)] [] (lenOf pd_21 rfl) (Nat.le_of_eq rfl) eT (by decide) (by decide) rfl rfl (H at_185) fun v93 T93 Lc93 X93 hQ93 => ?_
     obtain ⟨rfl, N93q, eq93⟩ := hQ93
     have N93 := Fr.app N N93q
     show Gs p e below _ T93 m 188 #[iv p1, iv p2, iv p3, iv p4, iv p5, iv i4, iv r0_89, iv r0_90, iv r0_91, iv r0_92, rv x, .unset] [(.int i1)]
     refine g_ifYes X93 hx 233 (H at_188) (feq (by decide : ¬ (i1 = i0))).2 (by decide) (by decide) ?_
     refine g_iconst X93 hx i1 (H at_233) rfl ?_
     refine g_goto X93 hx 238 (H at_234) (by decide) (by decide) ?_
     refine g_istore X93 hx (H at_238) (l' := #[iv p1, iv p2, iv p3, iv p4, iv p5, iv i4, iv r0_89, iv r0_90, iv r0_91, iv r0_92, rv x, iv i1]) rfl ?_
     refine g_aload X93 hx (H at_240) rfl rfl ?_
     refine g_static X93 hx hZ hM hown (tw28 hw) (tw29 hw) (tw30 hw) (tw31 hw) (by decide) 0 (by decide) (by decide) (by rw [hml]; rfl) [(.ref x)] [] (lenOf pd_19 rfl) (Nat.le_of_eq rfl) eq93 (by decide) (by decide) rfl rfl (H at_242) fun v94 T94 Lc94 X94 hQ94 => ?_
     obtain ⟨r0_94, rfl, hp94, N94q, eq94⟩ := hQ94
     have N94 := Fr.app N93 N94q
     show Gs p e below _ T94 m 245 #[iv p1, iv p2, iv p3, iv p4, iv p5, iv i4, iv r0_89, iv r0_90, iv r0_91, iv r0_92, rv x, iv i1] [(.int r0_94)]
     refine g_iload X94 hx (H at_245) rfl ?_
     refine g_icmpNo X94 hx (H at_247) (teq (hp94.elim (fun q => absurd hc_60 (q.2.2.1)) (fun q => q.1))).2 ?_
     refine g_iconst X94 hx i1 (H at_250) rfl ?_
     refine g_goto X94 hx 255 (H at_251) (by decide) (by decide) ?_
     exact Go.retW (Q := Q0 n0) hS (hk) X94 (v := some (.int i1)) (fun h => by rw [Bd.returns] at h; cases h) Bd.notSynchronized (fun fs hr => retN X94 hx (t := .boolean) Bd.returns (by simp) (H at_255) hr) eq94 ⟨rfl, N94⟩ (by decide) (by decide)
    ·skip
     refine g_static X hx hZ (rm18_ff l Z a0 hw r0_89 h n0 (Nat.le_trans Z0 K.1) hc_59 hc_60) hown (tw82 hw) (tw83 hw) (tw3 hw) (tw84 hw) (by decide) 0 (by decide) (by decide) (by rw [hml]; rfl) [(.int r0_89)] [] (lenOf pd_21 rfl) (Nat.le_of_eq rfl) eT (by decide) (by decide) rfl rfl (H at_185) fun v93 T93 Lc93 X93 hQ93 => ?_
     obtain ⟨rfl, N93q, eq93⟩ := hQ93
     have N93 := Fr.app N N93q
     show Gs p e below _ T93 m 188 #[iv p1, iv p2, iv p3, iv p4, iv p5, iv i4, iv r0_89, iv r0_90, iv r0_91, iv r0_92, rv x, .unset] [(.int i0)]
     refine g_ifNo X93 hx (H at_188) (teq (by decide : (i0 = i0))).2 ?_
     refine g_iload X93 hx (H at_191) rfl ?_
     refine g_iconst X93 hx i1 (H at_193) rfl ?_
     refine g_icmpNo X93 hx (H at_194) (tlt (by decide : (i1 < i4))).2.2.2 ?_
     refine g_iload X93 hx (H at_197) rfl ?_
     by_cases hc_61 : r0_90 = i42
     ·skip
      refine g_static X93 hx hZ (rm18_t l Z a0 hw r0_90 h n0 (Nat.le_trans Z0 K.1) hc_61) hown (tw82 hw) (tw83 hw) (tw3 hw) (tw84 hw) (by decide) 0 (by decide) (by decide) (by rw [hml]; rfl) [(.int r0_90)] [] (lenOf pd_21 rfl) (Nat.le_of_eq rfl) eq93 (by decide) (by decide) rfl rfl (H at_199) fun v94 T94 Lc94 X94 hQ94 => ?_
      obtain ⟨rfl, N94q, eq94⟩ := hQ94
      have N94 := Fr.app N93 N94q
      show Gs p e below _ T94 m 202 #[iv p1, iv p2, iv p3, iv p4, iv p5, iv i4, iv r0_89, iv r0_90, iv r0_91, iv r0_92, rv x, .unset] [(.int i1)]
      refine g_ifYes X94 hx 233 (H at_202) (feq (by decide : ¬ (i1 = i0))).2 (by decide) (by decide) ?_
      refine g_iconst X94 hx i1 (H at_233) rfl ?_
      refine g_goto X94 hx 238 (H at_234) (by decide) (by decide) ?_
      refine g_istore X94 hx (H at_238) (l' := #[iv p1, iv p2, iv p3, iv p4, iv p5, iv i4, iv r0_89, iv r0_90, iv r0_91, iv r0_92, rv x, iv i1]) rfl ?_
      refine g_aload X94 hx (H at_240) rfl rfl ?_
      refine g_static X94 hx hZ hM hown (tw28 hw) (tw29 hw) (tw30 hw) (tw31 hw) (by decide) 0 (by decide) (by decide) (by rw [hml]; rfl) [(.ref x)] [] (lenOf pd_19 rfl) (Nat.le_of_eq rfl) eq94 (by decide) (by decide) rfl rfl (H at_242) fun v95 T95 Lc95 X95 hQ95 => ?_
      obtain ⟨r0_95, rfl, hp95, N95q, eq95⟩ := hQ95
      have N95 := Fr.app N94 N95q
      show Gs p e below _ T95 m 245 #[iv p1, iv p2, iv p3, iv p4, iv p5, iv i4, iv r0_89, iv r0_90, iv r0_91, iv r0_92, rv x, iv i1] [(.int r0_95)]
      refine g_iload X95 hx (H at_245) rfl ?_
      refine g_icmpNo X95 hx (H at_247) (teq (hp95.elim (fun q => absurd hc_61 (q.2.1.2.1)) (fun q => q.1))).2 ?_
      refine g_iconst X95 hx i1 (H at_250) rfl ?_
      refine g_goto X95 hx 255 (H at_251) (by decide) (by decide) ?_
      exact Go.retW (Q := Q0 n0) hS (hk) X95 (v := some (.int i1)) (fun h => by rw [Bd.returns] at h; cases h) Bd.notSynchronized (fun fs hr => retN X95 hx (t := .boolean) Bd.returns (by simp) (H at_255) hr) eq95 ⟨rfl, N95⟩ (by decide) (by decide)
     ·skip
      by_cases hc_62 : r0_90 = i63
      ·skip
       refine g_static X93 hx hZ (rm18_ft l Z a0 hw r0_90 h n0 (Nat.le_trans Z0 K.1) hc_61 hc_62) hown (tw82 hw) (tw83 hw) (tw3 hw) (tw84 hw) (by decide) 0 (by decide) (by decide) (by rw [hml]; rfl) [(.int r0_90)] [] (lenOf pd_21 rfl) (Nat.le_of_eq rfl) eq93 (by decide) (by decide) rfl rfl (H at_199) fun v94 T94 Lc94 X94 hQ94 => ?_
       obtain ⟨rfl, N94q, eq94⟩ := hQ94
       have N94 := Fr.app N93 N94q
       show Gs p e below _ T94 m 202 #[iv p1, iv p2, iv p3, iv p4, iv p5, iv i4, iv r0_89, iv r0_90, iv r0_91, iv r0_92, rv x, .unset] [(.int i1)]
       refine g_ifYes X94 hx 233 (H at_202) (feq (by decide : ¬ (i1 = i0))).2 (by decide) (by decide) ?_
       refine g_iconst X94 hx i1 (H at_233) rfl ?_
       refine g_goto X94 hx 238 (H at_234) (by decide) (by decide) ?_
       refine g_istore X94 hx (H at_238) (l' := #[iv p1, iv p2, iv p3, iv p4, iv p5, iv i4, iv r0_89, iv r0_90, iv r0_91, iv r0_92, rv x, iv i1]) rfl ?_
       refine g_aload X94 hx (H at_240) rfl rfl ?_
       refine g_static X94 hx hZ hM hown (tw28 hw) (tw29 hw) (tw30 hw) (tw31 hw) (by decide) 0 (by decide) (by decide) (by rw [hml]; rfl) [(.ref x)] [] (lenOf pd_19 rfl) (Nat.le_of_eq rfl) eq94 (by decide) (by decide) rfl rfl (H at_242) fun v95 T95 Lc95 X95 hQ95 => ?_
       obtain ⟨r0_95, rfl, hp95, N95q, eq95⟩ := hQ95
       have N95 := Fr.app N94 N95q
       show Gs p e below _ T95 m 245 #[iv p1, iv p2, iv p3, iv p4, iv p5, iv i4, iv r0_89, iv r0_90, iv r0_91, iv r0_92, rv x, iv i1] [(.int r0_95)]
       refine g_iload X95 hx (H at_245) rfl ?_
       refine g_icmpNo X95 hx (H at_247) (teq (hp95.elim (fun q => absurd hc_62 (q.2.2.2.1)) (fun q => q.1))).2 ?_
       refine g_iconst X95 hx i1 (H at_250) rfl ?_
       refine g_goto X95 hx 255 (H at_251) (by decide) (by decide) ?_
       exact Go.retW (Q := Q0 n0) hS (hk) X95 (v := some (.int i1)) (fun h => by rw [Bd.returns] at h; cases h) Bd.notSynchronized (fun fs hr => retN X95 hx (t := .boolean) Bd.returns (by simp) (H at_255) hr) eq95 ⟨rfl, N95⟩ (by decide) (by decide)
      ·skip
       refine g_static X93 hx hZ (rm18_ff l Z a0 hw r0_90 h n0 (Nat.le_trans Z0 K.1) hc_61 hc_62) hown (tw82 hw) (tw83 hw) (tw3 hw) (tw84 hw) (by decide) 0 (by decide) (by decide) (by rw [hml]; rfl) [(.int r0_90)] [] (lenOf pd_21 rfl) (Nat.le_of_eq rfl) eq93 (by decide) (by decide) rfl rfl (H at_199) fun v94 T94 Lc94 X94 hQ94 => ?_
       obtain ⟨rfl, N94q, eq94⟩ := hQ94
       have N94 := Fr.app N93 N94q
       show Gs p e below _ T94 m 202 #[iv p1, iv p2, iv p3, iv p4, iv p5, iv i4, iv r0_89, iv r0_90, iv r0_91, iv r0_92, rv x, .unset] [(.int i0)]
       refine g_ifNo X94 hx (H at_202) (teq (by decide : (i0 = i0))).2 ?_
       refine g_iload X94 hx (H at_205) rfl ?_
       refine g_iconst X94 hx i2 (H at_207) rfl ?_
       refine g_icmpNo X94 hx (H at_208) (tlt (by decide : (i2 < i4))).2.2.2 ?_
       refine g_iload X94 hx (H at_211) rfl ?_
       by_cases hc_63 : r0_91 = i42
       ·skip
        refine g_static X94 hx hZ (rm18_t l Z a0 hw r0_91 h n0 (Nat.le_trans Z0 K.1) hc_63) hown (tw82 hw) (tw83 hw) (tw3 hw) (tw84 hw) (by decide) 0 (by decide) (by decide) (by rw [hml]; rfl) [(.int r0_91)] [] (lenOf pd_21 rfl) (Nat.le_of_eq rfl) eq94 (by decide) (by decide) rfl rfl (H at_213) fun v95 T95 Lc95 X95 hQ95 => ?_
        obtain ⟨rfl, N95q, eq95⟩ := hQ95
        have N95 := Fr.app N94 N95q
        show Gs p e below _ T95 m 216 #[iv p1, iv p2, iv p3, iv p4, iv p5, iv i4, iv r0_89, iv r0_90, iv r0_91, iv r0_92, rv x, .unset] [(.int i1)]
        refine g_ifYes X95 hx 233 (H at_216) (feq (by decide : ¬ (i1 = i0))).2 (by decide) (by decide) ?_
        refine g_iconst X95 hx i1 (H at_233) rfl ?_
        refine g_goto X95 hx 238 (H at_234) (by decide) (by decide) ?_
        refine g_istore X95 hx (H at_238) (l' := #[iv p1, iv p2, iv p3, iv p4, iv p5, iv i4, iv r0_89, iv r0_90, iv r0_91, iv r0_92, rv x, iv i1]) rfl ?_
        refine g_aload X95 hx (H at_240) rfl rfl ?_
        refine g_static X95 hx hZ hM hown (tw28 hw) (tw29 hw) (tw30 hw) (tw31 hw) (by decide) 0 (by decide) (by decide) (by rw [hml]; rfl) [(.ref x)] [] (lenOf pd_19 rfl) (Nat.le_of_eq rfl) eq95 (by decide) (by decide) rfl rfl (H at_242) fun v96 T96 Lc96 X96 hQ96 => ?_
        obtain ⟨r0_96, rfl, hp96, N96q, eq96⟩ := hQ96
        have N96 := Fr.app N95 N96q
        show Gs p e below _ T96 m 245 #[iv p1, iv p2, iv p3, iv p4, iv p5, iv i4, iv r0_89, iv r0_90, iv r0_91, iv r0_92, rv x, iv i1] [(.int r0_96)]
        refine g_iload X96 hx (H at_245) rfl ?_
        refine g_icmpNo X96 hx (H at_247) (teq (hp96.elim (fun q => absurd hc_63 (q.2.1.2.2.1)) (fun q => q.1))).2 ?_
        refine g_iconst X96 hx i1 (H at_250) rfl ?_
        refine g_goto X96 hx 255 (H at_251) (by decide) (by decide) ?_
        exact Go.retW (Q := Q0 n0) hS (hk) X96 (v := some (.int i1)) (fun h => by rw [Bd.returns] at h; cases h) Bd.notSynchronized (fun fs hr => retN X96 hx (t := .boolean) Bd.returns (by simp) (H at_255) hr) eq96 ⟨rfl, N96⟩ (by decide) (by decide)
       ·skip
        by_cases hc_64 : r0_91 = i63
        ·skip
         refine g_static X94 hx hZ (rm18_ft l Z a0 hw r0_91 h n0 (Nat.le_trans Z0 K.1) hc_63 hc_64) hown (tw82 hw) (tw83 hw) (tw3 hw) (tw84 hw) (by decide) 0 (by decide) (by decide) (by rw [hml]; rfl) [(.int r0_91)] [] (lenOf pd_21 rfl) (Nat.le_of_eq rfl) eq94 (by decide) (by decide) rfl rfl (H at_213) fun v95 T95 Lc95 X95 hQ95 => ?_
         obtain ⟨rfl, N95q, eq95⟩ := hQ95
         have N95 := Fr.app N94 N95q
         show Gs p e below _ T95 m 216 #[iv p1, iv p2, iv p3, iv p4, iv p5, iv i4, iv r0_89, iv r0_90, iv r0_91, iv r0_92, rv x, .unset] [(.int i1)]
         refine g_ifYes X95 hx 233 (H at_216) (feq (by decide : ¬ (i1 = i0))).2 (by decide) (by decide) ?_
         refine g_iconst X95 hx i1 (H at_233) rfl ?_
         refine g_goto X95 hx 238 (H at_234) (by decide) (by decide) ?_
         refine g_istore X95 hx (H at_238) (l' := #[iv p1, iv p2, iv p3, iv p4, iv p5, iv i4, iv r0_89, iv r0_90, iv r0_91, iv r0_92, rv x, iv i1]) rfl ?_
         refine g_aload X95 hx (H at_240) rfl rfl ?_
         refine g_static X95 hx hZ hM hown (tw28 hw) (tw29 hw) (tw30 hw) (tw31 hw) (by decide) 0 (by decide) (by decide) (by rw [hml]; rfl) [(.ref x)] [] (lenOf pd_19 rfl) (Nat.le_of_eq rfl) eq95 (by decide) (by decide) rfl rfl (H at_242) fun v96 T96 Lc96 X96 hQ96 => ?_
         obtain ⟨r0_96, rfl, hp96, N96q, eq96⟩ := hQ96
         have N96 := Fr.app N95 N96q
         show Gs p e below _ T96 m 245 #[iv p1, iv p2, iv p3, iv p4, iv p5, iv i4, iv r0_89, iv r0_90, iv r0_91, iv r0_92, rv x, iv i1] [(.int r0_96)]
         refine g_iload X96 hx (H at_245) rfl ?_
         refine g_icmpNo X96 hx (H at_247) (teq (hp96.elim (fun q => absurd hc_64 (q.2.2.2.2.1)) (fun q => q.1))).2 ?_
         refine g_iconst X96 hx i1 (H at_250) rfl ?_
         refine g_goto X96 hx 255 (H at_251) (by decide) (by decide) ?_
         exact Go.retW (Q := Q0 n0) hS (hk) X96 (v := some (.int i1)) (fun h => by rw [Bd.returns] at h; cases h) Bd.notSynchronized (fun fs hr => retN X96 hx (t := .boolean) Bd.returns (by simp) (H at_255) hr) eq96 ⟨rfl, N96⟩ (by decide) (by decide)
        ·skip
         refine g_static X94 hx hZ (rm18_ff l Z a0 hw r0_91 h n0 (Nat.le_trans Z0 K.1) hc_63 hc_64) hown (tw82 hw) (tw83 hw) (tw3 hw) (tw84 hw) (by decide) 0 (by decide) (by decide) (by rw [hml]; rfl) [(.int r0_91)] [] (lenOf pd_21 rfl) (Nat.le_of_eq rfl) eq94 (by decide) (by decide) rfl rfl (H at_213) fun v95 T95 Lc95 X95 hQ95 => ?_
         obtain ⟨rfl, N95q, eq95⟩ := hQ95
         have N95 := Fr.app N94 N95q
         show Gs p e below _ T95 m 216 #[iv p1, iv p2, iv p3, iv p4, iv p5, iv i4, iv r0_89, iv r0_90, iv r0_91, iv r0_92, rv x, .unset] [(.int i0)]
         refine g_ifNo X95 hx (H at_216) (teq (by decide : (i0 = i0))).2 ?_
         refine g_iload X95 hx (H at_219) rfl ?_
         refine g_iconst X95 hx i3 (H at_221) rfl ?_
         refine g_icmpNo X95 hx (H at_222) (tlt (by decide : (i3 < i4))).2.2.2 ?_
         refine g_iload X95 hx (H at_225) rfl ?_
         by_cases hc_65 : r0_92 = i42
         ·skip
          refine g_static X95 hx hZ (rm18_t l Z a0 hw r0_92 h n0 (Nat.le_trans Z0 K.1) hc_65) hown (tw82 hw) (tw83 hw) (tw3 hw) (tw84 hw) (by decide) 0 (by decide) (by decide) (by rw [hml]; rfl) [(.int r0_92)] [] (lenOf pd_21 rfl) (Nat.le_of_eq rfl) eq95 (by decide) (by decide) rfl rfl (H at_227) fun v96 T96 Lc96 X96 hQ96 => ?_
          obtain ⟨rfl, N96q, eq96⟩ := hQ96
          have N96 := Fr.app N95 N96q
          show Gs p e below _ T96 m 230 #[iv p1, iv p2, iv p3, iv p4, iv p5, iv i4, iv r0_89, iv r0_90, iv r0_91, iv r0_92, rv x, .unset] [(.int i1)]
          refine g_ifNo X96 hx (H at_230) (feq (by decide : ¬ (i1 = i0))).1 ?_
          refine g_iconst X96 hx i1 (H at_233) rfl ?_
          refine g_goto X96 hx 238 (H at_234) (by decide) (by decide) ?_
          refine g_istore X96 hx (H at_238) (l' := #[iv p1, iv p2, iv p3, iv p4, iv p5, iv i4, iv r0_89, iv r0_90, iv r0_91, iv r0_92, rv x, iv i1]) rfl ?_
          refine g_aload X96 hx (H at_240) rfl rfl ?_
          refine g_static X96 hx hZ hM hown (tw28 hw) (tw29 hw) (tw30 hw) (tw31 hw) (by decide) 0 (by decide) (by decide) (by rw [hml]; rfl) [(.ref x)] [] (lenOf pd_19 rfl) (Nat.le_of_eq rfl) eq96 (by decide) (by decide) rfl rfl (H at_242) fun v97 T97 Lc97 X97 hQ97 => ?_
          obtain ⟨r0_97, rfl, hp97, N97q, eq97⟩ := hQ97
          have N97 := Fr.app N96 N97q
          show Gs p e below _ T97 m 245 #[iv p1, iv p2, iv p3, iv p4, iv p5, iv i4, iv r0_89, iv r0_90, iv r0_91, iv r0_92, rv x, iv i1] [(.int r0_97)]
          refine g_iload X97 hx (H at_245) rfl ?_
          refine g_icmpNo X97 hx (H at_247) (teq (hp97.elim (fun q => absurd hc_65 (q.2.1.2.2.2)) (fun q => q.1))).2 ?_
          refine g_iconst X97 hx i1 (H at_250) rfl ?_
          refine g_goto X97 hx 255 (H at_251) (by decide) (by decide) ?_
          exact Go.retW (Q := Q0 n0) hS (hk) X97 (v := some (.int i1)) (fun h => by rw [Bd.returns] at h; cases h) Bd.notSynchronized (fun fs hr => retN X97 hx (t := .boolean) Bd.returns (by simp) (H at_255) hr) eq97 ⟨rfl, N97⟩ (by decide) (by decide)
         ·skip
          by_cases hc_66 : r0_92 = i63
          ·skip
           refine g_static X95 hx hZ (rm18_ft l Z a0 hw r0_92 h n0 (Nat.le_trans Z0 K.1) hc_65 hc_66) hown (tw82 hw) (tw83 hw) (tw3 hw) (tw84 hw) (by decide) 0 (by decide) (by decide) (by rw [hml]; rfl) [(.int r0_92)] [] (lenOf pd_21 rfl) (Nat.le_of_eq rfl) eq95 (by decide) (by decide) rfl rfl (H at_227) fun v96 T96 Lc96 X96 hQ96 => ?_
           obtain ⟨rfl, N96q, eq96⟩ := hQ96
           have N96 := Fr.app N95 N96q
           show Gs p e below _ T96 m 230 #[iv p1, iv p2, iv p3, iv p4, iv p5, iv i4, iv r0_89, iv r0_90, iv r0_91, iv r0_92, rv x, .unset] [(.int i1)]
           refine g_ifNo X96 hx (H at_230) (feq (by decide : ¬ (i1 = i0))).1 ?_
           refine g_iconst X96 hx i1 (H at_233) rfl ?_
           refine g_goto X96 hx 238 (H at_234) (by decide) (by decide) ?_
           refine g_istore X96 hx (H at_238) (l' := #[iv p1, iv p2, iv p3, iv p4, iv p5, iv i4, iv r0_89, iv r0_90, iv r0_91, iv r0_92, rv x, iv i1]) rfl ?_
           refine g_aload X96 hx (H at_240) rfl rfl ?_
           refine g_static X96 hx hZ hM hown (tw28 hw) (tw29 hw) (tw30 hw) (tw31 hw) (by decide) 0 (by decide) (by decide) (by rw [hml]; rfl) [(.ref x)] [] (lenOf pd_19 rfl) (Nat.le_of_eq rfl) eq96 (by decide) (by decide) rfl rfl (H at_242) fun v97 T97 Lc97 X97 hQ97 => ?_
           obtain ⟨r0_97, rfl, hp97, N97q, eq97⟩ := hQ97
           have N97 := Fr.app N96 N97q
           show Gs p e below _ T97 m 245 #[iv p1, iv p2, iv p3, iv p4, iv p5, iv i4, iv r0_89, iv r0_90, iv r0_91, iv r0_92, rv x, iv i1] [(.int r0_97)]
           refine g_iload X97 hx (H at_245) rfl ?_
           refine g_icmpNo X97 hx (H at_247) (teq (hp97.elim (fun q => absurd hc_66 (q.2.2.2.2.2)) (fun q => q.1))).2 ?_
           refine g_iconst X97 hx i1 (H at_250) rfl ?_
           refine g_goto X97 hx 255 (H at_251) (by decide) (by decide) ?_
           exact Go.retW (Q := Q0 n0) hS (hk) X97 (v := some (.int i1)) (fun h => by rw [Bd.returns] at h; cases h) Bd.notSynchronized (fun fs hr => retN X97 hx (t := .boolean) Bd.returns (by simp) (H at_255) hr) eq97 ⟨rfl, N97⟩ (by decide) (by decide)
          ·skip
           refine g_static X95 hx hZ (rm18_ff l Z a0 hw r0_92 h n0 (Nat.le_trans Z0 K.1) hc_65 hc_66) hown (tw82 hw) (tw83 hw) (tw3 hw) (tw84 hw) (by decide) 0 (by decide) (by decide) (by rw [hml]; rfl) [(.int r0_92)] [] (lenOf pd_21 rfl) (Nat.le_of_eq rfl) eq95 (by decide) (by decide) rfl rfl (H at_227) fun v96 T96 Lc96 X96 hQ96 => ?_
           obtain ⟨rfl, N96q, eq96⟩ := hQ96
           have N96 := Fr.app N95 N96q
           show Gs p e below _ T96 m 230 #[iv p1, iv p2, iv p3, iv p4, iv p5, iv i4, iv r0_89, iv r0_90, iv r0_91, iv r0_92, rv x, .unset] [(.int i0)]
           refine g_ifYes X96 hx 237 (H at_230) (teq (by decide : (i0 = i0))).1 (by decide) (by decide) ?_
           refine g_iconst X96 hx i0 (H at_237) rfl ?_
           refine g_istore X96 hx (H at_238) (l' := #[iv p1, iv p2, iv p3, iv p4, iv p5, iv i4, iv r0_89, iv r0_90, iv r0_91, iv r0_92, rv x, iv i0]) rfl ?_
           refine g_aload X96 hx (H at_240) rfl rfl ?_
           refine g_static X96 hx hZ hM hown (tw28 hw) (tw29 hw) (tw30 hw) (tw31 hw) (by decide) 0 (by decide) (by decide) (by rw [hml]; rfl) [(.ref x)] [] (lenOf pd_19 rfl) (Nat.le_of_eq rfl) eq96 (by decide) (by decide) rfl rfl (H at_242) fun v97 T97 Lc97 X97 hQ97 => ?_
           obtain ⟨r0_97, rfl, hp97, N97q, eq97⟩ := hQ97
           have N97 := Fr.app N96 N97q
           show Gs p e below _ T97 m 245 #[iv p1, iv p2, iv p3, iv p4, iv p5, iv i4, iv r0_89, iv r0_90, iv r0_91, iv r0_92, rv x, iv i0] [(.int r0_97)]
           refine g_iload X97 hx (H at_245) rfl ?_
           refine g_icmpNo X97 hx (H at_247) (teq (hp97.elim (fun q => q.1) (fun q => absurd ⟨⟨hc_59, hc_61, hc_63, hc_65⟩, ⟨hc_60, hc_62, hc_64, hc_66⟩⟩ q.2))).2 ?_
           refine g_iconst X97 hx i1 (H at_250) rfl ?_
           refine g_goto X97 hx 255 (H at_251) (by decide) (by decide) ?_
           exact Go.retW (Q := Q0 n0) hS (hk) X97 (v := some (.int i1)) (fun h => by rw [Bd.returns] at h; cases h) Bd.notSynchronized (fun fs hr => retN X97 hx (t := .boolean) Bd.returns (by simp) (H at_255) hr) eq97 ⟨rfl, N97⟩ (by decide) (by decide)
  refine g_iload X92 hx (H at_33) rfl ?_
  refine g_ifYes X92 hx 53 (H at_35) (feq (by decide : ¬ (i4 = i0))).2 (by decide) (by decide) ?_
  refine g_iload X92 hx (H at_53) rfl ?_
  refine g_iconst X92 hx i1 (H at_55) rfl ?_
  refine g_icmpYes X92 hx 79 (H at_56) (feq (by decide : ¬ (i4 = i1))).2 (by decide) (by decide) ?_
  refine g_iload X92 hx (H at_79) rfl ?_
  refine g_iconst X92 hx i2 (H at_81) rfl ?_
  refine g_icmpYes X92 hx 110 (H at_82) (feq (by decide : ¬ (i4 = i2))).2 (by decide) (by decide) ?_
  refine g_iload X92 hx (H at_110) rfl ?_
  refine g_iconst X92 hx i3 (H at_112) rfl ?_
  refine g_icmpYes X92 hx 146 (H at_113) (feq (by decide : ¬ (i4 = i3))).2 (by decide) (by decide) ?_
  refine g_new X92 hx hZ hown (tw6 hw) (tw7 hw) (tw8 hw) eq92 (H at_146) (by decide) (by decide) fun b98 T98 h98 g98 X98 e98 E98 A98 D98 => ?_
  have g_b98 : n0 ≤ b98 := Nat.le_trans Z0 (Nat.le_of_eq g98.symm)
  have sz_b98 : h0.size ≤ b98 := Nat.le_of_eq g98.symm
  have K98 : Keep h0 h98 [] := (Keep.refl h0 []).ext E98
  have E_b98 : Exa Z h98 b98 s0_ := A98
  have F_value_b98 : Fld Z h98 b98 s0_ "value" "[B" .null := D98 (Or.inr (tw22 hw)) (ty := (.array .byte)) (by decide)
  have F_coder_b98 : Fld Z h98 b98 s0_ "coder" "B" (.int i0) := D98 (Or.inr (tw23 hw)) (ty := .byte) (by decide)
  refine g_dup X98 hx (H at_149) rfl ?_
  refine g_iconst X98 hx i4 (H at_150) rfl ?_
  refine g_newP X98 hx hZ (H at_151) (tw9 hw) e98 (by decide) 4 (by decide) (by decide) (by decide) (by decide) fun b99 T99 h99 k99 g99 X99 e99 E99 A99 => ?_
  have g_b99 : n0 ≤ b99 := Nat.le_trans (Nat.le_trans Z0 K98.1) (Nat.le_of_eq g99.symm)
  have sz_b99 : h0.size ≤ b99 := Nat.le_trans K98.1 (Nat.le_of_eq g99.symm)
  have lt_b98_b99 : b98 < b99 := Nat.lt_of_lt_of_le E_b98.lt (Nat.le_of_eq g99.symm)
  have K99 : Keep h0 h99 [] := K98.ext E99
  have V_b99 : Arv Z h99 b99 k99 .char i4 [(.int i0), (.int i0), (.int i0), (.int i0)] (.int i0) := (Arv.new A99 (by decide)).pad (pad_rep [] (.int i0) 4)
  refine g_dup X99 hx (H at_153) rfl ?_
  refine g_iconst X99 hx i0 (H at_154) rfl ?_
  refine g_iload X99 hx (H at_155) rfl ?_
  obtain ⟨clq100, Arq100, caq100, saq100, naq100, haq100, gaq100⟩ := id V_b99
  have inq100 : ¬ (i0 < 0 ∨ clq100.slots.size ≤ (i0).toNatClampNeg) := inb_of saq100 ⟨by decide, by decide⟩
  refine g_stC X99 hx hZ e99 Arq100 inq100 (H at_157) fun T101 h101 X101 e101 W101 => ?_
  have K101 : Keep h0 h101 [] := K99.wr W101 (Or.inr sz_b99)
  have V101 : Arv Z h101 b99 k99 .char i4 [(.int (nar .char r0_89)), (.int i0), (.int i0), (.int i0)] (.int i0) := Arv.set Arq100 caq100 saq100 naq100 haq100 gaq100 (fits_nar_char _) W101 0 rfl (Nat.le_of_ble_eq_true rfl)
  rw [own_nar hp89] at V101
  have N101 := Fr.snoc X101 N92 g_b99
  refine g_dup X101 hx (H at_158) rfl ?_
  refine g_iconst X101 hx i1 (H at_159) rfl ?_
  refine g_iload X101 hx (H at_160) rfl ?_
  obtain ⟨clq102, Arq102, caq102, saq102, naq102, haq102, gaq102⟩ := id V101
  have inq102 : ¬ (i1 < 0 ∨ clq102.slots.size ≤ (i1).toNatClampNeg) := inb_of saq102 ⟨by decide, by decide⟩
  refine g_stC X101 hx hZ e101 Arq102 inq102 (H at_162) fun T103 h103 X103 e103 W103 => ?_
  have K103 : Keep h0 h103 [] := K101.wr W103 (Or.inr sz_b99)
  have V103 : Arv Z h103 b99 k99 .char i4 [(.int r0_89), (.int (nar .char r0_90)), (.int i0), (.int i0)] (.int i0) := Arv.set Arq102 caq102 saq102 naq102 haq102 gaq102 (fits_nar_char _) W103 1 rfl (Nat.le_of_ble_eq_true rfl)
  rw [own_nar hp90] at V103
  have N103 := Fr.snoc X103 N101 g_b99
  refine g_dup X103 hx (H at_163) rfl ?_
  refine g_iconst X103 hx i2 (H at_164) rfl ?_
  refine g_iload X103 hx (H at_165) rfl ?_
  obtain ⟨clq104, Arq104, caq104, saq104, naq104, haq104, gaq104⟩ := id V103
  have inq104 : ¬ (i2 < 0 ∨ clq104.slots.size ≤ (i2).toNatClampNeg) := inb_of saq104 ⟨by decide, by decide⟩
  refine g_stC X103 hx hZ e103 Arq104 inq104 (H at_167) fun T105 h105 X105 e105 W105 => ?_
  have K105 : Keep h0 h105 [] := K103.wr W105 (Or.inr sz_b99)
  have V105 : Arv Z h105 b99 k99 .char i4 [(.int r0_89), (.int r0_90), (.int (nar .char r0_91)), (.int i0)] (.int i0) := Arv.set Arq104 caq104 saq104 naq104 haq104 gaq104 (fits_nar_char _) W105 2 rfl (Nat.le_of_ble_eq_true rfl)
  rw [own_nar hp91] at V105
  have N105 := Fr.snoc X105 N103 g_b99
  refine g_dup X105 hx (H at_168) rfl ?_
  refine g_iconst X105 hx i3 (H at_169) rfl ?_
  refine g_iload X105 hx (H at_170) rfl ?_
  obtain ⟨clq106, Arq106, caq106, saq106, naq106, haq106, gaq106⟩ := id V105
  have inq106 : ¬ (i3 < 0 ∨ clq106.slots.size ≤ (i3).toNatClampNeg) := inb_of saq106 ⟨by decide, by decide⟩
  refine g_stC X105 hx hZ e105 Arq106 inq106 (H at_172) fun T107 h107 X107 e107 W107 => ?_
  have K107 : Keep h0 h107 [] := K105.wr W107 (Or.inr sz_b99)
  have V107 : Arv Z h107 b99 k99 .char i4 [(.int r0_89), (.int r0_90), (.int r0_91), (.int (nar .char r0_92))] (.int i0) := Arv.set Arq106 caq106 saq106 naq106 haq106 gaq106 (fits_nar_char _) W107 3 rfl (Nat.le_of_ble_eq_true rfl)
  rw [own_nar hp92] at V107
  have N107 := Fr.snoc X107 N105 g_b99
  by_cases hc_67 : i255 < r0_89
  ·skip
   have f_108 := (Exa.wr W107 (Exa.wr W105 (Exa.wr W103 (Exa.wr W101 (Exa.ext E99 E_b98)))))
   have f_109 := (staKeep0 S__assertionsDisabled K107)
   have f_110 := (staKeep0 S_HI_BYTE_SHIFT K107)
   have f_111 := (staKeep0 S_LO_BYTE_SHIFT K107)
   have f_112 := (Fld.other W107 (Fld.other W105 (Fld.other W103 (Fld.other W101 (Fld.ext E99 F_coder_b98) (Or.inl (Nat.ne_of_lt lt_b98_b99))) (Or.inl (Nat.ne_of_lt lt_b98_b99))) (Or.inl (Nat.ne_of_lt lt_b98_b99))) (Or.inl (Nat.ne_of_lt lt_b98_b99)))
   have f_113 := (Fld.other W107 (Fld.other W105 (Fld.other W103 (Fld.other W101 (Fld.ext E99 F_value_b98) (Or.inl (Nat.ne_of_lt lt_b98_b99))) (Or.inl (Nat.ne_of_lt lt_b98_b99))) (Or.inl (Nat.ne_of_lt lt_b98_b99))) (Or.inl (Nat.ne_of_lt lt_b98_b99)))
   have f_114 := (staKeep0 S_COMPACT_STRINGS K107)
   refine g_special X107 hx hZ (rm24U_f l Z a0 hw b98 b99 r0_89 r0_90 r0_91 r0_92 k99 (.int i0) .null wcs h107 n0 (Nat.le_trans Z0 K107.1) f_108 V107 hp89 hp90 hp91 hp92 f_109 f_110 f_111 f_112 f_113 g_b98 (Ne.symm (Nat.ne_of_lt lt_b98_b99)) (Or.inl hc_67) hcs f_114) rfl rfl hown (tw10 hw) (tw11 hw) (tw8 hw) (tw12 hw) (by decide) 1 (by decide) (by decide) (by rw [hml]; rfl) [(.ref b99)] [(.ref b98)] (lenOf pd_20 rfl) (Nat.le_of_eq rfl) e107 (by decide) (by decide) rfl rfl (H at_173) fun v115 T115 Lc115 X115 hQ115 => ?_
   obtain ⟨b2_2_8_6_5_115, k2_2_8_6_5_115, rfl, N115q, Kc115, P115_0, P115_1, P115_2, P115_3⟩ := hQ115
   have K115 : Keep h0 T115.heap [] := K107.trans Kc115 (allS (Or.inr sz_b98) all0)
   have N115 := Fr.app N107 N115q
   show Gs p e below _ T115 m 176 #[iv p1, iv p2, iv p3, iv p4, iv p5, iv i4, iv r0_89, iv r0_90, iv r0_91, iv r0_92, .unset, .unset] [(.ref b98)]
   refine g_astore X115 hx (H at_176) rfl (l' := #[iv p1, iv p2, iv p3, iv p4, iv p5, iv i4, iv r0_89, iv r0_90, iv r0_91, iv r0_92, rv b98, .unset]) rfl ?_
   have f_116 := (staKeepE f_114 Kc115 f_108)
   have f_117 := (staKeepE f_109 Kc115 f_108)
   have f_118 := (staKeepE f_110 Kc115 f_108)
   have f_119 := (staKeepE f_111 Kc115 f_108)
   have hk := (Nat.le_trans (Nat.le_trans (Nat.le_trans (Nat.le_trans (Nat.le_trans (Nat.le_trans (Nat.le_trans hk E98.1) E99.1) (Nat.le_of_eq (Wr.size W101).symm)) (Nat.le_of_eq (Wr.size W103).symm)) (Nat.le_of_eq (Wr.size W105).symm)) (Nat.le_of_eq (Wr.size W107).symm)) Kc115.1)
   exact tail _ _ _ _ _ _ hS hk hZ hown (X115.more (by decide) (by decide)) rfl N115 K115 (rm54U l Z a0 hw b98 b2_2_8_6_5_115 r0_89 r0_90 r0_91 r0_92 k2_2_8_6_5_115 wcs T115.heap n0 (Nat.le_trans Z0 K115.1) P115_0 P115_2 P115_1 P115_3 hp89 hp90 hp91 hp92 f_116 hcs f_117 f_118 f_119 (own_fm K115 hfm))
  ·skip
   by_cases hc_68 : i255 < r0_90
   ·skip
    have f_108 := (Exa.wr W107 (Exa.wr W105 (Exa.wr W103 (Exa.wr W101 (Exa.ext E99 E_b98)))))
    have f_109 := (staKeep0 S__assertionsDisabled K107)
    have f_110 := (staKeep0 S_HI_BYTE_SHIFT K107)
    have f_111 := (staKeep0 S_LO_BYTE_SHIFT K107)
    have f_112 := (Fld.other W107 (Fld.other W105 (Fld.other W103 (Fld.other W101 (Fld.ext E99 F_coder_b98) (Or.inl (Nat.ne_of_lt lt_b98_b99))) (Or.inl (Nat.ne_of_lt lt_b98_b99))) (Or.inl (Nat.ne_of_lt lt_b98_b99))) (Or.inl (Nat.ne_of_lt lt_b98_b99)))
    have f_113 := (Fld.other W107 (Fld.other W105 (Fld.other W103 (Fld.other W101 (Fld.ext E99 F_value_b98) (Or.inl (Nat.ne_of_lt lt_b98_b99))) (Or.inl (Nat.ne_of_lt lt_b98_b99))) (Or.inl (Nat.ne_of_lt lt_b98_b99))) (Or.inl (Nat.ne_of_lt lt_b98_b99)))
    have f_114 := (staKeep0 S_COMPACT_STRINGS K107)
    refine g_special X107 hx hZ (rm24U_f l Z a0 hw b98 b99 r0_89 r0_90 r0_91 r0_92 k99 (.int i0) .null wcs h107 n0 (Nat.le_trans Z0 K107.1) f_108 V107 hp89 hp90 hp91 hp92 f_109 f_110 f_111 f_112 f_113 g_b98 (Ne.symm (Nat.ne_of_lt lt_b98_b99)) (Or.inr (Or.inl hc_68)) hcs f_114) rfl rfl hown (tw10 hw) (tw11 hw) (tw8 hw) (tw12 hw) (by decide) 1 (by decide) (by decide) (by rw [hml]; rfl) [(.ref b99)] [(.ref b98)] (lenOf pd_20 rfl) (Nat.le_of_eq rfl) e107 (by decide) (by decide) rfl rfl (H at_173) fun v115 T115 Lc115 X115 hQ115 => ?_
    obtain ⟨b2_2_8_6_5_115, k2_2_8_6_5_115, rfl, N115q, Kc115, P115_0, P115_1, P115_2, P115_3⟩ := hQ115
    have K115 : Keep h0 T115.heap [] := K107.trans Kc115 (allS (Or.inr sz_b98) all0)
    have N115 := Fr.app N107 N115q
    show Gs p e below _ T115 m 176 #[iv p1, iv p2, iv p3, iv p4, iv p5, iv i4, iv r0_89, iv r0_90, iv r0_91, iv r0_92, .unset, .unset] [(.ref b98)]
    refine g_astore X115 hx (H at_176) rfl (l' := #[iv p1, iv p2, iv p3, iv p4, iv p5, iv i4, iv r0_89, iv r0_90, iv r0_91, iv r0_92, rv b98, .unset]) rfl ?_
    have f_116 := (staKeepE f_114 Kc115 f_108)
    have f_117 := (staKeepE f_109 Kc115 f_108)
    have f_118 := (staKeepE f_110 Kc115 f_108)
    have f_119 := (staKeepE f_111 Kc115 f_108)
    have hk := (Nat.le_trans (Nat.le_trans (Nat.le_trans (Nat.le_trans (Nat.le_trans (Nat.le_trans (Nat.le_trans hk E98.1) E99.1) (Nat.le_of_eq (Wr.size W101).symm)) (Nat.le_of_eq (Wr.size W103).symm)) (Nat.le_of_eq (Wr.size W105).symm)) (Nat.le_of_eq (Wr.size W107).symm)) Kc115.1)
    exact tail _ _ _ _ _ _ hS hk hZ hown (X115.more (by decide) (by decide)) rfl N115 K115 (rm54U l Z a0 hw b98 b2_2_8_6_5_115 r0_89 r0_90 r0_91 r0_92 k2_2_8_6_5_115 wcs T115.heap n0 (Nat.le_trans Z0 K115.1) P115_0 P115_2 P115_1 P115_3 hp89 hp90 hp91 hp92 f_116 hcs f_117 f_118 f_119 (own_fm K115 hfm))
   ·skip
    by_cases hc_69 : i255 < r0_91
    ·skip
     have f_108 := (Exa.wr W107 (Exa.wr W105 (Exa.wr W103 (Exa.wr W101 (Exa.ext E99 E_b98)))))
     have f_109 := (staKeep0 S__assertionsDisabled K107)
     have f_110 := (staKeep0 S_HI_BYTE_SHIFT K107)
     have f_111 := (staKeep0 S_LO_BYTE_SHIFT K107)
     have f_112 := (Fld.other W107 (Fld.other W105 (Fld.other W103 (Fld.other W101 (Fld.ext E99 F_coder_b98) (Or.inl (Nat.ne_of_lt lt_b98_b99))) (Or.inl (Nat.ne_of_lt lt_b98_b99))) (Or.inl (Nat.ne_of_lt lt_b98_b99))) (Or.inl (Nat.ne_of_lt lt_b98_b99)))
     have f_113 := (Fld.other W107 (Fld.other W105 (Fld.other W103 (Fld.other W101 (Fld.ext E99 F_value_b98) (Or.inl (Nat.ne_of_lt lt_b98_b99))) (Or.inl (Nat.ne_of_lt lt_b98_b99))) (Or.inl (Nat.ne_of_lt lt_b98_b99))) (Or.inl (Nat.ne_of_lt lt_b98_b99)))
     have f_114 := (staKeep0 S_COMPACT_STRINGS K107)
     refine g_special X107 hx hZ (rm24U_f l Z a0 hw b98 b99 r0_89 r0_90 r0_91 r0_92 k99 (.int i0) .null wcs h107 n0 (Nat.le_trans Z0 K107.1) f_108 V107 hp89 hp90 hp91 hp92 f_109 f_110 f_111 f_112 f_113 g_b98 (Ne.symm (Nat.ne_of_lt lt_b98_b99)) (Or.inr (Or.inr (Or.inl hc_69))) hcs f_114) rfl rfl hown (tw10 hw) (tw11 hw) (tw8 hw) (tw12 hw) (by decide) 1 (by decide) (by decide) (by rw [hml]; rfl) [(.ref b99)] [(.ref b98)] (lenOf pd_20 rfl) (Nat.le_of_eq rfl) e107 (by decide) (by decide) rfl rfl (H at_173) fun v115 T115 Lc115 X115 hQ115 => ?_
     obtain ⟨b2_2_8_6_5_115, k2_2_8_6_5_115, rfl, N115q, Kc115, P115_0, P115_1, P115_2, P115_3⟩ := hQ115
     have K115 : Keep h0 T115.heap [] := K107.trans Kc115 (allS (Or.inr sz_b98) all0)
     have N115 := Fr.app N107 N115q
     show Gs p e below _ T115 m 176 #[iv p1, iv p2, iv p3, iv p4, iv p5, iv i4, iv r0_89, iv r0_90, iv r0_91, iv r0_92, .unset, .unset] [(.ref b98)]
     refine g_astore X115 hx (H at_176) rfl (l' := #[iv p1, iv p2, iv p3, iv p4, iv p5, iv i4, iv r0_89, iv r0_90, iv r0_91, iv r0_92, rv b98, .unset]) rfl ?_
     have f_116 := (staKeepE f_114 Kc115 f_108)
     have f_117 := (staKeepE f_109 Kc115 f_108)
     have f_118 := (staKeepE f_110 Kc115 f_108)
     have f_119 := (staKeepE f_111 Kc115 f_108)
     have hk := (Nat.le_trans (Nat.le_trans (Nat.le_trans (Nat.le_trans (Nat.le_trans (Nat.le_trans (Nat.le_trans hk E98.1) E99.1) (Nat.le_of_eq (Wr.size W101).symm)) (Nat.le_of_eq (Wr.size W103).symm)) (Nat.le_of_eq (Wr.size W105).symm)) (Nat.le_of_eq (Wr.size W107).symm)) Kc115.1)
     exact tail _ _ _ _ _ _ hS hk hZ hown (X115.more (by decide) (by decide)) rfl N115 K115 (rm54U l Z a0 hw b98 b2_2_8_6_5_115 r0_89 r0_90 r0_91 r0_92 k2_2_8_6_5_115 wcs T115.heap n0 (Nat.le_trans Z0 K115.1) P115_0 P115_2 P115_1 P115_3 hp89 hp90 hp91 hp92 f_116 hcs f_117 f_118 f_119 (own_fm K115 hfm))
    ·skip
     by_cases hc_70 : i255 < r0_92
     ·skip
      have f_108 := (Exa.wr W107 (Exa.wr W105 (Exa.wr W103 (Exa.wr W101 (Exa.ext E99 E_b98)))))
      have f_109 := (staKeep0 S__assertionsDisabled K107)
      have f_110 := (staKeep0 S_HI_BYTE_SHIFT K107)
      have f_111 := (staKeep0 S_LO_BYTE_SHIFT K107)
      have f_112 := (Fld.other W107 (Fld.other W105 (Fld.other W103 (Fld.other W101 (Fld.ext E99 F_coder_b98) (Or.inl (Nat.ne_of_lt lt_b98_b99))) (Or.inl (Nat.ne_of_lt lt_b98_b99))) (Or.inl (Nat.ne_of_lt lt_b98_b99))) (Or.inl (Nat.ne_of_lt lt_b98_b99)))
      have f_113 := (Fld.other W107 (Fld.other W105 (Fld.other W103 (Fld.other W101 (Fld.ext E99 F_value_b98) (Or.inl (Nat.ne_of_lt lt_b98_b99))) (Or.inl (Nat.ne_of_lt lt_b98_b99))) (Or.inl (Nat.ne_of_lt lt_b98_b99))) (Or.inl (Nat.ne_of_lt lt_b98_b99)))
      have f_114 := (staKeep0 S_COMPACT_STRINGS K107)
      refine g_special X107 hx hZ (rm24U_f l Z a0 hw b98 b99 r0_89 r0_90 r0_91 r0_92 k99 (.int i0) .null wcs h107 n0 (Nat.le_trans Z0 K107.1) f_108 V107 hp89 hp90 hp91 hp92 f_109 f_110 f_111 f_112 f_113 g_b98 (Ne.symm (Nat.ne_of_lt lt_b98_b99)) (Or.inr (Or.inr (Or.inr hc_70))) hcs f_114) rfl rfl hown (tw10 hw) (tw11 hw) (tw8 hw) (tw12 hw) (by decide) 1 (by decide) (by decide) (by rw [hml]; rfl) [(.ref b99)] [(.ref b98)] (lenOf pd_20 rfl) (Nat.le_of_eq rfl) e107 (by decide) (by decide) rfl rfl (H at_173) fun v115 T115 Lc115 X115 hQ115 => ?_
      obtain ⟨b2_2_8_6_5_115, k2_2_8_6_5_115, rfl, N115q, Kc115, P115_0, P115_1, P115_2, P115_3⟩ := hQ115
      have K115 : Keep h0 T115.heap [] := K107.trans Kc115 (allS (Or.inr sz_b98) all0)
      have N115 := Fr.app N107 N115q
      show Gs p e below _ T115 m 176 #[iv p1, iv p2, iv p3, iv p4, iv p5, iv i4, iv r0_89, iv r0_90, iv r0_91, iv r0_92, .unset, .unset] [(.ref b98)]
      refine g_astore X115 hx (H at_176) rfl (l' := #[iv p1, iv p2, iv p3, iv p4, iv p5, iv i4, iv r0_89, iv r0_90, iv r0_91, iv r0_92, rv b98, .unset]) rfl ?_
      have f_116 := (staKeepE f_114 Kc115 f_108)
      have f_117 := (staKeepE f_109 Kc115 f_108)
      have f_118 := (staKeepE f_110 Kc115 f_108)
      have f_119 := (staKeepE f_111 Kc115 f_108)
      have hk := (Nat.le_trans (Nat.le_trans (Nat.le_trans (Nat.le_trans (Nat.le_trans (Nat.le_trans (Nat.le_trans hk E98.1) E99.1) (Nat.le_of_eq (Wr.size W101).symm)) (Nat.le_of_eq (Wr.size W103).symm)) (Nat.le_of_eq (Wr.size W105).symm)) (Nat.le_of_eq (Wr.size W107).symm)) Kc115.1)
      exact tail _ _ _ _ _ _ hS hk hZ hown (X115.more (by decide) (by decide)) rfl N115 K115 (rm54U l Z a0 hw b98 b2_2_8_6_5_115 r0_89 r0_90 r0_91 r0_92 k2_2_8_6_5_115 wcs T115.heap n0 (Nat.le_trans Z0 K115.1) P115_0 P115_2 P115_1 P115_3 hp89 hp90 hp91 hp92 f_116 hcs f_117 f_118 f_119 (own_fm K115 hfm))
     ·skip
      have f_108 := (Exa.wr W107 (Exa.wr W105 (Exa.wr W103 (Exa.wr W101 (Exa.ext E99 E_b98)))))
      have f_109 := (staKeep0 S__assertionsDisabled K107)
      have f_110 := (staKeep0 S_HI_BYTE_SHIFT K107)
      have f_111 := (staKeep0 S_LO_BYTE_SHIFT K107)
      have f_112 := (Fld.other W107 (Fld.other W105 (Fld.other W103 (Fld.other W101 (Fld.ext E99 F_coder_b98) (Or.inl (Nat.ne_of_lt lt_b98_b99))) (Or.inl (Nat.ne_of_lt lt_b98_b99))) (Or.inl (Nat.ne_of_lt lt_b98_b99))) (Or.inl (Nat.ne_of_lt lt_b98_b99)))
      have f_113 := (Fld.other W107 (Fld.other W105 (Fld.other W103 (Fld.other W101 (Fld.ext E99 F_value_b98) (Or.inl (Nat.ne_of_lt lt_b98_b99))) (Or.inl (Nat.ne_of_lt lt_b98_b99))) (Or.inl (Nat.ne_of_lt lt_b98_b99))) (Or.inl (Nat.ne_of_lt lt_b98_b99)))
      have f_114 := (staKeep0 S_COMPACT_STRINGS K107)
      refine g_special X107 hx hZ (rm24L_f l Z a0 hw b98 b99 r0_89 r0_90 r0_91 r0_92 k99 (.int i0) .null wcs h107 n0 (Nat.le_trans Z0 K107.1) f_108 V107 hp89 hp90 hp91 hp92 f_109 f_110 f_111 f_112 f_113 g_b98 (Ne.symm (Nat.ne_of_lt lt_b98_b99)) hc_67 hc_68 hc_69 hc_70 hcs f_114) rfl rfl hown (tw10 hw) (tw11 hw) (tw8 hw) (tw12 hw) (by decide) 1 (by decide) (by decide) (by rw [hml]; rfl) [(.ref b99)] [(.ref b98)] (lenOf pd_20 rfl) (Nat.le_of_eq rfl) e107 (by decide) (by decide) rfl rfl (H at_173) fun v115 T115 Lc115 X115 hQ115 => ?_
      obtain ⟨b2_6_5_115, k2_6_5_115, rfl, N115q, Kc115, P115_0, P115_1, P115_2, P115_3⟩ := hQ115
      have K115 : Keep h0 T115.heap [] := K107.trans Kc115 (allS (Or.inr sz_b98) all0)
      have N115 := Fr.app N107 N115q
      show Gs p e below _ T115 m 176 #[iv p1, iv p2, iv p3, iv p4, iv p5, iv i4, iv r0_89, iv r0_90, iv r0_91, iv r0_92, .unset, .unset] [(.ref b98)]
      refine g_astore X115 hx (H at_176) rfl (l' := #[iv p1, iv p2, iv p3, iv p4, iv p5, iv i4, iv r0_89, iv r0_90, iv r0_91, iv r0_92, rv b98, .unset]) rfl ?_
      have f_116 := (staKeepE f_114 Kc115 f_108)
      have hk := (Nat.le_trans (Nat.le_trans (Nat.le_trans (Nat.le_trans (Nat.le_trans (Nat.le_trans (Nat.le_trans hk E98.1) E99.1) (Nat.le_of_eq (Wr.size W101).symm)) (Nat.le_of_eq (Wr.size W103).symm)) (Nat.le_of_eq (Wr.size W105).symm)) (Nat.le_of_eq (Wr.size W107).symm)) Kc115.1)
      exact tail _ _ _ _ _ _ hS hk hZ hown (X115.more (by decide) (by decide)) rfl N115 K115 (rm54L l Z a0 hw b98 b2_6_5_115 r0_89 r0_90 r0_91 r0_92 k2_6_5_115 wcs T115.heap n0 (Nat.le_trans Z0 K115.1) P115_0 P115_2 P115_1 P115_3 hp89 hp90 hp91 hp92 f_116 hcs hc_67 hc_68 hc_69 hc_70)
theorem comes_1 {Post : Tables → Env → Array Value → State → Outcome → State → Prop} (hpost : ∀ tb e args s v u, (limb_1_1.after args s (.returned v) u = true ∧ limb_1_2.after args s (.returned v) u = true ∧ True) → ReturnedEndW s (.returned v) u (Jvm.fieldLocs frame_1_writes args s ++ Jvm.arrayLocs frame_1_arrays args s ++ Jvm.staticLocs frame_1_statics s) 24 1152 → Post tb e args s (.returned v) u) :
  ArmFor flags0 classFile x code maxLocals ret World_1 tables_1 room_1 Calls_1 rest_1 Pre_1 Post := by
 intro l hfl _ _ p e ha hc hk s m args below hf hA hF happ hP
 obtain ⟨hcalls, hrest, hpre⟩ := hP
 obtain ⟨-, -, -, hnamed, -, -, -, hat⟩ := (Spec.applies_iff hf).mp happ
 obtain ⟨hg, hn⟩ := and_e (Cond.before_iff.mp (show (Jvm.Cond.and given_1 narrow_1).before args s = true from hpre))
 obtain ⟨hcount, hg⟩ := and_e hg
 obtain ⟨hg0, hg⟩ := and_e hg
 obtain ⟨hg1, hg⟩ := and_e hg
 obtain ⟨hg2, hg⟩ := and_e hg
 obtain ⟨hg3, hg⟩ := and_e hg
 have hg4 := hg
 obtain ⟨w0, w1, w2, w3, w4, rfl⟩ : ∃ w0 w1 w2 w3 w4 : Value, args = #[w0, w1, w2, w3, w4] := by
  have hs : args.size = 5 := by simpa [Cond.value, given_1] using hcount
  obtain ⟨L⟩ := args
  match L, hs with
  | [w0, w1, w2, w3, w4], _ => exact ⟨w0, w1, w2, w3, w4, rfl⟩
 have hw := fun d (hd : d ∈ tables_1) => atoms_spec (ws := Jvm.Cond.code x code maxLocals ret :: tables_1) hat d (List.mem_cons_of_mem _ hd)
 have hfit : Fit s := fun {y c} hc i hi => by
  obtain ⟨ha, rfl⟩ := Array.getElem?_eq_some_iff.mp hc
  have q := List.all_eq_true.mp ((Array.all_eq_true_iff_forall_mem.mp hF) _ (Array.getElem_mem ha)) i (List.mem_range.mpr hi)
  simpa [Array.getElem?_eq_getElem hi] using q
 obtain ⟨hsets, hown0⟩ := atoms_of _ (rest_1_c_eq ▸ (show rest_1_c.before _ s = true from hrest))
 have hr0 := Cond.before_iff.mp hown0
 obtain ⟨z0, ei0⟩ := is_v hg0
 obtain rfl : w0 = (.int z0) := Option.some.inj ei0
 obtain ⟨z1, ei1⟩ := is_v hg1
 obtain rfl : w1 = (.int z1) := Option.some.inj ei1
 obtain ⟨z2, ei2⟩ := is_v hg2
 obtain rfl : w2 = (.int z2) := Option.some.inj ei2
 obtain ⟨z3, ei3⟩ := is_v hg3
 obtain rfl : w3 = (.int z3) := Option.some.inj ei3
 obtain ⟨z4, ei4⟩ := is_v hg4
 obtain rfl : w4 = (.int z4) := Option.some.inj ei4
 have own_set := fun i => hsets i
 obtain ⟨wcs, ev_cs⟩ := is_v (Cond.before_iff.mp (hsets _ (List.mem_of_getElem? (i := 1) rfl)))
 have S_COMPACT_STRINGS := Sta.start ev_cs (Or.inl (hsets _ (List.mem_of_getElem? (i := 0) rfl)))
 have hcs : ¬ (wcs = i0) := fun q => by have e1 := not_v (Cond.before_iff.mp (hsets _ (List.mem_of_getElem? (i := 2) rfl))); exact absurd (eq_i ev_cs (Term.int_eval i0) (congrArg Value.int q)) (by rw [e1]; simp)
 have hfm : ∃ v : Value, v.isRef = true ∧ Sta s s.heap s6_ s7_ s8_ v := by obtain ⟨v, e1, e2⟩ := isR_v (Cond.before_iff.mp (hsets _ (List.mem_of_getElem? (i := 8) rfl))); exact ⟨v, e2, Sta.start e1 (Or.inl (hsets _ (List.mem_of_getElem? (i := 7) rfl)))⟩
 have S__assertionsDisabled := staInt (Cond.before_iff.mp (hsets _ (List.mem_of_getElem? (i := 12) rfl))) (Or.inl (hsets _ (List.mem_of_getElem? (i := 11) rfl)))
 have S_HI_BYTE_SHIFT := staInt (Cond.before_iff.mp (hsets _ (List.mem_of_getElem? (i := 15) rfl))) (Or.inl (hsets _ (List.mem_of_getElem? (i := 14) rfl)))
 have S_LO_BYTE_SHIFT := staInt (Cond.before_iff.mp (hsets _ (List.mem_of_getElem? (i := 18) rfl))) (Or.inl (hsets _ (List.mem_of_getElem? (i := 17) rfl)))
 have hCH : CHv s own_EL s.vm s.heap := CHv.start (own_EW hw) (fun p hp => hcalls.1 p (own_sub p hp)) (hsets _ (List.mem_of_getElem? (i := 2) rfl)) (tw21 hw) (tw7 hw)
 obtain ⟨n, o, h1, h2, h3, _, L, rfl, ⟨rfl, N⟩, hq⟩ := rm0 l s _ hw tables_1 z0 z1 z2 z3 z4 wcs s.heap s.heap.size (Nat.le_refl _) S_COMPACT_STRINGS hcs hfm S__assertionsDisabled S_HI_BYTE_SHIFT S_LO_BYTE_SHIFT p e ha hc hk s m _ below hf ((Spec.applies_iff_loose hf).mp happ).1 ⟨rfl, State.Warmed39.refl s, rfl, hCH⟩ trivial
 refine ⟨n, _, h1, h2, h3, hpost _ _ _ _ _ _ ⟨Cond.after_iff.mpr rfl, Cond.after_iff.mpr (eq_i res_at (Term.int_eval (1)) rfl), trivial⟩ ⟨hq.1, hq.2.1, hq.2.2.1, (hq.2.2.2.sift fun y hy => Or.inr (N y hy)).mono (by decide) (by decide)⟩⟩
theorem main_1_1 : Claimed_1_1 := comes_1 fun _ _ _ _ _ _ h hF => ⟨h.1, hF⟩
theorem main_1_2 : Claimed_1_2 := comes_1 fun _ _ _ _ _ _ h hF => ⟨h.2.1, hF⟩
end Jvm.Pilot.@@N@@
namespace Jvm.Pilot.@@N@@
open Jvm Jvm.ClassFile Sem Op Lib Jvm.Free Jvm.Stand Jvm.Pilot.@@N@@.Jvm.D
/-! MADE BY PROGRAM (witnessworld.py) out of the Statement's table words and the real class files: 21 classes; the members and pool entries that the words name. The judged class is class 1, her method 3. -/
namespace start1
open Jvm.ClassFile
def u (s : String) : CpInfo := .utf8 (stringToUtf16 s)
/-- a pool by its gaps: so many unusable entries, then the entry; so many at the end -/
def gap : Nat → List CpInfo → List CpInfo
  | 0, r => r
  | n + 1, r => .unusable :: gap n r
def poolList (es : List (Nat × CpInfo)) (last : Nat) : List CpInfo := es.foldr (fun e r => gap e.1 (e.2 :: r)) (gap last [])
def pool (es : List (Nat × CpInfo)) (last : Nat) : Array CpInfo := ⟨poolList es last⟩
def fileOf (pool : Array CpInfo) (this : Nat) (attrs : Array Attribute := #[]) (ms : Array MethodInfo := #[]) (fl : Nat := 33) (sup : Nat := 0) (ifs : Array Nat := #[]) (fds : Array FieldInfo := #[]) : ClassFile where
  minorVersion := 0
  majorVersion := 65
  constantPool := pool
  accessFlags := fl
  thisClass := this
  superClass := sup
  interfaces := ifs
  fields := fds
  methods := ms
  attributes := attrs
def plain (name : String) (sup : Option ClassId) : Class where
  name := name
  kind := .ordinary
  loader := none
  accessFlags := 33
  super := sup
  interfaces := #[]
  cf := none
  fields := #[]
  methods := #[]
  instanceTypes := #[]
  staticTypes := #[]
  resolved := #[]
  callSites := []
  init := .initialized
  statics := none
  mirror := none

def pool0 : Array CpInfo := pool [(5, u "<init>"), (0, u "()V"), (1, .class_ 10), (1, u "java/lang/Object")] 113

def k0c0 : Code := { maxStack := 0, maxLocals := 1, code := object_method_1_code, exceptionTable := #[], attributes := #[] }
def k0m0 : Method := { name := "<init>", desc := "()V", sig := { parameters := [], returnType := none }, accessFlags := 1, code := some k0c0 }
/-- java/lang/Object -/
def k0 : Class := { plain "java/lang/Object" none with
  accessFlags := 33
  interfaces := #[]
  cf := some (fileOf pool0 8 #[] #[{ accessFlags := 1, nameIndex := 5, descriptorIndex := 6, attributes := #[] }] 33 0 #[] #[])
  fields := #[]
  methods := #[k0m0]
  instanceTypes := #[]
  staticTypes := #[]
  resolved := Array.replicate 124 none
  statics := none }

def pool1 : Array CpInfo := pool [(2, .class_ 4), (1, u "java/lang/Object"), (0, u "<init>"), (0, u "()V"), (0, .integer 65535), (0, .integer 2147483647), (0, .methodref 10 11), (0, .class_ 12), (0, .nameAndType 13 14), (0, u "com/example/canny_warden/cannywarden/engine/WildcardHasWildcardPinLaw"), (0, u "draw"), (0, u "(I)C"), (0, .class_ 16), (0, u "java/lang/String"), (0, .methodref 15 18), (0, .nameAndType 5 19), (0, u "([C)V"), (0, .methodref 10 21), (0, .nameAndType 22 23), (0, u "wild"), (0, u "(C)Z"), (0, .methodref 25 26), (0, .class_ 27), (0, .nameAndType 28 29), (0, u "com/example/canny_warden/cannywarden/engine/Wildcard"), (0, u "hasWildcard"), (0, u "(Ljava/lang/String;)Z"), (3, u "law"), (0, u "(IIIII)Z")] 2

def k1m0 : Method := { name := "<init>", desc := "()V", sig := { parameters := [], returnType := none }, accessFlags := 2, code := none }
def k1c1 : Code := { maxStack := 2, maxLocals := 3, code := method_2_code, exceptionTable := #[], attributes := #[] }
def k1m1 : Method := { name := "draw", desc := "(I)C", sig := { parameters := [.int], returnType := some .char }, accessFlags := 10, code := some k1c1 }
def k1c2 : Code := { maxStack := 2, maxLocals := 1, code := method_3_code, exceptionTable := #[], attributes := #[] }
def k1m2 : Method := { name := "wild", desc := "(C)Z", sig := { parameters := [.char], returnType := some .boolean }, accessFlags := 10, code := some k1c2 }
def k1c3 : Code := { maxStack := 6, maxLocals := 12, code := code, exceptionTable := #[], attributes := #[] }
def k1m3 : Method := { name := "law", desc := "(IIIII)Z", sig := { parameters := [.int, .int, .int, .int, .int], returnType := some .boolean }, accessFlags := 9, code := some k1c3 }
/-- com/example/canny_warden/cannywarden/engine/WildcardHasWildcardPinLaw -/
def k1 : Class := { plain "com/example/canny_warden/cannywarden/engine/WildcardHasWildcardPinLaw" (some 0) with
  accessFlags := 49
  interfaces := #[]
  cf := some (fileOf pool1 10 #[] #[{ accessFlags := 2, nameIndex := 5, descriptorIndex := 6, attributes := #[] }, { accessFlags := 10, nameIndex := 13, descriptorIndex := 14, attributes := #[] }, { accessFlags := 10, nameIndex := 22, descriptorIndex := 23, attributes := #[] }, { accessFlags := 9, nameIndex := 33, descriptorIndex := 34, attributes := #[] }] 49 2 #[] #[])
  fields := #[]
  methods := #[k1m0, k1m1, k1m2, k1m3]
  instanceTypes := #[]
  staticTypes := #[]
  resolved := Array.replicate 37 none
  statics := none }

def pool2 : Array CpInfo := pool [(1, .class_ 2), (0, u "java/io/Serializable"), (0, .class_ 4), (0, u "java/lang/Object")] 2

/-- java/io/Serializable -/
def k2 : Class := { plain "java/io/Serializable" (some 0) with
  accessFlags := 1537
  interfaces := #[]
  cf := some (fileOf pool2 1 #[] #[] 1537 3 #[] #[])
  fields := #[]
  methods := #[]
  instanceTypes := #[]
  staticTypes := #[]
  resolved := Array.replicate 7 none
  statics := none }

def pool3 : Array CpInfo := pool [(1, .class_ 2), (0, u "java/lang/Comparable"), (0, .class_ 4), (0, u "java/lang/Object")] 7

/-- java/lang/Comparable -/
def k3 : Class := { plain "java/lang/Comparable" (some 0) with
  accessFlags := 1537
  interfaces := #[]
  cf := some (fileOf pool3 1 #[] #[] 1537 3 #[] #[])
  fields := #[]
  methods := #[]
  instanceTypes := #[]
  staticTypes := #[]
  resolved := Array.replicate 12 none
  statics := none }

def pool4 : Array CpInfo := pool [(2, .class_ 4), (1, u "java/lang/CharSequence"), (42, .class_ 48), (0, u "java/lang/CharSequence$1CodePointIterator"), (10, .class_ 60), (0, u "java/lang/CharSequence$1CharIterator"), (5, .class_ 67), (0, u "java/lang/Object")] 63

/-- java/lang/CharSequence -/
def k4 : Class := { plain "java/lang/CharSequence" (some 0) with
  accessFlags := 1537
  interfaces := #[]
  cf := some (fileOf pool4 2 #[.nestMembers #[47, 59]] #[] 1537 66 #[] #[])
  fields := #[]
  methods := #[]
  instanceTypes := #[]
  staticTypes := #[]
  resolved := Array.replicate 131 none
  statics := none }

def pool5 : Array CpInfo := pool [(1, .class_ 2), (0, u "java/lang/constant/Constable"), (0, .class_ 4), (0, u "java/lang/Object")] 6

/-- java/lang/constant/Constable -/
def k5 : Class := { plain "java/lang/constant/Constable" (some 0) with
  accessFlags := 1537
  interfaces := #[]
  cf := some (fileOf pool5 1 #[] #[] 1537 3 #[] #[])
  fields := #[]
  methods := #[]
  instanceTypes := #[]
  staticTypes := #[]
  resolved := Array.replicate 11 none
  statics := none }

def pool6 : Array CpInfo := pool [(1, .class_ 2), (0, u "java/lang/constant/ConstantDesc"), (0, .class_ 4), (0, u "java/lang/Object")] 32

/-- java/lang/constant/ConstantDesc -/
def k6 : Class := { plain "java/lang/constant/ConstantDesc" (some 0) with
  accessFlags := 1537
  interfaces := #[]
  cf := some (fileOf pool6 1 #[] #[] 1537 3 #[] #[])
  fields := #[]
  methods := #[]
  instanceTypes := #[]
  staticTypes := #[]
  resolved := Array.replicate 37 none
  statics := none }

def pool7 : Array CpInfo := pool [(1, .methodref 2 3), (0, .class_ 4), (0, .nameAndType 5 6), (0, u "java/lang/Object"), (0, u "<init>"), (0, u "()V"), (0, .string 8), (0, u ""), (0, .fieldref 10 11), (0, .class_ 12), (0, .nameAndType 13 14), (0, u "java/lang/String"), (0, u "value"), (0, u "[B"), (0, .fieldref 10 16), (0, .nameAndType 17 18), (0, u "coder"), (0, u "B"), (2, u "hash"), (0, u "I"), (2, u "hashIsZero"), (0, u "Z"), (0, .methodref 10 28), (0, .nameAndType 5 29), (0, u "([CIILjava/lang/Void;)V"), (8, .fieldref 10 39), (0, .nameAndType 40 26), (0, u "COMPACT_STRINGS"), (1, .class_ 44), (1, u "java/lang/StringUTF16"), (0, u "compress"), (1, .methodref 42 48), (0, .nameAndType 49 50), (0, u "coderFromArrayLen"), (0, u "([BI)B"), (56, .class_ 109), (1, u "java/lang/StringLatin1"), (32, u "()Z"), (34, .methodref 42 178), (0, .nameAndType 45 179), (0, u "([CII)[B"), (154, u "()I"), (0, .methodref 10 336), (0, .nameAndType 17 337), (0, u "()B"), (154, .methodref 10 493), (0, .nameAndType 494 142), (0, u "isLatin1"), (10, .methodref 10 506), (0, .nameAndType 507 334), (0, u "length"), (5, u "checkFromToIndex"), (9, u "checkBoundsBeginEnd"), (0, u "(III)V"), (50, .class_ 576), (0, u "java/lang/CharSequence"), (22, u "CASE_INSENSITIVE_ORDER"), (0, u "Ljava/util/Comparator;"), (32, .methodref 10 634), (0, .nameAndType 635 636), (0, u "indexOf"), (0, u "(II)I"), (0, .methodref 107 638), (0, .nameAndType 635 639), (0, u "([BIII)I"), (0, .methodref 42 638), (124, u "(I)I"), (244, u "([C)V"), (42, .fieldref 1054 1055), (0, .class_ 1056), (0, .nameAndType 1057 1058), (0, u "jdk/internal/util/Preconditions"), (0, u "SIOOBE_FORMATTER"), (0, u "Ljava/util/function/BiFunction;"), (3, .methodref 1054 1063), (0, .nameAndType 513 1064), (0, u "(IIILjava/util/function/BiFunction;)I"), (36, u "serialPersistentFields"), (0, u "[Ljava/io/ObjectStreamField;"), (0, .class_ 1104), (0, u "java/lang/String$CaseInsensitiveComparator"), (1, .class_ 1107), (0, u "java/io/Serializable"), (0, .class_ 1109), (0, u "java/lang/Comparable"), (0, .class_ 1111), (0, u "java/lang/constant/Constable"), (0, .class_ 1113), (0, u "java/lang/constant/ConstantDesc"), (2, u "serialVersionUID"), (0, u "J"), (3, u "REPL"), (0, u "C"), (2, u "LATIN1"), (1, u "UTF16")] 323

def k7m0 : Method := { name := "<init>", desc := "()V", sig := { parameters := [], returnType := none }, accessFlags := 1, code := none }
def k7c1 : Code := { maxStack := 5, maxLocals := 2, code := jdk_42_method_3_code, exceptionTable := #[], attributes := #[] }
def k7m1 : Method := { name := "<init>", desc := "([C)V", sig := { parameters := [(.array .char)], returnType := none }, accessFlags := 1, code := some k7c1 }
def k7c2 : Code := { maxStack := 2, maxLocals := 1, code := jdk_42_method_54_code, exceptionTable := #[], attributes := #[] }
def k7m2 : Method := { name := "length", desc := "()I", sig := { parameters := [], returnType := some .int }, accessFlags := 1, code := some k7c2 }
def k7c3 : Code := { maxStack := 3, maxLocals := 2, code := jdk_42_method_79_code, exceptionTable := #[], attributes := #[] }
def k7m3 : Method := { name := "indexOf", desc := "(I)I", sig := { parameters := [.int], returnType := some .int }, accessFlags := 1, code := some k7c3 }
def k7c4 : Code := { maxStack := 4, maxLocals := 3, code := jdk_42_method_80_code, exceptionTable := #[], attributes := #[] }
def k7m4 : Method := { name := "indexOf", desc := "(II)I", sig := { parameters := [.int, .int], returnType := some .int }, accessFlags := 1, code := some k7c4 }
def k7c5 : Code := { maxStack := 4, maxLocals := 6, code := jdk_42_method_149_code, exceptionTable := #[], attributes := #[] }
def k7m5 : Method := { name := "<init>", desc := "([CIILjava/lang/Void;)V", sig := { parameters := [(.array .char), .int, .int, (.object "java/lang/Void")], returnType := none }, accessFlags := 2, code := some k7c5 }
def k7c6 : Code := { maxStack := 1, maxLocals := 1, code := jdk_42_method_152_code, exceptionTable := #[], attributes := #[] }
def k7m6 : Method := { name := "coder", desc := "()B", sig := { parameters := [], returnType := some .byte }, accessFlags := 0, code := some k7c6 }
def k7c7 : Code := { maxStack := 1, maxLocals := 1, code := jdk_42_method_154_code, exceptionTable := #[], attributes := #[] }
def k7m7 : Method := { name := "isLatin1", desc := "()Z", sig := { parameters := [], returnType := some .boolean }, accessFlags := 0, code := some k7c7 }
def k7c8 : Code := { maxStack := 4, maxLocals := 3, code := jdk_42_method_158_code, exceptionTable := #[], attributes := #[] }
def k7m8 : Method := { name := "checkBoundsBeginEnd", desc := "(III)V", sig := { parameters := [.int, .int, .int], returnType := none }, accessFlags := 8, code := some k7c8 }
/-- java/lang/String -/
def k7 : Class := { plain "java/lang/String" (some 0) with
  accessFlags := 49
  interfaces := #[2, 3, 4, 5, 6]
  cf := some (fileOf pool7 10 #[.nestMembers #[1103]] #[{ accessFlags := 1, nameIndex := 5, descriptorIndex := 6, attributes := #[] }, { accessFlags := 1, nameIndex := 5, descriptorIndex := 1010, attributes := #[] }, { accessFlags := 1, nameIndex := 507, descriptorIndex := 334, attributes := #[] }, { accessFlags := 1, nameIndex := 635, descriptorIndex := 765, attributes := #[] }, { accessFlags := 1, nameIndex := 635, descriptorIndex := 636, attributes := #[] }, { accessFlags := 2, nameIndex := 5, descriptorIndex := 29, attributes := #[] }, { accessFlags := 0, nameIndex := 17, descriptorIndex := 337, attributes := #[] }, { accessFlags := 0, nameIndex := 494, descriptorIndex := 142, attributes := #[] }, { accessFlags := 8, nameIndex := 523, descriptorIndex := 524, attributes := #[] }] 49 2 #[1106, 1108, 575, 1110, 1112] #[{ accessFlags := 18, nameIndex := 13, descriptorIndex := 14, attributes := #[] }, { accessFlags := 18, nameIndex := 17, descriptorIndex := 18, attributes := #[] }, { accessFlags := 2, nameIndex := 21, descriptorIndex := 22, attributes := #[] }, { accessFlags := 2, nameIndex := 25, descriptorIndex := 26, attributes := #[] }, { accessFlags := 26, nameIndex := 1116, descriptorIndex := 1117, attributes := #[] }, { accessFlags := 24, nameIndex := 40, descriptorIndex := 26, attributes := #[] }, { accessFlags := 26, nameIndex := 1101, descriptorIndex := 1102, attributes := #[] }, { accessFlags := 26, nameIndex := 1121, descriptorIndex := 1122, attributes := #[] }, { accessFlags := 25, nameIndex := 599, descriptorIndex := 600, attributes := #[] }, { accessFlags := 24, nameIndex := 1125, descriptorIndex := 18, attributes := #[] }, { accessFlags := 24, nameIndex := 1127, descriptorIndex := 18, attributes := #[] }])
  fields := #[{ name := "value", type := (.array .byte), accessFlags := 18, slot := 0, constantValue := 0 }, { name := "coder", type := .byte, accessFlags := 18, slot := 1, constantValue := 0 }, { name := "hash", type := .int, accessFlags := 2, slot := 2, constantValue := 0 }, { name := "hashIsZero", type := .boolean, accessFlags := 2, slot := 3, constantValue := 0 }, { name := "serialVersionUID", type := .long, accessFlags := 26, slot := 0, constantValue := 0 }, { name := "COMPACT_STRINGS", type := .boolean, accessFlags := 24, slot := 1, constantValue := 0 }, { name := "serialPersistentFields", type := (.array (.object "java/io/ObjectStreamField")), accessFlags := 26, slot := 2, constantValue := 0 }, { name := "REPL", type := .char, accessFlags := 26, slot := 3, constantValue := 0 }, { name := "CASE_INSENSITIVE_ORDER", type := (.object "java/util/Comparator"), accessFlags := 25, slot := 4, constantValue := 0 }, { name := "LATIN1", type := .byte, accessFlags := 24, slot := 5, constantValue := 0 }, { name := "UTF16", type := .byte, accessFlags := 24, slot := 6, constantValue := 0 }]
  methods := #[k7m0, k7m1, k7m2, k7m3, k7m4, k7m5, k7m6, k7m7, k7m8]
  instanceTypes := #[(.array .byte), .byte, .int, .boolean]
  staticTypes := #[.long, .boolean, (.array (.object "java/io/ObjectStreamField")), .char, (.object "java/util/Comparator"), .byte, .byte]
  resolved := Array.replicate 1451 none
  statics := some 0 }

def pool8 : Array CpInfo := pool [(4, .class_ 6), (1, u "java/lang/Object"), (3, .class_ 12), (1, u "com/example/canny_warden/cannywarden/engine/Wildcard"), (0, u "items"), (0, u "[I"), (2, u "stars"), (6, .class_ 25), (0, u "com/example/canny_warden/cannywarden/engine/Wildcard$Run"), (2, u "runs"), (0, u "[Lcom/example/canny_warden/cannywarden/engine/Wildcard$Run;"), (11, .class_ 43), (1, u "java/lang/String"), (8, u "(I)I"), (27, .methodref 41 81), (0, .nameAndType 82 52), (0, u "indexOf"), (6, u "ARN_PREFIX"), (58, u "ANY_RUN"), (0, u "I"), (2, u "ANY_ONE"), (1, u "WORD"), (1, u "COLON"), (1, u "ARN_COLONS"), (12, u "hasWildcard"), (0, u "(Ljava/lang/String;)Z"), (11, .class_ 185), (0, u "com/example/canny_warden/cannywarden/engine/Wildcard$BitSearch"), (0, .class_ 187), (0, u "com/example/canny_warden/cannywarden/engine/Wildcard$SpanSearch"), (0, .class_ 189), (0, u "com/example/canny_warden/cannywarden/engine/Wildcard$LiteralSearch"), (0, .class_ 191), (0, u "com/example/canny_warden/cannywarden/engine/Wildcard$Search")] 6

def k8c0 : Code := { maxStack := 2, maxLocals := 1, code := prog_77_method_6_code, exceptionTable := #[], attributes := #[] }
def k8m0 : Method := { name := "hasWildcard", desc := "(Ljava/lang/String;)Z", sig := { parameters := [(.object "java/lang/String")], returnType := some .boolean }, accessFlags := 8, code := some k8c0 }
/-- com/example/canny_warden/cannywarden/engine/Wildcard -/
def k8 : Class := { plain "com/example/canny_warden/cannywarden/engine/Wildcard" (some 0) with
  accessFlags := 48
  interfaces := #[]
  cf := some (fileOf pool8 10 #[.nestMembers #[184, 186, 188, 190, 24]] #[{ accessFlags := 8, nameIndex := 171, descriptorIndex := 172, attributes := #[] }] 48 4 #[] #[{ accessFlags := 26, nameIndex := 148, descriptorIndex := 149, attributes := #[] }, { accessFlags := 26, nameIndex := 152, descriptorIndex := 149, attributes := #[] }, { accessFlags := 26, nameIndex := 154, descriptorIndex := 149, attributes := #[] }, { accessFlags := 26, nameIndex := 156, descriptorIndex := 149, attributes := #[] }, { accessFlags := 26, nameIndex := 89, descriptorIndex := 14, attributes := #[] }, { accessFlags := 26, nameIndex := 158, descriptorIndex := 149, attributes := #[] }, { accessFlags := 18, nameIndex := 13, descriptorIndex := 14, attributes := #[] }, { accessFlags := 18, nameIndex := 17, descriptorIndex := 14, attributes := #[] }, { accessFlags := 18, nameIndex := 28, descriptorIndex := 29, attributes := #[] }])
  fields := #[{ name := "ANY_RUN", type := .int, accessFlags := 26, slot := 0, constantValue := 0 }, { name := "ANY_ONE", type := .int, accessFlags := 26, slot := 1, constantValue := 0 }, { name := "WORD", type := .int, accessFlags := 26, slot := 2, constantValue := 0 }, { name := "COLON", type := .int, accessFlags := 26, slot := 3, constantValue := 0 }, { name := "ARN_PREFIX", type := (.array .int), accessFlags := 26, slot := 4, constantValue := 0 }, { name := "ARN_COLONS", type := .int, accessFlags := 26, slot := 5, constantValue := 0 }, { name := "items", type := (.array .int), accessFlags := 18, slot := 0, constantValue := 0 }, { name := "stars", type := (.array .int), accessFlags := 18, slot := 1, constantValue := 0 }, { name := "runs", type := (.array (.object "com/example/canny_warden/cannywarden/engine/Wildcard$Run")), accessFlags := 18, slot := 2, constantValue := 0 }]
  methods := #[k8m0]
  instanceTypes := #[(.array .int), (.array .int), (.array (.object "com/example/canny_warden/cannywarden/engine/Wildcard$Run"))]
  staticTypes := #[.int, .int, .int, .int, (.array .int), .int]
  resolved := Array.replicate 198 none
  statics := none }

def pool9 : Array CpInfo := pool [(4, .class_ 6), (1, u "java/lang/Object"), (0, u "<init>"), (0, u "()V"), (5, .class_ 16), (1, u "java/lang/StringLatin1"), (21, .methodref 39 40), (0, .class_ 41), (0, .nameAndType 42 43), (0, u "java/lang/Math"), (0, u "min"), (0, u "(II)I"), (44, .methodref 14 89), (0, .nameAndType 90 91), (0, u "canEncode"), (0, u "(I)Z"), (0, .methodref 39 93), (0, .nameAndType 94 43), (0, u "max"), (0, .methodref 14 96), (0, .nameAndType 97 98), (0, u "indexOfChar"), (0, u "([BIII)I"), (2, u "indexOf"), (19, u "$assertionsDisabled"), (0, u "Z"), (98, .class_ 223), (1, u "java/lang/StringLatin1$LinesSpliterator"), (166, .class_ 391), (0, u "java/lang/StringLatin1$CharsSpliterator")] 3

def k9m0 : Method := { name := "<init>", desc := "()V", sig := { parameters := [], returnType := none }, accessFlags := 0, code := none }
def k9c1 : Code := { maxStack := 2, maxLocals := 1, code := jdk_43_method_4_code, exceptionTable := #[], attributes := #[] }
def k9m1 : Method := { name := "canEncode", desc := "(I)Z", sig := { parameters := [.int], returnType := some .boolean }, accessFlags := 9, code := some k9c1 }
def k9c2 : Code := { maxStack := 4, maxLocals := 4, code := jdk_43_method_22_code, exceptionTable := #[], attributes := #[] }
def k9m2 : Method := { name := "indexOf", desc := "([BIII)I", sig := { parameters := [(.array .byte), .int, .int, .int], returnType := some .int }, accessFlags := 9, code := some k9c2 }
def k9c3 : Code := { maxStack := 2, maxLocals := 6, code := jdk_43_method_23_code, exceptionTable := #[], attributes := #[] }
def k9m3 : Method := { name := "indexOfChar", desc := "([BIII)I", sig := { parameters := [(.array .byte), .int, .int, .int], returnType := some .int }, accessFlags := 10, code := some k9c3 }
/-- java/lang/StringLatin1 -/
def k9 : Class := { plain "java/lang/StringLatin1" (some 0) with
  accessFlags := 48
  interfaces := #[]
  cf := some (fileOf pool9 14 #[.nestMembers #[390, 221]] #[{ accessFlags := 0, nameIndex := 7, descriptorIndex := 8, attributes := #[] }, { accessFlags := 9, nameIndex := 90, descriptorIndex := 91, attributes := #[] }, { accessFlags := 9, nameIndex := 101, descriptorIndex := 98, attributes := #[] }, { accessFlags := 10, nameIndex := 97, descriptorIndex := 98, attributes := #[] }] 48 4 #[] #[{ accessFlags := 4120, nameIndex := 121, descriptorIndex := 122, attributes := #[] }])
  fields := #[{ name := "$assertionsDisabled", type := .boolean, accessFlags := 4120, slot := 0, constantValue := 0 }]
  methods := #[k9m0, k9m1, k9m2, k9m3]
  instanceTypes := #[]
  staticTypes := #[.boolean]
  resolved := Array.replicate 395 none
  statics := none }

def pool10 : Array CpInfo := pool [(1, .class_ 2), (0, u "java/lang/Math"), (1, .class_ 6), (1, u "java/lang/Object"), (0, u "<init>"), (0, u "()V"), (89, .class_ 100), (1, u "java/lang/Math$RandomNumberGeneratorHolder"), (71, u "negativeZeroFloatBits"), (0, u "J"), (2, u "negativeZeroDoubleBits"), (21, u "max"), (2, u "min"), (43, u "$assertionsDisabled"), (0, u "Z"), (88, u "(II)I"), (2, u "twoToTheDoubleScaleDown"), (0, u "D"), (4, u "twoToTheDoubleScaleUp"), (9, u "E"), (3, u "PI"), (2, u "TAU"), (2, u "DEGREES_TO_RADIANS"), (0, u "RADIANS_TO_DEGREES")] 94

def k10m0 : Method := { name := "<init>", desc := "()V", sig := { parameters := [], returnType := none }, accessFlags := 2, code := none }
def k10c1 : Code := { maxStack := 2, maxLocals := 2, code := jdk_29_method_65_code, exceptionTable := #[], attributes := #[] }
def k10m1 : Method := { name := "max", desc := "(II)I", sig := { parameters := [.int, .int], returnType := some .int }, accessFlags := 9, code := some k10c1 }
def k10c2 : Code := { maxStack := 2, maxLocals := 2, code := jdk_29_method_69_code, exceptionTable := #[], attributes := #[] }
def k10m2 : Method := { name := "min", desc := "(II)I", sig := { parameters := [.int, .int], returnType := some .int }, accessFlags := 9, code := some k10c2 }
/-- java/lang/Math -/
def k10 : Class := { plain "java/lang/Math" (some 0) with
  accessFlags := 49
  interfaces := #[]
  cf := some (fileOf pool10 1 #[.nestMembers #[98]] #[{ accessFlags := 2, nameIndex := 7, descriptorIndex := 8, attributes := #[] }, { accessFlags := 9, nameIndex := 198, descriptorIndex := 335, attributes := #[] }, { accessFlags := 9, nameIndex := 201, descriptorIndex := 335, attributes := #[] }] 49 4 #[] #[{ accessFlags := 25, nameIndex := 354, descriptorIndex := 339, attributes := #[] }, { accessFlags := 25, nameIndex := 358, descriptorIndex := 339, attributes := #[] }, { accessFlags := 25, nameIndex := 361, descriptorIndex := 339, attributes := #[] }, { accessFlags := 26, nameIndex := 364, descriptorIndex := 339, attributes := #[] }, { accessFlags := 26, nameIndex := 365, descriptorIndex := 339, attributes := #[] }, { accessFlags := 26, nameIndex := 172, descriptorIndex := 173, attributes := #[] }, { accessFlags := 26, nameIndex := 176, descriptorIndex := 173, attributes := #[] }, { accessFlags := 8, nameIndex := 344, descriptorIndex := 339, attributes := #[] }, { accessFlags := 8, nameIndex := 338, descriptorIndex := 339, attributes := #[] }, { accessFlags := 4120, nameIndex := 245, descriptorIndex := 246, attributes := #[] }])
  fields := #[{ name := "E", type := .double, accessFlags := 25, slot := 0, constantValue := 0 }, { name := "PI", type := .double, accessFlags := 25, slot := 1, constantValue := 0 }, { name := "TAU", type := .double, accessFlags := 25, slot := 2, constantValue := 0 }, { name := "DEGREES_TO_RADIANS", type := .double, accessFlags := 26, slot := 3, constantValue := 0 }, { name := "RADIANS_TO_DEGREES", type := .double, accessFlags := 26, slot := 4, constantValue := 0 }, { name := "negativeZeroFloatBits", type := .long, accessFlags := 26, slot := 5, constantValue := 0 }, { name := "negativeZeroDoubleBits", type := .long, accessFlags := 26, slot := 6, constantValue := 0 }, { name := "twoToTheDoubleScaleUp", type := .double, accessFlags := 8, slot := 7, constantValue := 0 }, { name := "twoToTheDoubleScaleDown", type := .double, accessFlags := 8, slot := 8, constantValue := 0 }, { name := "$assertionsDisabled", type := .boolean, accessFlags := 4120, slot := 9, constantValue := 0 }]
  methods := #[k10m0, k10m1, k10m2]
  instanceTypes := #[]
  staticTypes := #[.double, .double, .double, .double, .double, .long, .long, .double, .double, .boolean]
  resolved := Array.replicate 460 none
  statics := none }

def pool11 : Array CpInfo := pool [(3, .class_ 4), (0, u "java/lang/String"), (1, .class_ 8), (1, u "java/lang/Object"), (0, u "<init>"), (0, u "()V"), (0, .methodref 12 13), (0, .class_ 14), (0, .nameAndType 15 16), (0, u "java/lang/StringUTF16"), (0, u "newBytesLength"), (0, u "(I)I"), (3, .integer 1073741823), (23, .fieldref 12 45), (0, .nameAndType 46 47), (0, u "$assertionsDisabled"), (0, u "Z"), (0, .methodref 12 49), (0, .nameAndType 50 51), (0, u "length"), (0, u "([B)I"), (7, .fieldref 12 60), (0, .nameAndType 61 62), (0, u "HI_BYTE_SHIFT"), (0, u "I"), (0, .fieldref 12 64), (0, .nameAndType 65 62), (0, u "LO_BYTE_SHIFT"), (5, .methodref 12 72), (0, .nameAndType 73 74), (0, u "getChar"), (0, u "([BI)C"), (21, .methodref 12 97), (0, .nameAndType 98 99), (0, u "checkBoundsBeginEnd"), (0, u "(II[B)V"), (7, .methodref 12 108), (0, .nameAndType 109 110), (0, u "newBytesFor"), (0, u "(I)[B"), (0, .methodref 12 112), (0, .nameAndType 113 114), (0, u "putChar"), (0, u "([BII)V"), (0, .methodref 12 116), (0, .nameAndType 117 118), (0, u "compress"), (0, u "([CI[BII)I"), (0, .methodref 12 120), (0, .nameAndType 121 122), (0, u "toBytes"), (0, u "([CII)[B"), (60, .methodref 184 185), (0, .class_ 186), (0, .nameAndType 187 188), (0, u "java/lang/Math"), (0, u "min"), (0, u "(II)I"), (35, .methodref 184 225), (0, .nameAndType 226 188), (0, u "max"), (0, .integer 65536), (0, .methodref 12 229), (0, .nameAndType 230 231), (0, u "indexOfChar"), (0, u "([BIII)I"), (9, .methodref 3 242), (0, .nameAndType 98 243), (0, u "(III)V"), (0, .methodref 12 245), (0, .nameAndType 246 231), (0, u "indexOfCharUnsafe"), (14, u "coderFromArrayLen"), (0, u "([BI)B"), (5, u "indexOf"), (100, .class_ 371), (1, u "java/lang/StringUTF16$LinesSpliterator"), (58, u "MAX_LENGTH"), (196, .class_ 628), (0, u "java/lang/StringUTF16$CodePointsSpliterator"), (0, .class_ 630), (0, u "java/lang/StringUTF16$CharsSpliterator")] 4

def k11m0 : Method := { name := "<init>", desc := "()V", sig := { parameters := [], returnType := none }, accessFlags := 0, code := none }
def k11c1 : Code := { maxStack := 1, maxLocals := 1, code := jdk_52_method_2_code, exceptionTable := #[], attributes := #[] }
def k11m1 : Method := { name := "newBytesFor", desc := "(I)[B", sig := { parameters := [.int], returnType := some (.array .byte) }, accessFlags := 9, code := some k11c1 }
def k11c2 : Code := { maxStack := 4, maxLocals := 1, code := jdk_52_method_3_code, exceptionTable := #[], attributes := #[] }
def k11m2 : Method := { name := "newBytesLength", desc := "(I)I", sig := { parameters := [.int], returnType := some .int }, accessFlags := 9, code := some k11c2 }
def k11c3 : Code := { maxStack := 4, maxLocals := 3, code := jdk_52_method_4_code, exceptionTable := #[], attributes := #[] }
def k11m3 : Method := { name := "putChar", desc := "([BII)V", sig := { parameters := [(.array .byte), .int, .int], returnType := none }, accessFlags := 8, code := some k11c3 }
def k11c4 : Code := { maxStack := 3, maxLocals := 2, code := jdk_52_method_5_code, exceptionTable := #[], attributes := #[] }
def k11m4 : Method := { name := "getChar", desc := "([BI)C", sig := { parameters := [(.array .byte), .int], returnType := some .char }, accessFlags := 8, code := some k11c4 }
def k11c5 : Code := { maxStack := 2, maxLocals := 1, code := jdk_52_method_6_code, exceptionTable := #[], attributes := #[] }
def k11m5 : Method := { name := "length", desc := "([B)I", sig := { parameters := [(.array .byte)], returnType := some .int }, accessFlags := 9, code := some k11c5 }
def k11c6 : Code := { maxStack := 4, maxLocals := 5, code := jdk_52_method_14_code, exceptionTable := #[], attributes := #[] }
def k11m6 : Method := { name := "toBytes", desc := "([CII)[B", sig := { parameters := [(.array .char), .int, .int], returnType := some (.array .byte) }, accessFlags := 9, code := some k11c6 }
def k11c7 : Code := { maxStack := 2, maxLocals := 2, code := jdk_52_method_15_code, exceptionTable := #[], attributes := #[] }
def k11m7 : Method := { name := "coderFromArrayLen", desc := "([BI)B", sig := { parameters := [(.array .byte), .int], returnType := some .byte }, accessFlags := 8, code := some k11c7 }
def k11c8 : Code := { maxStack := 5, maxLocals := 6, code := jdk_52_method_16_code, exceptionTable := #[], attributes := #[] }
def k11m8 : Method := { name := "compress", desc := "([CII)[B", sig := { parameters := [(.array .char), .int, .int], returnType := some (.array .byte) }, accessFlags := 9, code := some k11c8 }
def k11c9 : Code := { maxStack := 3, maxLocals := 7, code := jdk_52_method_21_code, exceptionTable := #[], attributes := #[] }
def k11m9 : Method := { name := "compress", desc := "([CI[BII)I", sig := { parameters := [(.array .char), .int, (.array .byte), .int, .int], returnType := some .int }, accessFlags := 9, code := some k11c9 }
def k11c10 : Code := { maxStack := 4, maxLocals := 4, code := jdk_52_method_40_code, exceptionTable := #[], attributes := #[] }
def k11m10 : Method := { name := "indexOf", desc := "([BIII)I", sig := { parameters := [(.array .byte), .int, .int, .int], returnType := some .int }, accessFlags := 9, code := some k11c10 }
def k11c11 : Code := { maxStack := 4, maxLocals := 4, code := jdk_52_method_47_code, exceptionTable := #[], attributes := #[] }
def k11m11 : Method := { name := "indexOfChar", desc := "([BIII)I", sig := { parameters := [(.array .byte), .int, .int, .int], returnType := some .int }, accessFlags := 10, code := some k11c11 }
def k11c12 : Code := { maxStack := 2, maxLocals := 5, code := jdk_52_method_48_code, exceptionTable := #[], attributes := #[] }
def k11m12 : Method := { name := "indexOfCharUnsafe", desc := "([BIII)I", sig := { parameters := [(.array .byte), .int, .int, .int], returnType := some .int }, accessFlags := 10, code := some k11c12 }
def k11c13 : Code := { maxStack := 3, maxLocals := 3, code := jdk_52_method_93_code, exceptionTable := #[], attributes := #[] }
def k11m13 : Method := { name := "checkBoundsBeginEnd", desc := "(II[B)V", sig := { parameters := [.int, .int, (.array .byte)], returnType := none }, accessFlags := 9, code := some k11c13 }
/-- java/lang/StringUTF16 -/
def k11 : Class := { plain "java/lang/StringUTF16" (some 0) with
  accessFlags := 48
  interfaces := #[]
  cf := some (fileOf pool11 12 #[.nestMembers #[627, 629, 369]] #[{ accessFlags := 0, nameIndex := 9, descriptorIndex := 10, attributes := #[] }, { accessFlags := 9, nameIndex := 109, descriptorIndex := 110, attributes := #[] }, { accessFlags := 9, nameIndex := 15, descriptorIndex := 16, attributes := #[] }, { accessFlags := 8, nameIndex := 113, descriptorIndex := 114, attributes := #[] }, { accessFlags := 8, nameIndex := 73, descriptorIndex := 74, attributes := #[] }, { accessFlags := 9, nameIndex := 50, descriptorIndex := 51, attributes := #[] }, { accessFlags := 9, nameIndex := 121, descriptorIndex := 122, attributes := #[] }, { accessFlags := 8, nameIndex := 261, descriptorIndex := 262, attributes := #[] }, { accessFlags := 9, nameIndex := 117, descriptorIndex := 122, attributes := #[] }, { accessFlags := 9, nameIndex := 117, descriptorIndex := 118, attributes := #[] }, { accessFlags := 9, nameIndex := 268, descriptorIndex := 231, attributes := #[] }, { accessFlags := 10, nameIndex := 230, descriptorIndex := 231, attributes := #[] }, { accessFlags := 10, nameIndex := 246, descriptorIndex := 231, attributes := #[] }, { accessFlags := 9, nameIndex := 98, descriptorIndex := 99, attributes := #[] }] 48 6 #[] #[{ accessFlags := 26, nameIndex := 61, descriptorIndex := 62, attributes := #[] }, { accessFlags := 26, nameIndex := 65, descriptorIndex := 62, attributes := #[] }, { accessFlags := 24, nameIndex := 430, descriptorIndex := 62, attributes := #[] }, { accessFlags := 4120, nameIndex := 46, descriptorIndex := 47, attributes := #[] }])
  fields := #[{ name := "HI_BYTE_SHIFT", type := .int, accessFlags := 26, slot := 0, constantValue := 0 }, { name := "LO_BYTE_SHIFT", type := .int, accessFlags := 26, slot := 1, constantValue := 0 }, { name := "MAX_LENGTH", type := .int, accessFlags := 24, slot := 2, constantValue := 0 }, { name := "$assertionsDisabled", type := .boolean, accessFlags := 4120, slot := 3, constantValue := 0 }]
  methods := #[k11m0, k11m1, k11m2, k11m3, k11m4, k11m5, k11m6, k11m7, k11m8, k11m9, k11m10, k11m11, k11m12, k11m13]
  instanceTypes := #[]
  staticTypes := #[.int, .int, .int, .boolean]
  resolved := Array.replicate 635 none
  statics := some 1 }

def pool12 : Array CpInfo := pool [(2, .class_ 4), (1, u "java/lang/Object"), (0, u "<init>"), (0, u "()V"), (17, .class_ 26), (1, u "jdk/internal/util/Preconditions"), (20, u "checkFromToIndex"), (7, .class_ 56), (0, u "jdk/internal/util/Preconditions$4"), (57, .class_ 115), (0, u "jdk/internal/util/Preconditions$1"), (7, u "SIOOBE_FORMATTER"), (0, u "Ljava/util/function/BiFunction;"), (0, .class_ 126), (0, u "jdk/internal/util/Preconditions$2"), (3, u "AIOOBE_FORMATTER"), (0, .class_ 132), (0, u "jdk/internal/util/Preconditions$3"), (3, u "IOOBE_FORMATTER"), (46, u "(IIILjava/util/function/BiFunction;)I")] 10

def k12m0 : Method := { name := "<init>", desc := "()V", sig := { parameters := [], returnType := none }, accessFlags := 1, code := none }
def k12c1 : Code := { maxStack := 4, maxLocals := 4, code := jdk_41_method_12_code, exceptionTable := #[], attributes := #[] }
def k12m1 : Method := { name := "checkFromToIndex", desc := "(IIILjava/util/function/BiFunction;)I", sig := { parameters := [.int, .int, .int, (.object "java/util/function/BiFunction")], returnType := some .int }, accessFlags := 9, code := some k12c1 }
/-- jdk/internal/util/Preconditions -/
def k12 : Class := { plain "jdk/internal/util/Preconditions" (some 0) with
  accessFlags := 33
  interfaces := #[]
  cf := some (fileOf pool12 24 #[.nestMembers #[55, 131, 125, 114]] #[{ accessFlags := 1, nameIndex := 5, descriptorIndex := 6, attributes := #[] }, { accessFlags := 9, nameIndex := 47, descriptorIndex := 183, attributes := #[] }] 33 2 #[] #[{ accessFlags := 25, nameIndex := 123, descriptorIndex := 124, attributes := #[] }, { accessFlags := 25, nameIndex := 130, descriptorIndex := 124, attributes := #[] }, { accessFlags := 25, nameIndex := 136, descriptorIndex := 124, attributes := #[] }])
  fields := #[{ name := "SIOOBE_FORMATTER", type := (.object "java/util/function/BiFunction"), accessFlags := 25, slot := 0, constantValue := 0 }, { name := "AIOOBE_FORMATTER", type := (.object "java/util/function/BiFunction"), accessFlags := 25, slot := 1, constantValue := 0 }, { name := "IOOBE_FORMATTER", type := (.object "java/util/function/BiFunction"), accessFlags := 25, slot := 2, constantValue := 0 }]
  methods := #[k12m0, k12m1]
  instanceTypes := #[]
  staticTypes := #[(.object "java/util/function/BiFunction"), (.object "java/util/function/BiFunction"), (.object "java/util/function/BiFunction")]
  resolved := Array.replicate 194 none
  statics := some 2 }

def pool13 : Array CpInfo := pool [(9, u "<init>"), (6, .class_ 18), (1, u "java/lang/Object"), (0, u "()V"), (1, .class_ 23), (1, u "jdk/internal/util/ArraysSupport"), (0, u "LOG2_ARRAY_LONG_INDEX_SCALE"), (0, u "I"), (2, u "U"), (0, u "Ljdk/internal/misc/Unsafe;"), (8, u "BIG_ENDIAN"), (0, u "Z"), (8, u "LOG2_BYTE_BIT_SIZE"), (4, u "LOG2_ARRAY_INT_INDEX_SCALE"), (54, u "JLA"), (0, u "Ljdk/internal/access/JavaLangAccess;"), (11, u "LOG2_ARRAY_BOOLEAN_INDEX_SCALE"), (9, u "LOG2_ARRAY_BYTE_INDEX_SCALE"), (5, u "LOG2_ARRAY_CHAR_INDEX_SCALE"), (5, u "LOG2_ARRAY_SHORT_INDEX_SCALE"), (18, u "LOG2_ARRAY_FLOAT_INDEX_SCALE"), (24, u "LOG2_ARRAY_DOUBLE_INDEX_SCALE"), (89, u "T_BOOLEAN"), (2, u "T_CHAR"), (1, u "T_FLOAT"), (1, u "T_DOUBLE"), (1, u "T_BYTE"), (1, u "T_SHORT"), (1, u "T_INT"), (1, u "T_LONG"), (1, u "SOFT_MAX_ARRAY_LENGTH")] 83

def k13m0 : Method := { name := "<init>", desc := "()V", sig := { parameters := [], returnType := none }, accessFlags := 2, code := none }
/-- jdk/internal/util/ArraysSupport -/
def k13 : Class := { plain "jdk/internal/util/ArraysSupport" (some 0) with
  accessFlags := 33
  interfaces := #[]
  cf := some (fileOf pool13 21 #[] #[{ accessFlags := 2, nameIndex := 9, descriptorIndex := 19, attributes := #[] }] 33 16 #[] #[{ accessFlags := 24, nameIndex := 28, descriptorIndex := 29, attributes := #[] }, { accessFlags := 26, nameIndex := 38, descriptorIndex := 39, attributes := #[] }, { accessFlags := 25, nameIndex := 121, descriptorIndex := 25, attributes := #[] }, { accessFlags := 25, nameIndex := 131, descriptorIndex := 25, attributes := #[] }, { accessFlags := 25, nameIndex := 137, descriptorIndex := 25, attributes := #[] }, { accessFlags := 25, nameIndex := 143, descriptorIndex := 25, attributes := #[] }, { accessFlags := 25, nameIndex := 53, descriptorIndex := 25, attributes := #[] }, { accessFlags := 25, nameIndex := 24, descriptorIndex := 25, attributes := #[] }, { accessFlags := 25, nameIndex := 162, descriptorIndex := 25, attributes := #[] }, { accessFlags := 25, nameIndex := 187, descriptorIndex := 25, attributes := #[] }, { accessFlags := 26, nameIndex := 48, descriptorIndex := 25, attributes := #[] }, { accessFlags := 25, nameIndex := 277, descriptorIndex := 25, attributes := #[] }, { accessFlags := 25, nameIndex := 280, descriptorIndex := 25, attributes := #[] }, { accessFlags := 25, nameIndex := 282, descriptorIndex := 25, attributes := #[] }, { accessFlags := 25, nameIndex := 284, descriptorIndex := 25, attributes := #[] }, { accessFlags := 25, nameIndex := 286, descriptorIndex := 25, attributes := #[] }, { accessFlags := 25, nameIndex := 288, descriptorIndex := 25, attributes := #[] }, { accessFlags := 25, nameIndex := 290, descriptorIndex := 25, attributes := #[] }, { accessFlags := 25, nameIndex := 292, descriptorIndex := 25, attributes := #[] }, { accessFlags := 26, nameIndex := 108, descriptorIndex := 109, attributes := #[] }, { accessFlags := 25, nameIndex := 294, descriptorIndex := 25, attributes := #[] }])
  fields := #[{ name := "U", type := (.object "jdk/internal/misc/Unsafe"), accessFlags := 24, slot := 0, constantValue := 0 }, { name := "BIG_ENDIAN", type := .boolean, accessFlags := 26, slot := 1, constantValue := 0 }, { name := "LOG2_ARRAY_BOOLEAN_INDEX_SCALE", type := .int, accessFlags := 25, slot := 2, constantValue := 0 }, { name := "LOG2_ARRAY_BYTE_INDEX_SCALE", type := .int, accessFlags := 25, slot := 3, constantValue := 0 }, { name := "LOG2_ARRAY_CHAR_INDEX_SCALE", type := .int, accessFlags := 25, slot := 4, constantValue := 0 }, { name := "LOG2_ARRAY_SHORT_INDEX_SCALE", type := .int, accessFlags := 25, slot := 5, constantValue := 0 }, { name := "LOG2_ARRAY_INT_INDEX_SCALE", type := .int, accessFlags := 25, slot := 6, constantValue := 0 }, { name := "LOG2_ARRAY_LONG_INDEX_SCALE", type := .int, accessFlags := 25, slot := 7, constantValue := 0 }, { name := "LOG2_ARRAY_FLOAT_INDEX_SCALE", type := .int, accessFlags := 25, slot := 8, constantValue := 0 }, { name := "LOG2_ARRAY_DOUBLE_INDEX_SCALE", type := .int, accessFlags := 25, slot := 9, constantValue := 0 }, { name := "LOG2_BYTE_BIT_SIZE", type := .int, accessFlags := 26, slot := 10, constantValue := 0 }, { name := "T_BOOLEAN", type := .int, accessFlags := 25, slot := 11, constantValue := 0 }, { name := "T_CHAR", type := .int, accessFlags := 25, slot := 12, constantValue := 0 }, { name := "T_FLOAT", type := .int, accessFlags := 25, slot := 13, constantValue := 0 }, { name := "T_DOUBLE", type := .int, accessFlags := 25, slot := 14, constantValue := 0 }, { name := "T_BYTE", type := .int, accessFlags := 25, slot := 15, constantValue := 0 }, { name := "T_SHORT", type := .int, accessFlags := 25, slot := 16, constantValue := 0 }, { name := "T_INT", type := .int, accessFlags := 25, slot := 17, constantValue := 0 }, { name := "T_LONG", type := .int, accessFlags := 25, slot := 18, constantValue := 0 }, { name := "JLA", type := (.object "jdk/internal/access/JavaLangAccess"), accessFlags := 26, slot := 19, constantValue := 0 }, { name := "SOFT_MAX_ARRAY_LENGTH", type := .int, accessFlags := 25, slot := 20, constantValue := 0 }]
  methods := #[k13m0]
  instanceTypes := #[]
  staticTypes := #[(.object "jdk/internal/misc/Unsafe"), .boolean, .int, .int, .int, .int, .int, .int, .int, .int, .int, .int, .int, .int, .int, .int, .int, .int, .int, (.object "jdk/internal/access/JavaLangAccess"), .int]
  resolved := Array.replicate 378 none
  statics := none }

def pool14 : Array CpInfo := pool [(1, u "java/lang/Cloneable"), (0, .class_ 1), (0, u "java/lang/Object"), (0, .class_ 3)] 3

/-- java/lang/Cloneable -/
def k14 : Class := { plain "java/lang/Cloneable" (some 0) with
  accessFlags := 1537
  interfaces := #[]
  cf := some (fileOf pool14 2 #[] #[] 1537 4 #[] #[])
  fields := #[]
  methods := #[]
  instanceTypes := #[]
  staticTypes := #[]
  resolved := Array.replicate 8 none
  statics := none }

/-- the primitive byte -/
def k15 : Class := { plain "byte" none with kind := .primitive 'B', accessFlags := 0x411 }
/-- [B -/
def k16 : Class := { plain "[B" (some 0) with kind := .array 15 .byte, interfaces := #[14, 2], accessFlags := 1041 }

/-- the primitive char -/
def k17 : Class := { plain "char" none with kind := .primitive 'C', accessFlags := 0x411 }
/-- [C -/
def k18 : Class := { plain "[C" (some 0) with kind := .array 17 .char, interfaces := #[14, 2], accessFlags := 1041 }

/-- the primitive int -/
def k19 : Class := { plain "int" none with kind := .primitive 'I', accessFlags := 0x411 }
/-- [I -/
def k20 : Class := { plain "[I" (some 0) with kind := .array 19 .int, interfaces := #[14, 2], accessFlags := 1041 }

def heap : Heap := #[{ cls := 7, slots := #[.long 0, .int 1, .null, .int 0, .null, .int 0, .int 0], vm := .statics 7 },
  { cls := 11, slots := #[.int 0, .int 8, .int 0, .int 1], vm := .statics 11 },
  { cls := 12, slots := #[.null, .null, .null], vm := .statics 12 }]
def classes : Array Class := #[k0, k1, k2, k3, k4, k5, k6, k7, k8, k9, k10, k11, k12, k13, k14, k15, k16, k17, k18, k19, k20]
def interned : List (Array UInt16 × Addr) := []
def slotsUsed : Nat := 14
def theMethod : MethodId := ⟨1, 3⟩
def args0 : Array Value := #[.int 5, .int 6, .int 7, .int 8, .int 9]
def aboutOver (below : List Frame) : State where
  vm := { classes := classes, interned := interned.toArray }
  heap := heap
  slotsUsed := slotsUsed
  threads := #[{ frames := .invoking theMethod args0 :: below }]
def below0 : List Frame := [.native { method := ⟨0, 0⟩, args := #[] }]
def about1 : State := aboutOver below0
def p0 : Program := .bare "" "" ""
def e0 : Env := launch0.env 0 0 0
theorem w_frames : about1.frames = Frame.invoking theMethod args0 :: below0 := rfl
set_option maxRecDepth 65536 in
theorem w_args : argsFit about1.vm theMethod args0 = true := by decide +kernel
set_option maxRecDepth 65536 in
theorem w_heap : heapFits about1 = true := by decide +kernel
set_option maxRecDepth 65536 in
theorem w_runnable : about1.curStatus? = some .runnable := by decide +kernel
set_option maxRecDepth 65536 in
theorem w_alone : about1.alone = true := by decide +kernel
set_option maxRecDepth 65536 in
theorem w_named : about1.methodNamed? x = some theMethod := by decide +kernel
set_option maxRecDepth 65536 in
theorem w_hears : about1.hears theMethod below0 = true := by decide +kernel
set_option maxRecDepth 65536 in
theorem w_ripe : about1.ripe theMethod args0 below0 = true := by decide +kernel
theorem w_running : about1.status = .running := rfl
set_option maxRecDepth 65536 in
theorem w_room : about1.hasRoom e0.platform room_1 = true :=
  launch0.hasRoom_least _ room_1 (by decide +kernel) (by decide +kernel) (by decide +kernel) (by decide +kernel) (by decide +kernel) (by decide +kernel)
theorem allAtoms_all (ts : List Jvm.Cond) (a : Array Jvm.Value) (st : Jvm.State) : (allAtoms ts).before a st = ts.all (fun c => c.before a st) := by
  induction ts with
  | nil => rfl
  | cons c t ih =>
    show (Jvm.Cond.and c (allAtoms t)).before a st = _
    rw [Jvm.Cond.before_and, ih, List.all_cons]
def words1 : List Jvm.Cond := Jvm.Cond.code x code maxLocals ret :: tables_1
/-- a 'code' word, met by the world's own term for the bytes: nothing is compared byte by byte -/
theorem code_word {y : MethodName} {bytes : ByteArray} {mx : Nat} {rt : Option FieldType} {a : Array Value} {s : State} {m : MethodId} {meth : Method} {c : Code} (h1 : s.methodNamed? y = some m) (h2 : s.vm.method? m = some meth) (h3 : meth.code = some c) (h4 : c.code = bytes)
    (h5 : (c.maxLocals == mx && c.exceptionTable.isEmpty && decide (c.maxStack ≤ mostOperands) && decide (meth.sig.returnType = rt) && !meth.locks && decide (parseMethodDescriptor y.desc = some meth.sig)) = true) : (Jvm.Cond.code y bytes mx rt).before a s = true := by
  simp only [Bool.and_eq_true, beq_iff_eq, Bool.not_eq_true', decide_eq_true_eq] at h5
  obtain ⟨⟨⟨⟨⟨g1, g2⟩, g3⟩, g4⟩, g5⟩, g6⟩ := h5
  simp [Cond.before, Cond.holds, Cond.value, h1, h2, h3, h4, g1, g2, g3, g4, g5, g6]
def isCode : Jvm.Cond → Bool
  | .code _ _ _ _ => true
  | _ => false
theorem all_split {L : List Jvm.Cond} {P : Jvm.Cond → Bool} (h1 : L.all (fun c => isCode c || P c) = true) (h2 : ∀ c ∈ L.filter isCode, P c = true) : L.all P = true := by
  refine List.all_eq_true.mpr fun c hc => ?_
  have h := List.all_eq_true.mp h1 c hc
  rcases Bool.eq_false_or_eq_true (isCode c) with hi | hi
  · exact h2 c (List.mem_filter.mpr ⟨hc, hi⟩)
  · simpa [hi] using h
set_option maxRecDepth 65536 in
theorem w_c0 : (Jvm.Cond.code x code maxLocals ret).before args0 about1 = true := code_word (m := ⟨1, 3⟩) (meth := k1m3) (c := k1c3) (by decide +kernel) rfl rfl rfl (by decide +kernel)
set_option maxRecDepth 65536 in
theorem w_c1 : (Jvm.Cond.code ({ cls := "com/example/canny_warden/cannywarden/engine/WildcardHasWildcardPinLaw", name := "draw", desc := "(I)C" } : Jvm.MethodName) method_2_code (3 : Nat) (Option.some Jvm.ClassFile.FieldType.char)).before args0 about1 = true := code_word (m := ⟨1, 1⟩) (meth := k1m1) (c := k1c1) (by decide +kernel) rfl rfl rfl (by decide +kernel)
set_option maxRecDepth 65536 in
theorem w_c2 : (Jvm.Cond.code ({ cls := "java/lang/String", name := "<init>", desc := "([C)V" } : Jvm.MethodName) jdk_42_method_3_code (2 : Nat) (Option.none : Option Jvm.ClassFile.FieldType)).before args0 about1 = true := code_word (m := ⟨7, 1⟩) (meth := k7m1) (c := k7c1) (by decide +kernel) rfl rfl rfl (by decide +kernel)
set_option maxRecDepth 65536 in
theorem w_c3 : (Jvm.Cond.code ({ cls := "java/lang/String", name := "<init>", desc := "([CIILjava/lang/Void;)V" } : Jvm.MethodName) jdk_42_method_149_code (6 : Nat) (Option.none : Option Jvm.ClassFile.FieldType)).before args0 about1 = true := code_word (m := ⟨7, 5⟩) (meth := k7m5) (c := k7c5) (by decide +kernel) rfl rfl rfl (by decide +kernel)
set_option maxRecDepth 65536 in
theorem w_c4 : (Jvm.Cond.code ({ cls := "java/lang/Object", name := "<init>", desc := "()V" } : Jvm.MethodName) object_method_1_code (1 : Nat) (Option.none : Option Jvm.ClassFile.FieldType)).before args0 about1 = true := code_word (m := ⟨0, 0⟩) (meth := k0m0) (c := k0c0) (by decide +kernel) rfl rfl rfl (by decide +kernel)
set_option maxRecDepth 65536 in
theorem w_c5 : (Jvm.Cond.code ({ cls := "com/example/canny_warden/cannywarden/engine/Wildcard", name := "hasWildcard", desc := "(Ljava/lang/String;)Z" } : Jvm.MethodName) prog_77_method_6_code (1 : Nat) (Option.some Jvm.ClassFile.FieldType.boolean)).before args0 about1 = true := code_word (m := ⟨8, 0⟩) (meth := k8m0) (c := k8c0) (by decide +kernel) rfl rfl rfl (by decide +kernel)
set_option maxRecDepth 65536 in
theorem w_c6 : (Jvm.Cond.code ({ cls := "java/lang/String", name := "indexOf", desc := "(I)I" } : Jvm.MethodName) jdk_42_method_79_code (2 : Nat) (Option.some Jvm.ClassFile.FieldType.int)).before args0 about1 = true := code_word (m := ⟨7, 3⟩) (meth := k7m3) (c := k7c3) (by decide +kernel) rfl rfl rfl (by decide +kernel)
set_option maxRecDepth 65536 in
theorem w_c7 : (Jvm.Cond.code ({ cls := "java/lang/String", name := "indexOf", desc := "(II)I" } : Jvm.MethodName) jdk_42_method_80_code (3 : Nat) (Option.some Jvm.ClassFile.FieldType.int)).before args0 about1 = true := code_word (m := ⟨7, 4⟩) (meth := k7m4) (c := k7c4) (by decide +kernel) rfl rfl rfl (by decide +kernel)
set_option maxRecDepth 65536 in
theorem w_c8 : (Jvm.Cond.code ({ cls := "java/lang/String", name := "isLatin1", desc := "()Z" } : Jvm.MethodName) jdk_42_method_154_code (1 : Nat) (Option.some Jvm.ClassFile.FieldType.boolean)).before args0 about1 = true := code_word (m := ⟨7, 7⟩) (meth := k7m7) (c := k7c7) (by decide +kernel) rfl rfl rfl (by decide +kernel)
set_option maxRecDepth 65536 in
theorem w_c9 : (Jvm.Cond.code ({ cls := "java/lang/String", name := "length", desc := "()I" } : Jvm.MethodName) jdk_42_method_54_code (1 : Nat) (Option.some Jvm.ClassFile.FieldType.int)).before args0 about1 = true := code_word (m := ⟨7, 2⟩) (meth := k7m2) (c := k7c2) (by decide +kernel) rfl rfl rfl (by decide +kernel)
set_option maxRecDepth 65536 in
theorem w_c10 : (Jvm.Cond.code ({ cls := "java/lang/String", name := "coder", desc := "()B" } : Jvm.MethodName) jdk_42_method_152_code (1 : Nat) (Option.some Jvm.ClassFile.FieldType.byte)).before args0 about1 = true := code_word (m := ⟨7, 6⟩) (meth := k7m6) (c := k7c6) (by decide +kernel) rfl rfl rfl (by decide +kernel)
set_option maxRecDepth 65536 in
theorem w_c11 : (Jvm.Cond.code ({ cls := "java/lang/StringLatin1", name := "indexOf", desc := "([BIII)I" } : Jvm.MethodName) jdk_43_method_22_code (4 : Nat) (Option.some Jvm.ClassFile.FieldType.int)).before args0 about1 = true := code_word (m := ⟨9, 2⟩) (meth := k9m2) (c := k9c2) (by decide +kernel) rfl rfl rfl (by decide +kernel)
set_option maxRecDepth 65536 in
theorem w_c12 : (Jvm.Cond.code ({ cls := "java/lang/StringLatin1", name := "canEncode", desc := "(I)Z" } : Jvm.MethodName) jdk_43_method_4_code (1 : Nat) (Option.some Jvm.ClassFile.FieldType.boolean)).before args0 about1 = true := code_word (m := ⟨9, 1⟩) (meth := k9m1) (c := k9c1) (by decide +kernel) rfl rfl rfl (by decide +kernel)
set_option maxRecDepth 65536 in
theorem w_c13 : (Jvm.Cond.code ({ cls := "java/lang/Math", name := "max", desc := "(II)I" } : Jvm.MethodName) jdk_29_method_65_code (2 : Nat) (Option.some Jvm.ClassFile.FieldType.int)).before args0 about1 = true := code_word (m := ⟨10, 1⟩) (meth := k10m1) (c := k10c1) (by decide +kernel) rfl rfl rfl (by decide +kernel)
set_option maxRecDepth 65536 in
theorem w_c14 : (Jvm.Cond.code ({ cls := "java/lang/Math", name := "min", desc := "(II)I" } : Jvm.MethodName) jdk_29_method_69_code (2 : Nat) (Option.some Jvm.ClassFile.FieldType.int)).before args0 about1 = true := code_word (m := ⟨10, 2⟩) (meth := k10m2) (c := k10c2) (by decide +kernel) rfl rfl rfl (by decide +kernel)
set_option maxRecDepth 65536 in
theorem w_c15 : (Jvm.Cond.code ({ cls := "java/lang/StringUTF16", name := "compress", desc := "([CII)[B" } : Jvm.MethodName) jdk_52_method_16_code (6 : Nat) (Option.some (Jvm.ClassFile.FieldType.array Jvm.ClassFile.FieldType.byte))).before args0 about1 = true := code_word (m := ⟨11, 8⟩) (meth := k11m8) (c := k11c8) (by decide +kernel) rfl rfl rfl (by decide +kernel)
set_option maxRecDepth 65536 in
theorem w_c16 : (Jvm.Cond.code ({ cls := "java/lang/StringUTF16", name := "compress", desc := "([CI[BII)I" } : Jvm.MethodName) jdk_52_method_21_code (7 : Nat) (Option.some Jvm.ClassFile.FieldType.int)).before args0 about1 = true := code_word (m := ⟨11, 9⟩) (meth := k11m9) (c := k11c9) (by decide +kernel) rfl rfl rfl (by decide +kernel)
set_option maxRecDepth 65536 in
theorem w_c17 : (Jvm.Cond.code ({ cls := "java/lang/StringUTF16", name := "coderFromArrayLen", desc := "([BI)B" } : Jvm.MethodName) jdk_52_method_15_code (2 : Nat) (Option.some Jvm.ClassFile.FieldType.byte)).before args0 about1 = true := code_word (m := ⟨11, 7⟩) (meth := k11m7) (c := k11c7) (by decide +kernel) rfl rfl rfl (by decide +kernel)
set_option maxRecDepth 65536 in
theorem w_c18 : (Jvm.Cond.code ({ cls := "com/example/canny_warden/cannywarden/engine/WildcardHasWildcardPinLaw", name := "wild", desc := "(C)Z" } : Jvm.MethodName) method_3_code (1 : Nat) (Option.some Jvm.ClassFile.FieldType.boolean)).before args0 about1 = true := code_word (m := ⟨1, 2⟩) (meth := k1m2) (c := k1c2) (by decide +kernel) rfl rfl rfl (by decide +kernel)
set_option maxRecDepth 65536 in
theorem w_c19 : (Jvm.Cond.code ({ cls := "java/lang/StringLatin1", name := "indexOfChar", desc := "([BIII)I" } : Jvm.MethodName) jdk_43_method_23_code (6 : Nat) (Option.some Jvm.ClassFile.FieldType.int)).before args0 about1 = true := code_word (m := ⟨9, 3⟩) (meth := k9m3) (c := k9c3) (by decide +kernel) rfl rfl rfl (by decide +kernel)
set_option maxRecDepth 65536 in
theorem w_c20 : (Jvm.Cond.code ({ cls := "java/lang/StringUTF16", name := "toBytes", desc := "([CII)[B" } : Jvm.MethodName) jdk_52_method_14_code (5 : Nat) (Option.some (Jvm.ClassFile.FieldType.array Jvm.ClassFile.FieldType.byte))).before args0 about1 = true := code_word (m := ⟨11, 6⟩) (meth := k11m6) (c := k11c6) (by decide +kernel) rfl rfl rfl (by decide +kernel)
set_option maxRecDepth 65536 in
theorem w_c21 : (Jvm.Cond.code ({ cls := "java/lang/StringUTF16", name := "newBytesFor", desc := "(I)[B" } : Jvm.MethodName) jdk_52_method_2_code (1 : Nat) (Option.some (Jvm.ClassFile.FieldType.array Jvm.ClassFile.FieldType.byte))).before args0 about1 = true := code_word (m := ⟨11, 1⟩) (meth := k11m1) (c := k11c1) (by decide +kernel) rfl rfl rfl (by decide +kernel)
set_option maxRecDepth 65536 in
theorem w_c22 : (Jvm.Cond.code ({ cls := "java/lang/StringUTF16", name := "newBytesLength", desc := "(I)I" } : Jvm.MethodName) jdk_52_method_3_code (1 : Nat) (Option.some Jvm.ClassFile.FieldType.int)).before args0 about1 = true := code_word (m := ⟨11, 2⟩) (meth := k11m2) (c := k11c2) (by decide +kernel) rfl rfl rfl (by decide +kernel)
set_option maxRecDepth 65536 in
theorem w_c23 : (Jvm.Cond.code ({ cls := "java/lang/StringUTF16", name := "putChar", desc := "([BII)V" } : Jvm.MethodName) jdk_52_method_4_code (3 : Nat) (Option.none : Option Jvm.ClassFile.FieldType)).before args0 about1 = true := code_word (m := ⟨11, 3⟩) (meth := k11m3) (c := k11c3) (by decide +kernel) rfl rfl rfl (by decide +kernel)
set_option maxRecDepth 65536 in
theorem w_c24 : (Jvm.Cond.code ({ cls := "java/lang/StringUTF16", name := "getChar", desc := "([BI)C" } : Jvm.MethodName) jdk_52_method_5_code (2 : Nat) (Option.some Jvm.ClassFile.FieldType.char)).before args0 about1 = true := code_word (m := ⟨11, 4⟩) (meth := k11m4) (c := k11c4) (by decide +kernel) rfl rfl rfl (by decide +kernel)
set_option maxRecDepth 65536 in
theorem w_c25 : (Jvm.Cond.code ({ cls := "java/lang/StringUTF16", name := "indexOf", desc := "([BIII)I" } : Jvm.MethodName) jdk_52_method_40_code (4 : Nat) (Option.some Jvm.ClassFile.FieldType.int)).before args0 about1 = true := code_word (m := ⟨11, 10⟩) (meth := k11m10) (c := k11c10) (by decide +kernel) rfl rfl rfl (by decide +kernel)
set_option maxRecDepth 65536 in
theorem w_c26 : (Jvm.Cond.code ({ cls := "java/lang/StringUTF16", name := "indexOfChar", desc := "([BIII)I" } : Jvm.MethodName) jdk_52_method_47_code (4 : Nat) (Option.some Jvm.ClassFile.FieldType.int)).before args0 about1 = true := code_word (m := ⟨11, 11⟩) (meth := k11m11) (c := k11c11) (by decide +kernel) rfl rfl rfl (by decide +kernel)
set_option maxRecDepth 65536 in
theorem w_c27 : (Jvm.Cond.code ({ cls := "java/lang/StringUTF16", name := "checkBoundsBeginEnd", desc := "(II[B)V" } : Jvm.MethodName) jdk_52_method_93_code (3 : Nat) (Option.none : Option Jvm.ClassFile.FieldType)).before args0 about1 = true := code_word (m := ⟨11, 13⟩) (meth := k11m13) (c := k11c13) (by decide +kernel) rfl rfl rfl (by decide +kernel)
set_option maxRecDepth 65536 in
theorem w_c28 : (Jvm.Cond.code ({ cls := "java/lang/StringUTF16", name := "length", desc := "([B)I" } : Jvm.MethodName) jdk_52_method_6_code (1 : Nat) (Option.some Jvm.ClassFile.FieldType.int)).before args0 about1 = true := code_word (m := ⟨11, 5⟩) (meth := k11m5) (c := k11c5) (by decide +kernel) rfl rfl rfl (by decide +kernel)
set_option maxRecDepth 65536 in
theorem w_c29 : (Jvm.Cond.code ({ cls := "java/lang/String", name := "checkBoundsBeginEnd", desc := "(III)V" } : Jvm.MethodName) jdk_42_method_158_code (3 : Nat) (Option.none : Option Jvm.ClassFile.FieldType)).before args0 about1 = true := code_word (m := ⟨7, 8⟩) (meth := k7m8) (c := k7c8) (by decide +kernel) rfl rfl rfl (by decide +kernel)
set_option maxRecDepth 65536 in
theorem w_c30 : (Jvm.Cond.code ({ cls := "jdk/internal/util/Preconditions", name := "checkFromToIndex", desc := "(IIILjava/util/function/BiFunction;)I" } : Jvm.MethodName) jdk_41_method_12_code (4 : Nat) (Option.some Jvm.ClassFile.FieldType.int)).before args0 about1 = true := code_word (m := ⟨12, 1⟩) (meth := k12m1) (c := k12c1) (by decide +kernel) rfl rfl rfl (by decide +kernel)
set_option maxRecDepth 65536 in
theorem w_c31 : (Jvm.Cond.code ({ cls := "java/lang/StringUTF16", name := "indexOfCharUnsafe", desc := "([BIII)I" } : Jvm.MethodName) jdk_52_method_48_code (5 : Nat) (Option.some Jvm.ClassFile.FieldType.int)).before args0 about1 = true := code_word (m := ⟨11, 12⟩) (meth := k11m12) (c := k11c12) (by decide +kernel) rfl rfl rfl (by decide +kernel)
def codes1 : List Jvm.Cond := [Jvm.Cond.code x code maxLocals ret, Jvm.Cond.code ({ cls := "com/example/canny_warden/cannywarden/engine/WildcardHasWildcardPinLaw", name := "draw", desc := "(I)C" } : Jvm.MethodName) method_2_code (3 : Nat) (Option.some Jvm.ClassFile.FieldType.char), Jvm.Cond.code ({ cls := "java/lang/String", name := "<init>", desc := "([C)V" } : Jvm.MethodName) jdk_42_method_3_code (2 : Nat) (Option.none : Option Jvm.ClassFile.FieldType), Jvm.Cond.code ({ cls := "java/lang/String", name := "<init>", desc := "([CIILjava/lang/Void;)V" } : Jvm.MethodName) jdk_42_method_149_code (6 : Nat) (Option.none : Option Jvm.ClassFile.FieldType), Jvm.Cond.code ({ cls := "java/lang/Object", name := "<init>", desc := "()V" } : Jvm.MethodName) object_method_1_code (1 : Nat) (Option.none : Option Jvm.ClassFile.FieldType), Jvm.Cond.code ({ cls := "com/example/canny_warden/cannywarden/engine/Wildcard", name := "hasWildcard", desc := "(Ljava/lang/String;)Z" } : Jvm.MethodName) prog_77_method_6_code (1 : Nat) (Option.some Jvm.ClassFile.FieldType.boolean), Jvm.Cond.code ({ cls := "java/lang/String", name := "indexOf", desc := "(I)I" } : Jvm.MethodName) jdk_42_method_79_code (2 : Nat) (Option.some Jvm.ClassFile.FieldType.int), Jvm.Cond.code ({ cls := "java/lang/String", name := "indexOf", desc := "(II)I" } : Jvm.MethodName) jdk_42_method_80_code (3 : Nat) (Option.some Jvm.ClassFile.FieldType.int), Jvm.Cond.code ({ cls := "java/lang/String", name := "isLatin1", desc := "()Z" } : Jvm.MethodName) jdk_42_method_154_code (1 : Nat) (Option.some Jvm.ClassFile.FieldType.boolean), Jvm.Cond.code ({ cls := "java/lang/String", name := "length", desc := "()I" } : Jvm.MethodName) jdk_42_method_54_code (1 : Nat) (Option.some Jvm.ClassFile.FieldType.int), Jvm.Cond.code ({ cls := "java/lang/String", name := "coder", desc := "()B" } : Jvm.MethodName) jdk_42_method_152_code (1 : Nat) (Option.some Jvm.ClassFile.FieldType.byte), Jvm.Cond.code ({ cls := "java/lang/StringLatin1", name := "indexOf", desc := "([BIII)I" } : Jvm.MethodName) jdk_43_method_22_code (4 : Nat) (Option.some Jvm.ClassFile.FieldType.int), Jvm.Cond.code ({ cls := "java/lang/StringLatin1", name := "canEncode", desc := "(I)Z" } : Jvm.MethodName) jdk_43_method_4_code (1 : Nat) (Option.some Jvm.ClassFile.FieldType.boolean), Jvm.Cond.code ({ cls := "java/lang/Math", name := "max", desc := "(II)I" } : Jvm.MethodName) jdk_29_method_65_code (2 : Nat) (Option.some Jvm.ClassFile.FieldType.int), Jvm.Cond.code ({ cls := "java/lang/Math", name := "min", desc := "(II)I" } : Jvm.MethodName) jdk_29_method_69_code (2 : Nat) (Option.some Jvm.ClassFile.FieldType.int), Jvm.Cond.code ({ cls := "java/lang/StringUTF16", name := "compress", desc := "([CII)[B" } : Jvm.MethodName) jdk_52_method_16_code (6 : Nat) (Option.some (Jvm.ClassFile.FieldType.array Jvm.ClassFile.FieldType.byte)), Jvm.Cond.code ({ cls := "java/lang/StringUTF16", name := "compress", desc := "([CI[BII)I" } : Jvm.MethodName) jdk_52_method_21_code (7 : Nat) (Option.some Jvm.ClassFile.FieldType.int), Jvm.Cond.code ({ cls := "java/lang/StringUTF16", name := "coderFromArrayLen", desc := "([BI)B" } : Jvm.MethodName) jdk_52_method_15_code (2 : Nat) (Option.some Jvm.ClassFile.FieldType.byte), Jvm.Cond.code ({ cls := "com/example/canny_warden/cannywarden/engine/WildcardHasWildcardPinLaw", name := "wild", desc := "(C)Z" } : Jvm.MethodName) method_3_code (1 : Nat) (Option.some Jvm.ClassFile.FieldType.boolean), Jvm.Cond.code ({ cls := "java/lang/StringLatin1", name := "indexOfChar", desc := "([BIII)I" } : Jvm.MethodName) jdk_43_method_23_code (6 : Nat) (Option.some Jvm.ClassFile.FieldType.int), Jvm.Cond.code ({ cls := "java/lang/StringUTF16", name := "toBytes", desc := "([CII)[B" } : Jvm.MethodName) jdk_52_method_14_code (5 : Nat) (Option.some (Jvm.ClassFile.FieldType.array Jvm.ClassFile.FieldType.byte)), Jvm.Cond.code ({ cls := "java/lang/StringUTF16", name := "newBytesFor", desc := "(I)[B" } : Jvm.MethodName) jdk_52_method_2_code (1 : Nat) (Option.some (Jvm.ClassFile.FieldType.array Jvm.ClassFile.FieldType.byte)), Jvm.Cond.code ({ cls := "java/lang/StringUTF16", name := "newBytesLength", desc := "(I)I" } : Jvm.MethodName) jdk_52_method_3_code (1 : Nat) (Option.some Jvm.ClassFile.FieldType.int), Jvm.Cond.code ({ cls := "java/lang/StringUTF16", name := "putChar", desc := "([BII)V" } : Jvm.MethodName) jdk_52_method_4_code (3 : Nat) (Option.none : Option Jvm.ClassFile.FieldType), Jvm.Cond.code ({ cls := "java/lang/StringUTF16", name := "getChar", desc := "([BI)C" } : Jvm.MethodName) jdk_52_method_5_code (2 : Nat) (Option.some Jvm.ClassFile.FieldType.char), Jvm.Cond.code ({ cls := "java/lang/StringUTF16", name := "indexOf", desc := "([BIII)I" } : Jvm.MethodName) jdk_52_method_40_code (4 : Nat) (Option.some Jvm.ClassFile.FieldType.int), Jvm.Cond.code ({ cls := "java/lang/StringUTF16", name := "indexOfChar", desc := "([BIII)I" } : Jvm.MethodName) jdk_52_method_47_code (4 : Nat) (Option.some Jvm.ClassFile.FieldType.int), Jvm.Cond.code ({ cls := "java/lang/StringUTF16", name := "checkBoundsBeginEnd", desc := "(II[B)V" } : Jvm.MethodName) jdk_52_method_93_code (3 : Nat) (Option.none : Option Jvm.ClassFile.FieldType), Jvm.Cond.code ({ cls := "java/lang/StringUTF16", name := "length", desc := "([B)I" } : Jvm.MethodName) jdk_52_method_6_code (1 : Nat) (Option.some Jvm.ClassFile.FieldType.int), Jvm.Cond.code ({ cls := "java/lang/String", name := "checkBoundsBeginEnd", desc := "(III)V" } : Jvm.MethodName) jdk_42_method_158_code (3 : Nat) (Option.none : Option Jvm.ClassFile.FieldType), Jvm.Cond.code ({ cls := "jdk/internal/util/Preconditions", name := "checkFromToIndex", desc := "(IIILjava/util/function/BiFunction;)I" } : Jvm.MethodName) jdk_41_method_12_code (4 : Nat) (Option.some Jvm.ClassFile.FieldType.int), Jvm.Cond.code ({ cls := "java/lang/StringUTF16", name := "indexOfCharUnsafe", desc := "([BIII)I" } : Jvm.MethodName) jdk_52_method_48_code (5 : Nat) (Option.some Jvm.ClassFile.FieldType.int)]
set_option maxRecDepth 65536 in
theorem codes_eq : words1.filter isCode = codes1 := rfl
theorem w_codes : ∀ c ∈ words1.filter isCode, c.before args0 about1 = true := by
  rw [codes_eq]
  intro c hc
  simp only [codes1, List.mem_cons, List.not_mem_nil, or_false] at hc
  rcases hc with rfl | rfl | rfl | rfl | rfl | rfl | rfl | rfl | rfl | rfl | rfl | rfl | rfl | rfl | rfl | rfl | rfl | rfl | rfl | rfl | rfl | rfl | rfl | rfl | rfl | rfl | rfl | rfl | rfl | rfl | rfl | rfl
  · exact w_c0
  · exact w_c1
  · exact w_c2
  · exact w_c3
  · exact w_c4
  · exact w_c5
  · exact w_c6
  · exact w_c7
  · exact w_c8
  · exact w_c9
  · exact w_c10
  · exact w_c11
  · exact w_c12
  · exact w_c13
  · exact w_c14
  · exact w_c15
  · exact w_c16
  · exact w_c17
  · exact w_c18
  · exact w_c19
  · exact w_c20
  · exact w_c21
  · exact w_c22
  · exact w_c23
  · exact w_c24
  · exact w_c25
  · exact w_c26
  · exact w_c27
  · exact w_c28
  · exact w_c29
  · exact w_c30
  · exact w_c31
set_option maxRecDepth 65536 in
theorem w_t1 : (words1.take 24).all (fun c => isCode c || c.before args0 about1) = true := by decide +kernel
set_option maxRecDepth 65536 in
theorem w_t2 : ((words1.drop 24).take 24).all (fun c => isCode c || c.before args0 about1) = true := by decide +kernel
set_option maxRecDepth 65536 in
theorem w_t3 : (((words1.drop 24).drop 24).take 24).all (fun c => isCode c || c.before args0 about1) = true := by decide +kernel
set_option maxRecDepth 65536 in
theorem w_t4 : ((((words1.drop 24).drop 24).drop 24).take 24).all (fun c => isCode c || c.before args0 about1) = true := by decide +kernel
set_option maxRecDepth 65536 in
theorem w_t5 : (((((words1.drop 24).drop 24).drop 24).drop 24).take 24).all (fun c => isCode c || c.before args0 about1) = true := by decide +kernel
set_option maxRecDepth 65536 in
theorem w_t6 : (((((words1.drop 24).drop 24).drop 24).drop 24).drop 24).all (fun c => isCode c || c.before args0 about1) = true := by decide +kernel
theorem w_tables : (allAtoms (Jvm.Cond.code x code maxLocals ret :: tables_1)).before args0 about1 = true := by
  rw [allAtoms_all]
  show words1.all (fun c => c.before args0 about1) = true
  refine all_split ?_ w_codes
  rw [← List.take_append_drop 24 words1, List.all_append, w_t1, ← List.take_append_drop 24 (words1.drop 24), List.all_append, w_t2, ← List.take_append_drop 24 ((words1.drop 24).drop 24), List.all_append, w_t3, ← List.take_append_drop 24 (((words1.drop 24).drop 24).drop 24), List.all_append, w_t4, ← List.take_append_drop 24 ((((words1.drop 24).drop 24).drop 24).drop 24), List.all_append, w_t5, w_t6]
  rfl
set_option maxRecDepth 65536 in
theorem w_rest : rest_1_c.before args0 about1 = true := by decide +kernel
set_option maxRecDepth 65536 in
theorem w_case : (Jvm.Cond.and given_1 narrow_1).before args0 about1 = true := by decide +kernel
set_option maxRecDepth 65536 in
theorem w_consts : constsHeld consts_1 about1 := Jvm.Lit.constsHeldB_iff.mp (by decide +kernel)
theorem w_applies : (headSpec (Jvm.Cond.code x code maxLocals ret :: tables_1) room_1).applies x e0.platform about1 = true :=
  (Spec.applies_iff w_frames).mpr ⟨w_running, w_runnable, w_alone, w_named, w_hears, w_ripe, w_room, w_tables⟩
theorem atStart : AtStart classFile x code maxLocals ret World_1 tables_1 room_1 Calls_1 rest_1 Pre_1 launch0 p0 e0 about1 theMethod args0 below0 :=
  ⟨lists_1, trivial, launch0.admits_env _ _ _, launch0.least_env, fairChoices_fair.cas, fairChoices_fair.clock, w_frames, w_args, w_heap, w_applies, ⟨w_consts, trivial⟩, w_rest, w_case⟩
end start1
theorem witness_1 : WitnessClaimed_1 := ⟨start1.p0, start1.e0, start1.about1, start1.theMethod, start1.args0, start1.below0, start1.atStart⟩
end Jvm.Pilot.@@N@@
