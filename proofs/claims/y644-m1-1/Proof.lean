import JvmDerived
import JvmDerived.Pilot.@@N@@Statement
import JvmDerived.Pilot.@@N@@Code
set_option linter.unusedVariables false
set_option linter.unusedSimpArgs false
@@BLOCK:NumsL.lean.txt@@
namespace Jvm.Pilot.@@N@@
open Jvm Jvm.ClassFile Sem Op Lib Jvm.Free Jvm.Stand Jvm.LawKit Jvm.RoadKit Bundle Jvm.Pilot.@@N@@.Jvm.D
theorem own_w {ws : List Jvm.Cond} {a0 : Array Value} {Z : State} (hw : ∀ d ∈ ws, d.before a0 Z = true) (i : Nat) {d : Jvm.Cond} (h : ws[i]? = some d) : d.before a0 Z = true := hw d (List.mem_of_getElem? h)
/-! the run from a frame comes to an end of which A holds: one walk a body, branches by cases -/
def own_Go (tb : Tables) (e : Env) (below : List Frame) (A : State → Prop) (T : State) (g : JFrame) : Prop := ∃ t, Steps tb e below (T.setTop g) t ∧ A t
theorem own_st {tb : Tables} {e : Env} {below : List Frame} {A : State → Prop} {T T1 : State} {g g1 : JFrame} (k : ∀ t, Steps tb e below (T1.setTop g1) t → Steps tb e below (T.setTop g) t) (h : own_Go tb e below A T1 g1) : own_Go tb e below A T g := by
  obtain ⟨t, a, b⟩ := h
  exact ⟨t, k t a, b⟩
def own_End (s : State) (below : List Frame) (Q : Option Value → Heap → List Loc → Prop) (k n : Nat) (t : State) : Prop := ∃ o, t.status = .running ∧ Ended t below o ∧ ∃ v L, o = .returned v ∧ Q v t.heap L ∧ FrameEnd s o t L k n
theorem own_open {tb : Tables} {e : Env} {below : List Frame} {s₁ s : State} {g g' : JFrame} {Q : Option Value → Heap → List Loc → Prop} {k n : Nat} (hg : g = g') (h : own_Go tb e below (own_End s below Q k n) s₁ g') : ∃ s₂ o, Steps tb e below (s₁.setTop g) s₂ ∧ s₂.status = .running ∧ Ended s₂ below o ∧ ∃ v L, o = .returned v ∧ Q v s₂.heap L ∧ FrameEnd s o s₂ L k n := by
  subst hg
  obtain ⟨t, a, o, b, c, d⟩ := h
  exact ⟨t, o, a, b, c, d⟩
theorem own_nar {t : FieldType} {w : Value} (hw : w.isRef = true) : narrow t w = w := by cases w <;> first | (cases t <;> rfl) | simp [Value.isRef] at hw
section OwnEnds
variable {p : Program} {l : Launch} {e : Env} {R : Room} {s : State} {m : MethodId} {args : Array Value} {below : List Frame} {meth : Method} {c : Code} {T : State} {locs : List Loc} {cells slots : Nat} {Q : Option Value → Heap → List Loc → Prop} {k n : Nat} {h : Heap}
theorem own_end (X : Stand p l e R s m args below meth c T locs cells slots) (hlk : meth.locks = false) (v : Option Value) (hv : meth.sig.returnType = none → v = none) (hk : cells ≤ k) (hn : slots ≤ n) (eT : T.heap = h) (hq : Q v h locs) {g : JFrame}
    (hs : ∀ fs, (∀ (f : JFrame) (acts : List Action), f.method = m → f.locked = none → f.entered = [] → (doReturn e (T.setTop f) acts v).1 = T.setFrames fs) → Steps p.tables e below (T.setTop g) (T.setFrames fs)) : own_Go p.tables e below (own_End s below Q k n) T g := by
  obtain ⟨fs, hr, hrun, hended, hW, hsame⟩ := X.leave (v := v) hv
  exact ⟨_, hs fs hr, _, hrun, hended, v, locs, rfl, (by show Q v T.heap locs; rw [eT]; exact hq), ⟨_, rfl⟩, hW, hsame.mono hk hn⟩
theorem own_retZ (X : Stand p l e R s m args below meth c T locs cells slots) (hx : p.tables.exec = Jvm.exec) (hlk : meth.locks = false) {pc : Nat} {Ls : Array Slot} {z : Int32} {rest : List Value} {t : FieldType} (hret : meth.sig.returnType = some t) (ht : t = .boolean ∨ t = .byte ∨ t = .char ∨ t = .short) (hd : decode c.code pc = .ok (.ireturn, 1)) (hk : cells ≤ k) (hn : slots ≤ n) (eT : T.heap = h) (hq : Q (some (.int (nar t z))) h locs) :
    own_Go p.tables e below (own_End s below Q k n) T (mkF m pc Ls (.int z :: rest)) :=
  own_end X hlk _ (fun q => by rw [hret] at q; cases q) hk hn eT hq (fun fs hr => retN X hx hret ht hd hr)
theorem own_retI (X : Stand p l e R s m args below meth c T locs cells slots) (hx : p.tables.exec = Jvm.exec) (hlk : meth.locks = false) {pc : Nat} {Ls : Array Slot} {z : Int32} {rest : List Value} (hret : meth.sig.returnType = some .int) (hd : decode c.code pc = .ok (.ireturn, 1)) (hk : cells ≤ k) (hn : slots ≤ n) (eT : T.heap = h) (hq : Q (some (.int z)) h locs) :
    own_Go p.tables e below (own_End s below Q k n) T (mkF m pc Ls (.int z :: rest)) :=
  own_end X hlk _ (fun q => by rw [hret] at q; cases q) hk hn eT hq (fun fs hr => retOut X hx hret rfl (Or.inl ⟨rfl, Or.inl rfl, z, rfl⟩) hd hr)
theorem own_retJ (X : Stand p l e R s m args below meth c T locs cells slots) (hx : p.tables.exec = Jvm.exec) (hlk : meth.locks = false) {pc : Nat} {Ls : Array Slot} {z : Int64} {rest : List Value} (hret : meth.sig.returnType = some .long) (hd : decode c.code pc = .ok (.lreturn, 1)) (hk : cells ≤ k) (hn : slots ≤ n) (eT : T.heap = h) (hq : Q (some (.long z)) h locs) :
    own_Go p.tables e below (own_End s below Q k n) T (mkF m pc Ls (.long z :: rest)) :=
  own_end X hlk _ (fun q => by rw [hret] at q; cases q) hk hn eT hq (fun fs hr => retOut X hx hret rfl (Or.inr (Or.inl ⟨rfl, rfl, z, rfl⟩)) hd hr)
theorem own_retA (X : Stand p l e R s m args below meth c T locs cells slots) (hx : p.tables.exec = Jvm.exec) (hlk : meth.locks = false) {pc : Nat} {Ls : Array Slot} {w : Value} {rest : List Value} {t : FieldType} (hret : meth.sig.returnType = some t) (ht : t.isReference = true) (hw : w.isRef = true) (hd : decode c.code pc = .ok (.areturn, 1)) (hk : cells ≤ k) (hn : slots ≤ n) (eT : T.heap = h) (hq : Q (some w) h locs) :
    own_Go p.tables e below (own_End s below Q k n) T (mkF m pc Ls (w :: rest)) :=
  own_end X hlk _ (fun q => by rw [hret] at q; cases q) hk hn eT hq (fun fs hr => retOut X hx hret (own_nar hw) (Or.inr (Or.inr (Or.inr (Or.inr ⟨rfl, ht, hw⟩)))) hd hr)
theorem own_retV (X : Stand p l e R s m args below meth c T locs cells slots) (hx : p.tables.exec = Jvm.exec) (hlk : meth.locks = false) {pc : Nat} {Ls : Array Slot} (hret : meth.sig.returnType = none) (hd : decode c.code pc = .ok (.return_, 1)) (hk : cells ≤ k) (hn : slots ≤ n) (eT : T.heap = h) (hq : Q none h locs) :
    own_Go p.tables e below (own_End s below Q k n) T (mkF m pc Ls []) :=
  own_end X hlk _ (fun _ => rfl) hk hn eT hq (fun fs hr => X.returnOut hx hret hd hr)
end OwnEnds
section OwnWords
variable {args : Array Value} {first s : State} {o : Option Outcome} {idx : List Nat} {a b : Jvm.Term}
theorem own_eqI {k : Int32} (h : (Jvm.Cond.eq a b).value args first o s idx = some true) (hb : b.eval args first o idx s = some (.int k)) : a.eval args first o idx s = some (.int k) := by
  cases ha : a.eval args first o idx s with
  | none => simp [Cond.value, ha] at h
  | some x => cases x <;> simp [Cond.value, ha, hb] at h ⊢; exact h
theorem own_eqR {y : Addr} (h : (Jvm.Cond.eq a b).value args first o s idx = some true) (hb : b.eval args first o idx s = some (.ref y)) : a.eval args first o idx s = some (.ref y) := by
  cases ha : a.eval args first o idx s with
  | none => simp [Cond.value, ha] at h
  | some x => cases x <;> simp [Cond.value, ha, hb] at h ⊢; exact h
end OwnWords
theorem own_nei {i j : Int32} (h : i ≠ j) : Value.int i ≠ Value.int j := fun q => h (Value.int.inj q)
theorem own_plE {Z : State} {h : Heap} {a : Addr} {C : String} (F : Exa Z h a C) : ∃ c : Cell, h[a]? = some c ∧ c.vm.isStatics = false := by
  obtain ⟨c, -, h1, -, -, h2, -⟩ := F
  exact ⟨c, h1, h2⟩
theorem own_plV {Z : State} {h : Heap} {a : Addr} {k : ClassId} {ty : FieldType} {n : Int32} {vs : List Value} {d : Value} (F : Arv Z h a k ty n vs d) : ∃ c : Cell, h[a]? = some c ∧ c.vm.isStatics = false := by
  obtain ⟨c, A, -⟩ := F
  exact ⟨c, A.1, A.plain⟩
theorem own_stak {Z : State} {h h' : Heap} {C n d : String} {v : Value} {ws : List Addr} (F : Sta Z h C n d v) (K : Keep h h' ws) (q : ∀ x ∈ ws, ∃ c : Cell, h[x]? = some c ∧ c.vm.isStatics = false) : Sta Z h' C n d v := by
  obtain ⟨cf, i, k, f, st, cell, h1, h2, h3, h4, h5, h6, h7⟩ := F
  refine ⟨cf, i, k, f, st, cell, h1, h2, h3, h4, K.2.1 _ _ h5 (fun m => ?_), h6, h7⟩
  obtain ⟨c, e1, e2⟩ := q _ m
  cases h5.symm.trans e1
  rw [h6] at e2; cases e2
theorem own_nev {Z : State} {h : Heap} {a b : Addr} {C : String} {k : ClassId} {ty : FieldType} {n : Int32} {vs : List Value} {d : Value} {a0 : Array Value} {kk : Nat} (F : Exa Z h a C) (wi : (Jvm.Cond.instantiable C kk).before a0 Z = true) (G : Arv Z h b k ty n vs d) : a ≠ b := by
  obtain ⟨c, A, -⟩ := G
  exact ne_arr F wi A
section OwnArrays
variable {p : Program} {l : Launch} {e : Env} {R : Room} {s : State} {m : MethodId} {args : Array Value} {below : List Frame} {meth : Method} {c : Code} {T : State} {locs : List Loc} {cells slots : Nat} {Z : State} {h : Heap} {a : Addr} {k : ClassId} {ty : FieldType} {n j : Int32} {vs : List Value} {d v : Value} {rest : List Value}
theorem own_aaload (X : Stand p l e R s m args below meth c T locs cells slots) (hx : p.tables.exec = Jvm.exec) (hZ : Z.Warmed39 s.vm) (eT : T.heap = h) (F : Arv Z h a k ty n vs d) (hty : ty.isReference = true) (hj : ¬ j < 0 ∧ j < n) (hv : vs.getD j.toNatClampNeg d = v) {g : JFrame} (hg : g.method = m) (hs : g.stack = .int j :: .ref a :: rest) (hd : decode c.code g.pc = .ok (.aaload, 1)) :
    ∀ target, Steps p.tables e below (T.setTop { g with pc := g.pc + 1, stack := v :: rest }) target → Steps p.tables e below (T.setTop g) target := by
  obtain ⟨cl, A, -, S, -, H, -⟩ := F
  exact X.aaload hx (by rw [eT]; exact A.1) (State.isArrayOf_alike hZ.alike A.2.1) hty A.2.2 (inb_of S hj) (H.at (inb_of S hj) hv) hg hs hd
theorem own_iaload (X : Stand p l e R s m args below meth c T locs cells slots) (hx : p.tables.exec = Jvm.exec) (hZ : Z.Warmed39 s.vm) (eT : T.heap = h) (F : Arv Z h a k .int n vs d) (hj : ¬ j < 0 ∧ j < n) (hv : vs.getD j.toNatClampNeg d = v) {g : JFrame} (hg : g.method = m) (hs : g.stack = .int j :: .ref a :: rest) (hd : decode c.code g.pc = .ok (.iaload, 1)) :
    ∀ target, Steps p.tables e below (T.setTop { g with pc := g.pc + 1, stack := v :: rest }) target → Steps p.tables e below (T.setTop g) target := by
  obtain ⟨cl, A, -, S, -, H, -⟩ := F
  exact X.iaload hx (by rw [eT]; exact A.1) (State.isArrayOf_alike hZ.alike A.2.1) A.2.2 (inb_of S hj) (H.at (inb_of S hj) hv) hg hs hd
theorem own_laload (X : Stand p l e R s m args below meth c T locs cells slots) (hx : p.tables.exec = Jvm.exec) (hZ : Z.Warmed39 s.vm) (eT : T.heap = h) (F : Arv Z h a k .long n vs d) (hj : ¬ j < 0 ∧ j < n) (hv : vs.getD j.toNatClampNeg d = v) {g : JFrame} (hg : g.method = m) (hs : g.stack = .int j :: .ref a :: rest) (hd : decode c.code g.pc = .ok (.laload, 1)) :
    ∀ target, Steps p.tables e below (T.setTop { g with pc := g.pc + 1, stack := v :: rest }) target → Steps p.tables e below (T.setTop g) target := by
  obtain ⟨cl, A, -, S, -, H, -⟩ := F
  exact X.laload hx (by rw [eT]; exact A.1) (State.isArrayOf_alike hZ.alike A.2.1) A.2.2 (inb_of S hj) (H.at (inb_of S hj) hv) hg hs hd
theorem own_baloadB (X : Stand p l e R s m args below meth c T locs cells slots) (hx : p.tables.exec = Jvm.exec) (hZ : Z.Warmed39 s.vm) (eT : T.heap = h) (F : Arv Z h a k .byte n vs d) (hj : ¬ j < 0 ∧ j < n) (hv : vs.getD j.toNatClampNeg d = v) {g : JFrame} (hg : g.method = m) (hs : g.stack = .int j :: .ref a :: rest) (hd : decode c.code g.pc = .ok (.baload, 1)) :
    ∀ target, Steps p.tables e below (T.setTop { g with pc := g.pc + 1, stack := v :: rest }) target → Steps p.tables e below (T.setTop g) target := by
  obtain ⟨cl, A, -, S, -, H, -⟩ := F
  exact X.baloadBytes hx (by rw [eT]; exact A.1) (State.isArrayOf_alike hZ.alike A.2.1) A.2.2 (inb_of S hj) (H.at (inb_of S hj) hv) hg hs hd
theorem own_baloadZ (X : Stand p l e R s m args below meth c T locs cells slots) (hx : p.tables.exec = Jvm.exec) (hZ : Z.Warmed39 s.vm) (eT : T.heap = h) (F : Arv Z h a k .boolean n vs d) (hj : ¬ j < 0 ∧ j < n) (hv : vs.getD j.toNatClampNeg d = v) {g : JFrame} (hg : g.method = m) (hs : g.stack = .int j :: .ref a :: rest) (hd : decode c.code g.pc = .ok (.baload, 1)) :
    ∀ target, Steps p.tables e below (T.setTop { g with pc := g.pc + 1, stack := v :: rest }) target → Steps p.tables e below (T.setTop g) target := by
  obtain ⟨cl, A, -, S, -, H, -⟩ := F
  exact X.baloadBooleans hx (by rw [eT]; exact A.1) (State.isArrayOf_alike hZ.alike A.2.1) A.2.2 (inb_of S hj) (H.at (inb_of S hj) hv) hg hs hd
theorem own_alen (X : Stand p l e R s m args below meth c T locs cells slots) (hx : p.tables.exec = Jvm.exec) (hZ : Z.Warmed39 s.vm) (eT : T.heap = h) (F : Arv Z h a k ty n vs d) {g : JFrame} (hg : g.method = m) (hs : g.stack = .ref a :: rest) (hd : decode c.code g.pc = .ok (.arraylength, 1)) :
    ∀ target, Steps p.tables e below (T.setTop { g with pc := g.pc + 1, stack := .int n :: rest }) target → Steps p.tables e below (T.setTop g) target := by
  obtain ⟨cl, A, -, S, N, -, -⟩ := F
  have q := X.arraylength hx (by rw [eT]; exact A.1) (State.isArrayOf_alike hZ.alike A.2.1) hg hs hd
  rw [len_of S N] at q
  exact q
end OwnArrays
theorem own_psel {Z s : State} {a0 args : Array Value} {y : MethodName} {n : Nat} (hZ : Z.Warmed39 s.vm) (wi : (Jvm.Cond.instantiable y.cls n).before a0 Z = true) (wp : (Jvm.Cond.privateMethod y).before a0 Z = true) (wm : (Jvm.Cond.instanceMethod y).before a0 Z = true) (hy : y.cls ≠ "java/lang/invoke/MethodHandle" ∧ y.cls ≠ "java/lang/invoke/VarHandle") : (Jvm.Cond.selects y.cls y y).before args s = true := by
  have wi' : (Jvm.Cond.instantiable y.cls n).before args s = true := mvT hZ wi
  obtain ⟨c2, k2, i1, i2, -, i4, -⟩ := Cond.instantiable_spec wi'
  simp only [Bool.or_eq_false_iff] at i4
  exact selects_self_of_private i1 i2 i4.1 (Cond.privateMethod_at (mvP hZ wp (args := args))) (mvT hZ wm) hy
section OwnMore
variable {args : Array Value} {s : State} {t u : Jvm.Term} {x y : Addr} {cl : Cell} {ty : FieldType} {n j : Int32}
theorem own_len (h : (Jvm.Cond.eq (Jvm.Term.length t) (Jvm.Term.int n)).value args s none s [] = some true) (ht : t.eval args s none [] s = some (.ref x)) (A : Jvm.RoadKit.Arr s s.heap x cl ty) : cl.slots.size < 2 ^ 31 ∧ cl.slots.size.toInt32 = n := by
  have e := own_eqI h (Term.int_eval _)
  have ha : s.arrayAt? x = some cl := A.fin (Vm.Alike.refl _)
  by_cases hl : cl.slots.size < 2 ^ 31
  · refine ⟨hl, ?_⟩
    rw [len_f ht ha hl] at e
    exact Value.int.inj (Option.some.inj e)
  · simp [Term.eval, ht, ha, hl] at e
theorem own_elem (h : (Jvm.Cond.eq (Jvm.Term.elem t (Jvm.Term.int j)) u).value args s none s [] = some true) (hu : u.eval args s none [] s = some (.ref y)) (ht : t.eval args s none [] s = some (.ref x)) (A : Jvm.RoadKit.Arr s s.heap x cl ty) : cl.slots[j.toNatClampNeg]? = some (.ref y) :=
  (elem_in (own_eqR h hu) ht (Term.int_eval _) A.1).2
end OwnMore
theorem own_sto {Z : State} {h : Heap} {a y : Addr} {k : ClassId} {ty : FieldType} {n : Int32} {vs : List Value} {d : Value} {C : String} (F : Arv Z h a k ty n vs d) (O : Ovr Z k C) (I : Ins Z h y C true) : Sto Z h a (.ref y) := by
  obtain ⟨c, A, q, -⟩ := F
  exact Sto.ofV A q O I
theorem own_cp0 {p : Program} {l : Launch} {e : Env} {R : Room} {s : State} {m : MethodId} {args : Array Value} {below : List Frame} {meth : Method} {c : Code} {T : State} {locs : List Loc} {cells slots : Nat} {Z : State} {h : Heap} {a b : Addr} {k k' : ClassId} {ty ty' : FieldType} {z z' : Int32} {vs vd : List Value} {dv dd : Value}
    (X : Stand p l e R s m args below meth c T locs cells slots) (hx : p.tables.exec = Jvm.exec) (hZ : Z.Warmed39 s.vm) {a0 : Array Value} {own : String} {index : Nat} (hown : s.vm.findClass own = some m.cls)
    (w1 : (Jvm.Cond.methodLink own index Jvm.Stand.acN).before a0 Z = true) (w2 : (Jvm.Cond.native Jvm.Stand.acN).before a0 Z = true) (w3 : (Jvm.Cond.static Jvm.Stand.acN).before a0 Z = true) (w4 : (Jvm.Cond.initialized "java/lang/System").before a0 Z = true) (eT : T.heap = h)
    {sp dp nn : Int32} (A : Arv Z h a k ty z vs dv) (B : Arv Z h b k' ty' z' vd dd) (h0 : nn = 0) (hty : (ty = ty' ∧ refKind ty = false) ∨ (refKind ty = true ∧ refKind ty' = true))
    (h1 : ¬ sp < 0) (h2 : ¬ dp < 0) (h4 : sp.toNatClampNeg ≤ z.toNatClampNeg) (h5 : dp.toNatClampNeg ≤ z'.toNatClampNeg)
    {g : JFrame} (hg : g.method = m) (hsize : g.locals.size = c.maxLocals) {rest : List Value} (hs : g.stack = .int nn :: .int dp :: .ref b :: .int sp :: .ref a :: rest) (hd : decode c.code g.pc = .ok (.invokestatic index, 3))
    (hf : 1 ≤ R.frames) {W : Nat} (hW : 2 * g.monitorRoom + (rest.map fun v => v.category).sum ≤ W) (hlo : W + (nativeFrameWords "java/lang/System" "arraycopy" 5 + 11) ≤ R.locals) :
    ∃ T', Stand p l e R s m args below meth c T' locs cells slots ∧ T'.heap = h ∧ ∀ target, Steps p.tables e below (T'.setTop { g with pc := g.pc + 3, stack := rest }) target → Steps p.tables e below (T.setTop g) target := by
  subst h0
  obtain ⟨cs, As, -, Ss, -, Hs, Gs⟩ := A
  obtain ⟨cd, Ad, qd, Sd, Nd, Hd, Gd⟩ := B
  obtain ⟨os, ks, hks, sc, hsk⟩ := State.isArrayOf_alike hZ.alike As.2.1
  obtain ⟨od, kd, hkd, dc, hdk⟩ := State.isArrayOf_alike hZ.alike Ad.2.1
  have nat : ∀ {x : Int32}, ¬ x < 0 → x.toInt = x.toNatClampNeg := fun {x} q => by
    rw [Int32.lt_iff_toInt_lt] at q; have : (0 : Int32).toInt = 0 := rfl
    simp only [Int32.toNatClampNeg]; omega
  have z0 : (0 : Int32).toInt = 0 := rfl
  obtain ⟨vm₁, hW₁, X', st⟩ := X.arraycopyK (srcPos := sp) (destPos := dp) (n := 0) hx hown (mvT hZ w1) (mvT hZ w2) (mvT hZ w3) (mvT hZ w4) (by rw [eT]; exact As.1) (by rw [eT]; exact Ad.1) os od As.2.2 Ad.2.2 hks hkd hsk hdk
    (by rcases hty with ⟨rfl, r⟩ | ⟨r1, r2⟩; simp [r]; simp [r1, r2]) h1 h2 (by decide) (by rw [nat h1, z0, Ss]; omega) (by rw [nat h2, z0, Sd]; omega) (fun vm₁ hw i hi => absurd hi (Nat.not_lt_zero i)) hg hsize hs hd hf (by omega)
  have ec : copied cs cd sp dp 0 = cd := rfl
  have el : locs ++ copyLocs b dp.toNatClampNeg (0 : Int32).toNatClampNeg = locs := List.append_nil _
  rw [ec] at X' st
  rw [el] at X'
  refine ⟨_, X', ?_, st⟩
  show T.heap.setIfInBounds b cd = h
  rw [eT]
  have hb : b < h.size := Ad.lt
  have hg2 := Ad.1
  apply Array.ext_getElem?
  intro i
  by_cases hi : b = i
  · subst hi; rw [Array.getElem?_setIfInBounds_self_of_lt hb, hg2]
  · rw [Array.getElem?_setIfInBounds_ne hi]
theorem own_nb (x : Int32) : nar .byte (x.toInt8.toInt32) = x.toInt8.toInt32 := by simp [nar]
theorem own_clone {p : Program} {l : Launch} {e : Env} {R : Room} {s : State} {m : MethodId} {args : Array Value} {below : List Frame} {meth : Method} {c : Code} {T : State} {locs : List Loc} {cells slots : Nat} {Z : State} {h : Heap} {a : Addr} {ty : FieldType}
    (X : Stand p l e R s m args below meth c T locs cells slots) (hx : p.tables.exec = Jvm.exec) (hZ : Z.Warmed39 s.vm) {a0 : Array Value} {own ad : String} {index : Nat} (hown : s.vm.findClass own = some m.cls)
    (w1 : (Jvm.Cond.methodLink own index ⟨ad, "clone", "()Ljava/lang/Object;"⟩).before a0 Z = true) (w2 : (Jvm.Cond.sameMethod ad "java/lang/Object" "clone" "()Ljava/lang/Object;").before a0 Z = true) (w3 : (Jvm.Cond.native ⟨"java/lang/Object", "clone", "()Ljava/lang/Object;"⟩).before a0 Z = true)
    (w4 : (Jvm.Cond.instanceMethod ⟨"java/lang/Object", "clone", "()Ljava/lang/Object;"⟩).before a0 Z = true) (w5 : (Jvm.Cond.selects ad ⟨ad, "clone", "()Ljava/lang/Object;"⟩ ⟨"java/lang/Object", "clone", "()Ljava/lang/Object;"⟩).before a0 Z = true) (w6 : (Jvm.Cond.castable ad "java/lang/Cloneable").before a0 Z = true)
    (eT : T.heap = h) {k : ClassId} {z : Int32} {vs : List Value} {dv : Value} (F : Arv Z h a k ty z vs dv) (E : Exa Z h a ad) {g : JFrame} (hg : g.method = m) (hsize : g.locals.size = c.maxLocals) {rest : List Value} (hst : g.stack = .ref a :: rest) (hd : decode c.code g.pc = .ok (.invokevirtual index, 3))
    (hf : 1 ≤ R.frames) {W cap : Nat} (hW : 2 * g.monitorRoom + (rest.map fun v => v.category).sum ≤ W) (hl : W + 14 ≤ R.locals) (hcap : z.toNatClampNeg ≤ cap) (hc : cells + 1 ≤ R.cells) (hsl : slots + cap ≤ R.slots) :
    ∃ T' h', Stand p l e R s m args below meth c T' locs (cells + 1) (slots + cap) ∧ T'.heap = h' ∧ Ext h h' ∧ Arv Z h' h.size k ty z vs dv ∧ Exa Z h' h.size ad ∧
      ∀ target, Steps p.tables e below (T'.setTop { g with pc := g.pc + 3, stack := .ref h.size :: rest }) target → Steps p.tables e below (T.setTop g) target := by
  obtain ⟨cl, A, q1, S, q3, H, G⟩ := F
  have FC : FitC Z cl := fitC_of A fun i hi v hv => by rw [H i hi] at hv; cases hv; exact G i hi
  obtain ⟨T', h', X', e', ex, A', E', st⟩ := cloneA X hx hZ hown w1 w2 w3 w4 w5 w6 eT A E FC hg hsize hst hd hf hW hl (by rw [S]; exact hcap) hc hsl
  exact ⟨T', h', X', e', ex, ⟨cloneOf cl, A', q1, S, q3, H, G⟩, E', st⟩
theorem own_rem0 (x : Int32) : (x &&& (2147483647 : Int32)) % (3 : Int32) = (0 : Int32) ∨ (x &&& (2147483647 : Int32)) % (3 : Int32) = (1 : Int32) ∨ (x &&& (2147483647 : Int32)) % (3 : Int32) = (2 : Int32) := by
  have e1 : (x &&& (2147483647 : Int32)).toInt = x.toInt % 2 ^ 31 := Jvm.Kit.i32_mask x 2147483647 (k := 31) (by decide) (by decide)
  have e2 : ((x &&& (2147483647 : Int32)) % (3 : Int32)).toInt = (x &&& (2147483647 : Int32)).toInt % (3 : Int32).toInt := Jvm.Kit.i32_rem_nonneg (by omega)
  have e3 : (3 : Int32).toInt = 3 := rfl
  rw [e3] at e2
  have z0 : (0 : Int32).toInt = 0 := rfl
  have z1 : (1 : Int32).toInt = 1 := rfl
  have z2 : (2 : Int32).toInt = 2 := rfl
  simp only [← Int32.toInt_inj]
  omega
theorem own_d1_0 : decode method_2_code 0 = .ok (.iload_n 0, 1) := by decide +kernel
theorem own_d1_1 : decode method_2_code 1 = .ok (.ifCond .ne 7, 3) := by decide +kernel
theorem own_d1_4 : decode method_2_code 4 = .ok (.getstatic 7, 3) := by decide +kernel
theorem own_d1_7 : decode method_2_code 7 = .ok (.areturn, 1) := by decide +kernel
theorem own_d1_8 : decode method_2_code 8 = .ok (.iload_n 0, 1) := by decide +kernel
theorem own_d1_9 : decode method_2_code 9 = .ok (.iconst 1, 1) := by decide +kernel
theorem own_d1_10 : decode method_2_code 10 = .ok (.if_icmp .ne 7, 3) := by decide +kernel
theorem own_d1_13 : decode method_2_code 13 = .ok (.getstatic 13, 3) := by decide +kernel
theorem own_d1_16 : decode method_2_code 16 = .ok (.areturn, 1) := by decide +kernel
theorem own_d1_17 : decode method_2_code 17 = .ok (.getstatic 16, 3) := by decide +kernel
theorem own_d1_20 : decode method_2_code 20 = .ok (.areturn, 1) := by decide +kernel
theorem own_ef1 (m : MethodId) (x0 : Int32) : entryFrame m #[(.int x0)] 1 = mkF m 0 #[.val (.int x0)] [] := by first | (simp [entryFrame, mkF, argsToLocals, Value.category]; done) | rfl
theorem own_pn0 : plainName "com/example/bare_container/barecontainer/bench/StartAmongLibrariesPinLaw" = true := by first | (simp [plainName, overriddenIn]; done) | decide +kernel
def own_Q1 (ip0 : Int32) (w_NAMED : Addr) (w_SCANNED : Addr) (w_SCANNED_AMONG_LIBRARIES : Addr) (h0 : Heap) (n0 : Nat) (v : Option Value) (h : Heap) (L : List Loc) : Prop := Fr n0 L ∧ h = h0 ∧ ((v = some (.ref w_NAMED) ∧ (ip0 = (0 : Int32)) ∧ True) ∨ (v = some (.ref w_SCANNED) ∧ (¬ (ip0 = (0 : Int32))) ∧ (ip0 = (1 : Int32)) ∧ True) ∨ (v = some (.ref w_SCANNED_AMONG_LIBRARIES) ∧ (¬ (ip0 = (0 : Int32))) ∧ (¬ (ip0 = (1 : Int32))) ∧ True))
set_option maxRecDepth 65536 in
set_option maxHeartbeats 40000000 in
theorem own_rm1 (l : Launch) (Z : State) (a0 : Array Value) (hw : ∀ d ∈ tables_1, d.before a0 Z = true) (ws : List Jvm.Cond) (ip0 : Int32) (w_NAMED : Addr) (w_SCANNED : Addr) (w_SCANNED_AMONG_LIBRARIES : Addr) (h0 : Heap) (n0 : Nat) (Z0 : n0 ≤ h0.size) (S_NAMED : Sta Z h0 "com/example/bare_container/barecontainer/bench/Workload$Start" "NAMED" "Lcom/example/bare_container/barecontainer/bench/Workload$Start;" (.ref w_NAMED)) (S_SCANNED : Sta Z h0 "com/example/bare_container/barecontainer/bench/Workload$Start" "SCANNED" "Lcom/example/bare_container/barecontainer/bench/Workload$Start;" (.ref w_SCANNED)) (S_SCANNED_AMONG_LIBRARIES : Sta Z h0 "com/example/bare_container/barecontainer/bench/Workload$Start" "SCANNED_AMONG_LIBRARIES" "Lcom/example/bare_container/barecontainer/bench/Workload$Start;" (.ref w_SCANNED_AMONG_LIBRARIES)) :
    MetFree l (⟨"com/example/bare_container/barecontainer/bench/StartAmongLibrariesPinLaw", "startOf", "(I)Lcom/example/bare_container/barecontainer/bench/Workload$Start;"⟩ : MethodName) (head1 (Jvm.Cond.code (⟨"com/example/bare_container/barecontainer/bench/StartAmongLibrariesPinLaw", "startOf", "(I)Lcom/example/bare_container/barecontainer/bench/Workload$Start;"⟩ : MethodName) method_2_code 1 (some (.object "com/example/bare_container/barecontainer/bench/Workload$Start")) :: ws) ({ frames := 0, cells := 0, slots := 0, locals := 0 } : Room)) (fun a U => a = #[(.int ip0)] ∧ Z.Warmed39 U.vm ∧ U.heap = h0) (fun _ _ _ _ _ => True) (fun _ U o U' => ∃ v L, o = .returned v ∧ own_Q1 ip0 w_NAMED w_SCANNED w_SCANNED_AMONG_LIBRARIES h0 n0 v U'.heap L ∧ FrameEnd U o U' L ({ frames := 0, cells := 0, slots := 0, locals := 0 } : Room).cells ({ frames := 0, cells := 0, slots := 0, locals := 0 } : Room).slots) := by
  refine MetFree.of_bodySF (plainFor_of_name own_pn0) hisR ?_
  intro p e s m args below meth c s₁ Bd hml0 hP hK
  obtain ⟨rfl, hZ, hh⟩ := hP
  have hx := Bd.exec
  have hlk := Bd.notSynchronized
  have hret := Bd.returns
  have hby := Bd.bytes
  have hml : c.maxLocals = 1 := hml0
  have hown : s.vm.findClass "com/example/bare_container/barecontainer/bench/StartAmongLibrariesPinLaw" = some m.cls := findClass_of_methodNamed Bd.named
  have hnm := (name_of_methodNamed Bd.named Bd.method).1
  have X0 : Stand p l e ({ frames := 0, cells := 0, slots := 0, locals := 0 } : Room) s m #[(.int ip0)] below meth c s₁ [] 0 0 := Stand.of_body Bd
  have e0 : s₁.heap = h0 := by rw [← hh, Bd.state]; rfl
  have N0 := Fr.nil n0
  refine own_open (Q := own_Q1 ip0 w_NAMED w_SCANNED w_SCANNED_AMONG_LIBRARIES h0 n0) (own_ef1 m ip0) ?_
  show own_Go _ _ _ _ s₁ (mkF m 0 #[.val (.int ip0)] [])
  refine own_st (fun t k => XS.iloadN X0.here hx rfl (hb hby own_d1_0) rfl k) ?_
  show own_Go _ _ _ _ s₁ (mkF m 1 #[.val (.int ip0)] [(.int ip0)])
  by_cases hc1 : ip0 = (0 : Int32)
  · skip
    refine own_st (fun t k => XS.ifNo X0.here hx rfl (hb hby own_d1_1) rfl ((if0 _ _).trans (teq hc1).2) k) ?_
    show own_Go _ _ _ _ s₁ (mkF m 4 #[.val (.int ip0)] [])
    obtain ⟨T2, X2, e2, st2⟩ := getS2 X0 hx hZ hown (host := "") (Or.inl (own_w hw 5 rfl)) Via.refl e0 S_NAMED (g := (mkF m 4 #[.val (.int ip0)] [])) rfl (hb hby own_d1_4)
    refine own_st st2 ?_
    show own_Go _ _ _ _ T2 (mkF m 7 #[.val (.int ip0)] [(.ref w_NAMED)])
    exact own_retA X2 hx hlk hret rfl rfl (hb hby own_d1_7) (by decide) (by decide) e2 ⟨N0, rfl, (Or.inl ⟨rfl, hc1, trivial⟩)⟩
  · skip
    refine own_st (fun t k => XS.ifYes X0.here hx rfl (pc0 := 1) (pc' := 8) rfl (hb hby own_d1_1) rfl ((if0 _ _).trans (feq hc1).2) (by decide) (by decide) k) ?_
    show own_Go _ _ _ _ s₁ (mkF m 8 #[.val (.int ip0)] [])
    refine own_st (fun t k => XS.iloadN X0.here hx rfl (hb hby own_d1_8) rfl k) ?_
    show own_Go _ _ _ _ s₁ (mkF m 9 #[.val (.int ip0)] [(.int ip0)])
    refine own_st (fun t k => XS.iconst X0.here hx rfl (hb hby own_d1_9) k) ?_
    show own_Go _ _ _ _ s₁ (mkF m 10 #[.val (.int ip0)] [(.int (1 : Int32)), (.int ip0)])
    by_cases hc3 : ip0 = (1 : Int32)
    · skip
      refine own_st (fun t k => XS.icmpNo X0.here hx rfl (hb hby own_d1_10) rfl (teq hc3).2 k) ?_
      show own_Go _ _ _ _ s₁ (mkF m 13 #[.val (.int ip0)] [])
      obtain ⟨T4, X4, e4, st4⟩ := getS2 X0 hx hZ hown (host := "") (Or.inl (own_w hw 38 rfl)) Via.refl e0 S_SCANNED (g := (mkF m 13 #[.val (.int ip0)] [])) rfl (hb hby own_d1_13)
      refine own_st st4 ?_
      show own_Go _ _ _ _ T4 (mkF m 16 #[.val (.int ip0)] [(.ref w_SCANNED)])
      exact own_retA X4 hx hlk hret rfl rfl (hb hby own_d1_16) (by decide) (by decide) e4 ⟨N0, rfl, (Or.inr (Or.inl ⟨rfl, hc1, hc3, trivial⟩))⟩
    · skip
      refine own_st (fun t k => XS.icmpYes X0.here hx rfl (pc0 := 10) (pc' := 17) rfl (hb hby own_d1_10) rfl (feq hc3).2 (by decide) (by decide) k) ?_
      show own_Go _ _ _ _ s₁ (mkF m 17 #[.val (.int ip0)] [])
      obtain ⟨T5, X5, e5, st5⟩ := getS2 X0 hx hZ hown (host := "") (Or.inl (own_w hw 29 rfl)) Via.refl e0 S_SCANNED_AMONG_LIBRARIES (g := (mkF m 17 #[.val (.int ip0)] [])) rfl (hb hby own_d1_17)
      refine own_st st5 ?_
      show own_Go _ _ _ _ T5 (mkF m 20 #[.val (.int ip0)] [(.ref w_SCANNED_AMONG_LIBRARIES)])
      exact own_retA X5 hx hlk hret rfl rfl (hb hby own_d1_20) (by decide) (by decide) e5 ⟨N0, rfl, (Or.inr (Or.inr ⟨rfl, hc1, hc3, trivial⟩))⟩
theorem own_pd0 : parseMethodDescriptor "(I)Lcom/example/bare_container/barecontainer/bench/Workload$Start;" = some ⟨[.int], some (.object "com/example/bare_container/barecontainer/bench/Workload$Start")⟩ := by decide +kernel
theorem own_d2_0 : decode prog_25_method_5_code 0 = .ok (.aload_n 0, 1) := by decide +kernel
theorem own_d2_1 : decode prog_25_method_5_code 1 = .ok (.getstatic 10, 3) := by decide +kernel
theorem own_d2_4 : decode prog_25_method_5_code 4 = .ok (.if_acmp .ne 7, 3) := by decide +kernel
theorem own_d2_7 : decode prog_25_method_5_code 7 = .ok (.iconst 1, 1) := by decide +kernel
theorem own_d2_8 : decode prog_25_method_5_code 8 = .ok (.goto 4, 3) := by decide +kernel
theorem own_d2_11 : decode prog_25_method_5_code 11 = .ok (.iconst 0, 1) := by decide +kernel
theorem own_d2_12 : decode prog_25_method_5_code 12 = .ok (.ireturn, 1) := by decide +kernel
theorem own_ef2 (m : MethodId) (x0 : Addr) : entryFrame m #[(.ref x0)] 1 = mkF m 0 #[.val (.ref x0)] [] := by first | (simp [entryFrame, mkF, argsToLocals, Value.category]; done) | rfl
theorem own_pn1 : plainName "com/example/bare_container/barecontainer/bench/Workload$Start" = true := by first | (simp [plainName, overriddenIn]; done) | decide +kernel
def own_Q2 (rp0 : Addr) (w_SCANNED_AMONG_LIBRARIES : Addr) (h0 : Heap) (n0 : Nat) (v : Option Value) (h : Heap) (L : List Loc) : Prop := Fr n0 L ∧ h = h0 ∧ ((v = some (.int (1 : Int32)) ∧ (rp0 = w_SCANNED_AMONG_LIBRARIES) ∧ True) ∨ (v = some (.int (0 : Int32)) ∧ (¬ (rp0 = w_SCANNED_AMONG_LIBRARIES)) ∧ True))
set_option maxRecDepth 65536 in
set_option maxHeartbeats 40000000 in
theorem own_rm2 (l : Launch) (Z : State) (a0 : Array Value) (hw : ∀ d ∈ tables_1, d.before a0 Z = true) (ws : List Jvm.Cond) (rp0 : Addr) (w_SCANNED_AMONG_LIBRARIES : Addr) (h0 : Heap) (n0 : Nat) (Z0 : n0 ≤ h0.size) (S_SCANNED_AMONG_LIBRARIES : Sta Z h0 "com/example/bare_container/barecontainer/bench/Workload$Start" "SCANNED_AMONG_LIBRARIES" "Lcom/example/bare_container/barecontainer/bench/Workload$Start;" (.ref w_SCANNED_AMONG_LIBRARIES)) :
    MetFree l (⟨"com/example/bare_container/barecontainer/bench/Workload$Start", "amongLibraries", "()Z"⟩ : MethodName) (head1 (Jvm.Cond.code (⟨"com/example/bare_container/barecontainer/bench/Workload$Start", "amongLibraries", "()Z"⟩ : MethodName) prog_25_method_5_code 1 (some .boolean) :: ws) ({ frames := 0, cells := 0, slots := 0, locals := 0 } : Room)) (fun a U => a = #[(.ref rp0)] ∧ Z.Warmed39 U.vm ∧ U.heap = h0) (fun _ _ _ _ _ => True) (fun _ U o U' => ∃ v L, o = .returned v ∧ own_Q2 rp0 w_SCANNED_AMONG_LIBRARIES h0 n0 v U'.heap L ∧ FrameEnd U o U' L ({ frames := 0, cells := 0, slots := 0, locals := 0 } : Room).cells ({ frames := 0, cells := 0, slots := 0, locals := 0 } : Room).slots) := by
  refine MetFree.of_bodySF (plainFor_of_name own_pn1) hisR ?_
  intro p e s m args below meth c s₁ Bd hml0 hP hK
  obtain ⟨rfl, hZ, hh⟩ := hP
  have hx := Bd.exec
  have hlk := Bd.notSynchronized
  have hret := Bd.returns
  have hby := Bd.bytes
  have hml : c.maxLocals = 1 := hml0
  have hown : s.vm.findClass "com/example/bare_container/barecontainer/bench/Workload$Start" = some m.cls := findClass_of_methodNamed Bd.named
  have hnm := (name_of_methodNamed Bd.named Bd.method).1
  have X0 : Stand p l e ({ frames := 0, cells := 0, slots := 0, locals := 0 } : Room) s m #[(.ref rp0)] below meth c s₁ [] 0 0 := Stand.of_body Bd
  have e0 : s₁.heap = h0 := by rw [← hh, Bd.state]; rfl
  have N0 := Fr.nil n0
  refine own_open (Q := own_Q2 rp0 w_SCANNED_AMONG_LIBRARIES h0 n0) (own_ef2 m rp0) ?_
  show own_Go _ _ _ _ s₁ (mkF m 0 #[.val (.ref rp0)] [])
  refine own_st (fun t k => XS.aloadN X0.here hx rfl (hb hby own_d2_0) rfl rfl k) ?_
  show own_Go _ _ _ _ s₁ (mkF m 1 #[.val (.ref rp0)] [(.ref rp0)])
  obtain ⟨T1, X1, e1, st1⟩ := getS2 X0 hx hZ hown (host := "") (Or.inl (own_w hw 13 rfl)) Via.refl e0 S_SCANNED_AMONG_LIBRARIES (g := (mkF m 1 #[.val (.ref rp0)] [(.ref rp0)])) rfl (hb hby own_d2_1)
  refine own_st st1 ?_
  show own_Go _ _ _ _ T1 (mkF m 4 #[.val (.ref rp0)] [(.ref w_SCANNED_AMONG_LIBRARIES), (.ref rp0)])
  by_cases hc2 : rp0 = w_SCANNED_AMONG_LIBRARIES
  · skip
    refine own_st (fun t k => Jvm.RoadKit.acmp (g := (mkF m 4 #[.val (.ref rp0)] [(.ref w_SCANNED_AMONG_LIBRARIES), (.ref rp0)])) X1 hx rfl rfl rfl (pc0 := 4) (pc' := 7) (same := true) rfl (hb hby own_d2_4) rfl (decide_eq_true (congrArg Value.ref hc2)) (by decide) (by decide) k) ?_
    show own_Go _ _ _ _ T1 (mkF m 7 #[.val (.ref rp0)] [])
    refine own_st (fun t k => XS.iconst X1.here hx rfl (hb hby own_d2_7) k) ?_
    show own_Go _ _ _ _ T1 (mkF m 8 #[.val (.ref rp0)] [(.int (1 : Int32))])
    refine own_st (fun t k => XS.goto X1.here hx rfl (pc0 := 8) (pc' := 12) rfl (hb hby own_d2_8) (by decide) (by decide) k) ?_
    show own_Go _ _ _ _ T1 (mkF m 12 #[.val (.ref rp0)] [(.int (1 : Int32))])
    exact own_retZ X1 hx hlk (t := .boolean) hret (by simp) (hb hby own_d2_12) (by decide) (by decide) e1 ⟨N0, rfl, (Or.inl ⟨rfl, hc2, trivial⟩)⟩
  · skip
    refine own_st (fun t k => Jvm.RoadKit.acmp (g := (mkF m 4 #[.val (.ref rp0)] [(.ref w_SCANNED_AMONG_LIBRARIES), (.ref rp0)])) X1 hx rfl rfl rfl (pc0 := 4) (pc' := 11) (same := false) rfl (hb hby own_d2_4) rfl (decide_eq_false fun q => hc2 (Value.ref.inj q)) (by decide) (by decide) k) ?_
    show own_Go _ _ _ _ T1 (mkF m 11 #[.val (.ref rp0)] [])
    refine own_st (fun t k => XS.iconst X1.here hx rfl (hb hby own_d2_11) k) ?_
    show own_Go _ _ _ _ T1 (mkF m 12 #[.val (.ref rp0)] [(.int (0 : Int32))])
    exact own_retZ X1 hx hlk (t := .boolean) hret (by simp) (hb hby own_d2_12) (by decide) (by decide) e1 ⟨N0, rfl, (Or.inr ⟨rfl, hc2, trivial⟩)⟩
theorem own_pd1 : parseMethodDescriptor "()Z" = some ⟨[], some .boolean⟩ := by decide +kernel
theorem own_rem1 (x : Int32) : (x &&& (2147483647 : Int32)) % (5 : Int32) = (0 : Int32) ∨ (x &&& (2147483647 : Int32)) % (5 : Int32) = (1 : Int32) ∨ (x &&& (2147483647 : Int32)) % (5 : Int32) = (2 : Int32) ∨ (x &&& (2147483647 : Int32)) % (5 : Int32) = (3 : Int32) ∨ (x &&& (2147483647 : Int32)) % (5 : Int32) = (4 : Int32) := by
  have e1 : (x &&& (2147483647 : Int32)).toInt = x.toInt % 2 ^ 31 := Jvm.Kit.i32_mask x 2147483647 (k := 31) (by decide) (by decide)
  have e2 : ((x &&& (2147483647 : Int32)) % (5 : Int32)).toInt = (x &&& (2147483647 : Int32)).toInt % (5 : Int32).toInt := Jvm.Kit.i32_rem_nonneg (by omega)
  have e3 : (5 : Int32).toInt = 5 := rfl
  rw [e3] at e2
  have z0 : (0 : Int32).toInt = 0 := rfl
  have z1 : (1 : Int32).toInt = 1 := rfl
  have z2 : (2 : Int32).toInt = 2 := rfl
  have z3 : (3 : Int32).toInt = 3 := rfl
  have z4 : (4 : Int32).toInt = 4 := rfl
  simp only [← Int32.toInt_inj]
  omega
theorem own_d3_0 : decode method_3_code 0 = .ok (.iload_n 0, 1) := by decide +kernel
theorem own_d3_1 : decode method_3_code 1 = .ok (.ifCond .ne 7, 3) := by decide +kernel
theorem own_d3_4 : decode method_3_code 4 = .ok (.getstatic 19, 3) := by decide +kernel
theorem own_d3_7 : decode method_3_code 7 = .ok (.areturn, 1) := by decide +kernel
theorem own_d3_8 : decode method_3_code 8 = .ok (.iload_n 0, 1) := by decide +kernel
theorem own_d3_9 : decode method_3_code 9 = .ok (.iconst 1, 1) := by decide +kernel
theorem own_d3_10 : decode method_3_code 10 = .ok (.if_icmp .ne 7, 3) := by decide +kernel
theorem own_d3_13 : decode method_3_code 13 = .ok (.getstatic 25, 3) := by decide +kernel
theorem own_d3_16 : decode method_3_code 16 = .ok (.areturn, 1) := by decide +kernel
theorem own_d3_17 : decode method_3_code 17 = .ok (.iload_n 0, 1) := by decide +kernel
theorem own_d3_18 : decode method_3_code 18 = .ok (.iconst 2, 1) := by decide +kernel
theorem own_d3_19 : decode method_3_code 19 = .ok (.if_icmp .ne 7, 3) := by decide +kernel
theorem own_d3_22 : decode method_3_code 22 = .ok (.getstatic 28, 3) := by decide +kernel
theorem own_d3_25 : decode method_3_code 25 = .ok (.areturn, 1) := by decide +kernel
theorem own_d3_26 : decode method_3_code 26 = .ok (.iload_n 0, 1) := by decide +kernel
theorem own_d3_27 : decode method_3_code 27 = .ok (.iconst 3, 1) := by decide +kernel
theorem own_d3_28 : decode method_3_code 28 = .ok (.if_icmp .ne 7, 3) := by decide +kernel
theorem own_d3_31 : decode method_3_code 31 = .ok (.getstatic 31, 3) := by decide +kernel
theorem own_d3_34 : decode method_3_code 34 = .ok (.areturn, 1) := by decide +kernel
theorem own_d3_35 : decode method_3_code 35 = .ok (.getstatic 34, 3) := by decide +kernel
theorem own_d3_38 : decode method_3_code 38 = .ok (.areturn, 1) := by decide +kernel
theorem own_ef3 (m : MethodId) (x0 : Int32) : entryFrame m #[(.int x0)] 1 = mkF m 0 #[.val (.int x0)] [] := by first | (simp [entryFrame, mkF, argsToLocals, Value.category]; done) | rfl
def own_Q3 (ip0 : Int32) (w_EMPTY_CALL : Addr) (w_INSERT_CALL : Addr) (w_STARTUP : Addr) (w_STARTUP_SCANNED : Addr) (w_STARTUP_AMONG_LIBRARIES : Addr) (h0 : Heap) (n0 : Nat) (v : Option Value) (h : Heap) (L : List Loc) : Prop := Fr n0 L ∧ h = h0 ∧ ((v = some (.ref w_EMPTY_CALL) ∧ (ip0 = (0 : Int32)) ∧ True) ∨ (v = some (.ref w_INSERT_CALL) ∧ (¬ (ip0 = (0 : Int32))) ∧ (ip0 = (1 : Int32)) ∧ True) ∨ (v = some (.ref w_STARTUP) ∧ (¬ (ip0 = (0 : Int32))) ∧ (¬ (ip0 = (1 : Int32))) ∧ (ip0 = (2 : Int32)) ∧ True) ∨ (v = some (.ref w_STARTUP_SCANNED) ∧ (¬ (ip0 = (0 : Int32))) ∧ (¬ (ip0 = (1 : Int32))) ∧ (¬ (ip0 = (2 : Int32))) ∧ (ip0 = (3 : Int32)) ∧ True) ∨ (v = some (.ref w_STARTUP_AMONG_LIBRARIES) ∧ (¬ (ip0 = (0 : Int32))) ∧ (¬ (ip0 = (1 : Int32))) ∧ (¬ (ip0 = (2 : Int32))) ∧ (¬ (ip0 = (3 : Int32))) ∧ True))
set_option maxRecDepth 65536 in
set_option maxHeartbeats 40000000 in
theorem own_rm3 (l : Launch) (Z : State) (a0 : Array Value) (hw : ∀ d ∈ tables_1, d.before a0 Z = true) (ws : List Jvm.Cond) (ip0 : Int32) (w_EMPTY_CALL : Addr) (w_INSERT_CALL : Addr) (w_STARTUP : Addr) (w_STARTUP_SCANNED : Addr) (w_STARTUP_AMONG_LIBRARIES : Addr) (h0 : Heap) (n0 : Nat) (Z0 : n0 ≤ h0.size) (S_EMPTY_CALL : Sta Z h0 "com/example/bare_container/barecontainer/bench/Workload" "EMPTY_CALL" "Lcom/example/bare_container/barecontainer/bench/Workload;" (.ref w_EMPTY_CALL)) (S_INSERT_CALL : Sta Z h0 "com/example/bare_container/barecontainer/bench/Workload" "INSERT_CALL" "Lcom/example/bare_container/barecontainer/bench/Workload;" (.ref w_INSERT_CALL)) (S_STARTUP : Sta Z h0 "com/example/bare_container/barecontainer/bench/Workload" "STARTUP" "Lcom/example/bare_container/barecontainer/bench/Workload;" (.ref w_STARTUP)) (S_STARTUP_SCANNED : Sta Z h0 "com/example/bare_container/barecontainer/bench/Workload" "STARTUP_SCANNED" "Lcom/example/bare_container/barecontainer/bench/Workload;" (.ref w_STARTUP_SCANNED)) (S_STARTUP_AMONG_LIBRARIES : Sta Z h0 "com/example/bare_container/barecontainer/bench/Workload" "STARTUP_AMONG_LIBRARIES" "Lcom/example/bare_container/barecontainer/bench/Workload;" (.ref w_STARTUP_AMONG_LIBRARIES)) :
    MetFree l (⟨"com/example/bare_container/barecontainer/bench/StartAmongLibrariesPinLaw", "workloadOf", "(I)Lcom/example/bare_container/barecontainer/bench/Workload;"⟩ : MethodName) (head1 (Jvm.Cond.code (⟨"com/example/bare_container/barecontainer/bench/StartAmongLibrariesPinLaw", "workloadOf", "(I)Lcom/example/bare_container/barecontainer/bench/Workload;"⟩ : MethodName) method_3_code 1 (some (.object "com/example/bare_container/barecontainer/bench/Workload")) :: ws) ({ frames := 0, cells := 0, slots := 0, locals := 0 } : Room)) (fun a U => a = #[(.int ip0)] ∧ Z.Warmed39 U.vm ∧ U.heap = h0) (fun _ _ _ _ _ => True) (fun _ U o U' => ∃ v L, o = .returned v ∧ own_Q3 ip0 w_EMPTY_CALL w_INSERT_CALL w_STARTUP w_STARTUP_SCANNED w_STARTUP_AMONG_LIBRARIES h0 n0 v U'.heap L ∧ FrameEnd U o U' L ({ frames := 0, cells := 0, slots := 0, locals := 0 } : Room).cells ({ frames := 0, cells := 0, slots := 0, locals := 0 } : Room).slots) := by
  refine MetFree.of_bodySF (plainFor_of_name own_pn0) hisR ?_
  intro p e s m args below meth c s₁ Bd hml0 hP hK
  obtain ⟨rfl, hZ, hh⟩ := hP
  have hx := Bd.exec
  have hlk := Bd.notSynchronized
  have hret := Bd.returns
  have hby := Bd.bytes
  have hml : c.maxLocals = 1 := hml0
  have hown : s.vm.findClass "com/example/bare_container/barecontainer/bench/StartAmongLibrariesPinLaw" = some m.cls := findClass_of_methodNamed Bd.named
  have hnm := (name_of_methodNamed Bd.named Bd.method).1
  have X0 : Stand p l e ({ frames := 0, cells := 0, slots := 0, locals := 0 } : Room) s m #[(.int ip0)] below meth c s₁ [] 0 0 := Stand.of_body Bd
  have e0 : s₁.heap = h0 := by rw [← hh, Bd.state]; rfl
  have N0 := Fr.nil n0
  refine own_open (Q := own_Q3 ip0 w_EMPTY_CALL w_INSERT_CALL w_STARTUP w_STARTUP_SCANNED w_STARTUP_AMONG_LIBRARIES h0 n0) (own_ef3 m ip0) ?_
  show own_Go _ _ _ _ s₁ (mkF m 0 #[.val (.int ip0)] [])
  refine own_st (fun t k => XS.iloadN X0.here hx rfl (hb hby own_d3_0) rfl k) ?_
  show own_Go _ _ _ _ s₁ (mkF m 1 #[.val (.int ip0)] [(.int ip0)])
  by_cases hc1 : ip0 = (0 : Int32)
  · skip
    refine own_st (fun t k => XS.ifNo X0.here hx rfl (hb hby own_d3_1) rfl ((if0 _ _).trans (teq hc1).2) k) ?_
    show own_Go _ _ _ _ s₁ (mkF m 4 #[.val (.int ip0)] [])
    obtain ⟨T2, X2, e2, st2⟩ := getS2 X0 hx hZ hown (host := "") (Or.inl (own_w hw 39 rfl)) Via.refl e0 S_EMPTY_CALL (g := (mkF m 4 #[.val (.int ip0)] [])) rfl (hb hby own_d3_4)
    refine own_st st2 ?_
    show own_Go _ _ _ _ T2 (mkF m 7 #[.val (.int ip0)] [(.ref w_EMPTY_CALL)])
    exact own_retA X2 hx hlk hret rfl rfl (hb hby own_d3_7) (by decide) (by decide) e2 ⟨N0, rfl, (Or.inl ⟨rfl, hc1, trivial⟩)⟩
  · skip
    refine own_st (fun t k => XS.ifYes X0.here hx rfl (pc0 := 1) (pc' := 8) rfl (hb hby own_d3_1) rfl ((if0 _ _).trans (feq hc1).2) (by decide) (by decide) k) ?_
    show own_Go _ _ _ _ s₁ (mkF m 8 #[.val (.int ip0)] [])
    refine own_st (fun t k => XS.iloadN X0.here hx rfl (hb hby own_d3_8) rfl k) ?_
    show own_Go _ _ _ _ s₁ (mkF m 9 #[.val (.int ip0)] [(.int ip0)])
    refine own_st (fun t k => XS.iconst X0.here hx rfl (hb hby own_d3_9) k) ?_
    show own_Go _ _ _ _ s₁ (mkF m 10 #[.val (.int ip0)] [(.int (1 : Int32)), (.int ip0)])
    by_cases hc3 : ip0 = (1 : Int32)
    · skip
      refine own_st (fun t k => XS.icmpNo X0.here hx rfl (hb hby own_d3_10) rfl (teq hc3).2 k) ?_
      show own_Go _ _ _ _ s₁ (mkF m 13 #[.val (.int ip0)] [])
      obtain ⟨T4, X4, e4, st4⟩ := getS2 X0 hx hZ hown (host := "") (Or.inl (own_w hw 36 rfl)) Via.refl e0 S_INSERT_CALL (g := (mkF m 13 #[.val (.int ip0)] [])) rfl (hb hby own_d3_13)
      refine own_st st4 ?_
      show own_Go _ _ _ _ T4 (mkF m 16 #[.val (.int ip0)] [(.ref w_INSERT_CALL)])
      exact own_retA X4 hx hlk hret rfl rfl (hb hby own_d3_16) (by decide) (by decide) e4 ⟨N0, rfl, (Or.inr (Or.inl ⟨rfl, hc1, hc3, trivial⟩))⟩
    · skip
      refine own_st (fun t k => XS.icmpYes X0.here hx rfl (pc0 := 10) (pc' := 17) rfl (hb hby own_d3_10) rfl (feq hc3).2 (by decide) (by decide) k) ?_
      show own_Go _ _ _ _ s₁ (mkF m 17 #[.val (.int ip0)] [])
      refine own_st (fun t k => XS.iloadN X0.here hx rfl (hb hby own_d3_17) rfl k) ?_
      show own_Go _ _ _ _ s₁ (mkF m 18 #[.val (.int ip0)] [(.int ip0)])
      refine own_st (fun t k => XS.iconst X0.here hx rfl (hb hby own_d3_18) k) ?_
      show own_Go _ _ _ _ s₁ (mkF m 19 #[.val (.int ip0)] [(.int (2 : Int32)), (.int ip0)])
      by_cases hc5 : ip0 = (2 : Int32)
      · skip
        refine own_st (fun t k => XS.icmpNo X0.here hx rfl (hb hby own_d3_19) rfl (teq hc5).2 k) ?_
        show own_Go _ _ _ _ s₁ (mkF m 22 #[.val (.int ip0)] [])
        obtain ⟨T6, X6, e6, st6⟩ := getS2 X0 hx hZ hown (host := "") (Or.inl (own_w hw 41 rfl)) Via.refl e0 S_STARTUP (g := (mkF m 22 #[.val (.int ip0)] [])) rfl (hb hby own_d3_22)
        refine own_st st6 ?_
        show own_Go _ _ _ _ T6 (mkF m 25 #[.val (.int ip0)] [(.ref w_STARTUP)])
        exact own_retA X6 hx hlk hret rfl rfl (hb hby own_d3_25) (by decide) (by decide) e6 ⟨N0, rfl, (Or.inr (Or.inr (Or.inl ⟨rfl, hc1, hc3, hc5, trivial⟩)))⟩
      · skip
        refine own_st (fun t k => XS.icmpYes X0.here hx rfl (pc0 := 19) (pc' := 26) rfl (hb hby own_d3_19) rfl (feq hc5).2 (by decide) (by decide) k) ?_
        show own_Go _ _ _ _ s₁ (mkF m 26 #[.val (.int ip0)] [])
        refine own_st (fun t k => XS.iloadN X0.here hx rfl (hb hby own_d3_26) rfl k) ?_
        show own_Go _ _ _ _ s₁ (mkF m 27 #[.val (.int ip0)] [(.int ip0)])
        refine own_st (fun t k => XS.iconst X0.here hx rfl (hb hby own_d3_27) k) ?_
        show own_Go _ _ _ _ s₁ (mkF m 28 #[.val (.int ip0)] [(.int (3 : Int32)), (.int ip0)])
        by_cases hc7 : ip0 = (3 : Int32)
        · skip
          refine own_st (fun t k => XS.icmpNo X0.here hx rfl (hb hby own_d3_28) rfl (teq hc7).2 k) ?_
          show own_Go _ _ _ _ s₁ (mkF m 31 #[.val (.int ip0)] [])
          obtain ⟨T8, X8, e8, st8⟩ := getS2 X0 hx hZ hown (host := "") (Or.inl (own_w hw 18 rfl)) Via.refl e0 S_STARTUP_SCANNED (g := (mkF m 31 #[.val (.int ip0)] [])) rfl (hb hby own_d3_31)
          refine own_st st8 ?_
          show own_Go _ _ _ _ T8 (mkF m 34 #[.val (.int ip0)] [(.ref w_STARTUP_SCANNED)])
          exact own_retA X8 hx hlk hret rfl rfl (hb hby own_d3_34) (by decide) (by decide) e8 ⟨N0, rfl, (Or.inr (Or.inr (Or.inr (Or.inl ⟨rfl, hc1, hc3, hc5, hc7, trivial⟩))))⟩
        · skip
          refine own_st (fun t k => XS.icmpYes X0.here hx rfl (pc0 := 28) (pc' := 35) rfl (hb hby own_d3_28) rfl (feq hc7).2 (by decide) (by decide) k) ?_
          show own_Go _ _ _ _ s₁ (mkF m 35 #[.val (.int ip0)] [])
          obtain ⟨T9, X9, e9, st9⟩ := getS2 X0 hx hZ hown (host := "") (Or.inl (own_w hw 43 rfl)) Via.refl e0 S_STARTUP_AMONG_LIBRARIES (g := (mkF m 35 #[.val (.int ip0)] [])) rfl (hb hby own_d3_35)
          refine own_st st9 ?_
          show own_Go _ _ _ _ T9 (mkF m 38 #[.val (.int ip0)] [(.ref w_STARTUP_AMONG_LIBRARIES)])
          exact own_retA X9 hx hlk hret rfl rfl (hb hby own_d3_38) (by decide) (by decide) e9 ⟨N0, rfl, (Or.inr (Or.inr (Or.inr (Or.inr ⟨rfl, hc1, hc3, hc5, hc7, trivial⟩))))⟩
theorem own_pd2 : parseMethodDescriptor "(I)Lcom/example/bare_container/barecontainer/bench/Workload;" = some ⟨[.int], some (.object "com/example/bare_container/barecontainer/bench/Workload")⟩ := by decide +kernel
theorem own_d4_0 : decode prog_24_method_7_code 0 = .ok (.aload_n 0, 1) := by decide +kernel
theorem own_d4_1 : decode prog_24_method_7_code 1 = .ok (.getfield 46, 3) := by decide +kernel
theorem own_d4_4 : decode prog_24_method_7_code 4 = .ok (.areturn, 1) := by decide +kernel
theorem own_ef4 (m : MethodId) (x0 : Addr) : entryFrame m #[(.ref x0)] 1 = mkF m 0 #[.val (.ref x0)] [] := by first | (simp [entryFrame, mkF, argsToLocals, Value.category]; done) | rfl
theorem own_pn2 : plainName "com/example/bare_container/barecontainer/bench/Workload" = true := by first | (simp [plainName, overriddenIn]; done) | decide +kernel
def own_Q4 (rp0 : Addr) (u_start_rp0 : Addr) (h0 : Heap) (n0 : Nat) (v : Option Value) (h : Heap) (L : List Loc) : Prop := Fr n0 L ∧ h = h0 ∧ ((v = some (.ref u_start_rp0) ∧ True))
set_option maxRecDepth 65536 in
set_option maxHeartbeats 40000000 in
theorem own_rm4 (l : Launch) (Z : State) (a0 : Array Value) (hw : ∀ d ∈ tables_1, d.before a0 Z = true) (ws : List Jvm.Cond) (rp0 : Addr) (u_start_rp0 : Addr) (h0 : Heap) (n0 : Nat) (Z0 : n0 ≤ h0.size) (F_start_rp0 : Fld Z h0 rp0 "com/example/bare_container/barecontainer/bench/Workload" "start" "Lcom/example/bare_container/barecontainer/bench/Workload$Start;" (.ref u_start_rp0)) :
    MetFree l (⟨"com/example/bare_container/barecontainer/bench/Workload", "start", "()Lcom/example/bare_container/barecontainer/bench/Workload$Start;"⟩ : MethodName) (head1 (Jvm.Cond.code (⟨"com/example/bare_container/barecontainer/bench/Workload", "start", "()Lcom/example/bare_container/barecontainer/bench/Workload$Start;"⟩ : MethodName) prog_24_method_7_code 1 (some (.object "com/example/bare_container/barecontainer/bench/Workload$Start")) :: ws) ({ frames := 0, cells := 0, slots := 0, locals := 0 } : Room)) (fun a U => a = #[(.ref rp0)] ∧ Z.Warmed39 U.vm ∧ U.heap = h0) (fun _ _ _ _ _ => True) (fun _ U o U' => ∃ v L, o = .returned v ∧ own_Q4 rp0 u_start_rp0 h0 n0 v U'.heap L ∧ FrameEnd U o U' L ({ frames := 0, cells := 0, slots := 0, locals := 0 } : Room).cells ({ frames := 0, cells := 0, slots := 0, locals := 0 } : Room).slots) := by
  refine MetFree.of_bodySF (plainFor_of_name own_pn2) hisR ?_
  intro p e s m args below meth c s₁ Bd hml0 hP hK
  obtain ⟨rfl, hZ, hh⟩ := hP
  have hx := Bd.exec
  have hlk := Bd.notSynchronized
  have hret := Bd.returns
  have hby := Bd.bytes
  have hml : c.maxLocals = 1 := hml0
  have hown : s.vm.findClass "com/example/bare_container/barecontainer/bench/Workload" = some m.cls := findClass_of_methodNamed Bd.named
  have hnm := (name_of_methodNamed Bd.named Bd.method).1
  have X0 : Stand p l e ({ frames := 0, cells := 0, slots := 0, locals := 0 } : Room) s m #[(.ref rp0)] below meth c s₁ [] 0 0 := Stand.of_body Bd
  have e0 : s₁.heap = h0 := by rw [← hh, Bd.state]; rfl
  have N0 := Fr.nil n0
  refine own_open (Q := own_Q4 rp0 u_start_rp0 h0 n0) (own_ef4 m rp0) ?_
  show own_Go _ _ _ _ s₁ (mkF m 0 #[.val (.ref rp0)] [])
  refine own_st (fun t k => XS.aloadN X0.here hx rfl (hb hby own_d4_0) rfl rfl k) ?_
  show own_Go _ _ _ _ s₁ (mkF m 1 #[.val (.ref rp0)] [(.ref rp0)])
  obtain ⟨T1, X1, e1, st1⟩ := getF X0 hx hZ hown (host := "") (Or.inl (own_w hw 26 rfl)) Via.refl e0 F_start_rp0 (g := (mkF m 1 #[.val (.ref rp0)] [(.ref rp0)])) rfl rfl (hb hby own_d4_1)
  refine own_st st1 ?_
  show own_Go _ _ _ _ T1 (mkF m 4 #[.val (.ref rp0)] [(.ref u_start_rp0)])
  exact own_retA X1 hx hlk hret rfl rfl (hb hby own_d4_4) (by decide) (by decide) e1 ⟨N0, rfl, ⟨rfl, trivial⟩⟩
theorem own_pd3 : parseMethodDescriptor "()Lcom/example/bare_container/barecontainer/bench/Workload$Start;" = some ⟨[], some (.object "com/example/bare_container/barecontainer/bench/Workload$Start")⟩ := by decide +kernel
theorem own_d5_0 : decode prog_25_method_4_code 0 = .ok (.aload_n 0, 1) := by decide +kernel
theorem own_d5_1 : decode prog_25_method_4_code 1 = .ok (.getstatic 3, 3) := by decide +kernel
theorem own_d5_4 : decode prog_25_method_4_code 4 = .ok (.if_acmp .ne 7, 3) := by decide +kernel
theorem own_d5_7 : decode prog_25_method_4_code 7 = .ok (.iconst 1, 1) := by decide +kernel
theorem own_d5_8 : decode prog_25_method_4_code 8 = .ok (.goto 4, 3) := by decide +kernel
theorem own_d5_11 : decode prog_25_method_4_code 11 = .ok (.iconst 0, 1) := by decide +kernel
theorem own_d5_12 : decode prog_25_method_4_code 12 = .ok (.ireturn, 1) := by decide +kernel
theorem own_ef5 (m : MethodId) (x0 : Addr) : entryFrame m #[(.ref x0)] 1 = mkF m 0 #[.val (.ref x0)] [] := by first | (simp [entryFrame, mkF, argsToLocals, Value.category]; done) | rfl
def own_Q5 (rp0 : Addr) (w_NAMED : Addr) (h0 : Heap) (n0 : Nat) (v : Option Value) (h : Heap) (L : List Loc) : Prop := Fr n0 L ∧ h = h0 ∧ ((v = some (.int (1 : Int32)) ∧ (rp0 = w_NAMED) ∧ True) ∨ (v = some (.int (0 : Int32)) ∧ (¬ (rp0 = w_NAMED)) ∧ True))
set_option maxRecDepth 65536 in
set_option maxHeartbeats 40000000 in
theorem own_rm5 (l : Launch) (Z : State) (a0 : Array Value) (hw : ∀ d ∈ tables_1, d.before a0 Z = true) (ws : List Jvm.Cond) (rp0 : Addr) (w_NAMED : Addr) (h0 : Heap) (n0 : Nat) (Z0 : n0 ≤ h0.size) (S_NAMED : Sta Z h0 "com/example/bare_container/barecontainer/bench/Workload$Start" "NAMED" "Lcom/example/bare_container/barecontainer/bench/Workload$Start;" (.ref w_NAMED)) :
    MetFree l (⟨"com/example/bare_container/barecontainer/bench/Workload$Start", "namesModules", "()Z"⟩ : MethodName) (head1 (Jvm.Cond.code (⟨"com/example/bare_container/barecontainer/bench/Workload$Start", "namesModules", "()Z"⟩ : MethodName) prog_25_method_4_code 1 (some .boolean) :: ws) ({ frames := 0, cells := 0, slots := 0, locals := 0 } : Room)) (fun a U => a = #[(.ref rp0)] ∧ Z.Warmed39 U.vm ∧ U.heap = h0) (fun _ _ _ _ _ => True) (fun _ U o U' => ∃ v L, o = .returned v ∧ own_Q5 rp0 w_NAMED h0 n0 v U'.heap L ∧ FrameEnd U o U' L ({ frames := 0, cells := 0, slots := 0, locals := 0 } : Room).cells ({ frames := 0, cells := 0, slots := 0, locals := 0 } : Room).slots) := by
  refine MetFree.of_bodySF (plainFor_of_name own_pn1) hisR ?_
  intro p e s m args below meth c s₁ Bd hml0 hP hK
  obtain ⟨rfl, hZ, hh⟩ := hP
  have hx := Bd.exec
  have hlk := Bd.notSynchronized
  have hret := Bd.returns
  have hby := Bd.bytes
  have hml : c.maxLocals = 1 := hml0
  have hown : s.vm.findClass "com/example/bare_container/barecontainer/bench/Workload$Start" = some m.cls := findClass_of_methodNamed Bd.named
  have hnm := (name_of_methodNamed Bd.named Bd.method).1
  have X0 : Stand p l e ({ frames := 0, cells := 0, slots := 0, locals := 0 } : Room) s m #[(.ref rp0)] below meth c s₁ [] 0 0 := Stand.of_body Bd
  have e0 : s₁.heap = h0 := by rw [← hh, Bd.state]; rfl
  have N0 := Fr.nil n0
  refine own_open (Q := own_Q5 rp0 w_NAMED h0 n0) (own_ef5 m rp0) ?_
  show own_Go _ _ _ _ s₁ (mkF m 0 #[.val (.ref rp0)] [])
  refine own_st (fun t k => XS.aloadN X0.here hx rfl (hb hby own_d5_0) rfl rfl k) ?_
  show own_Go _ _ _ _ s₁ (mkF m 1 #[.val (.ref rp0)] [(.ref rp0)])
  obtain ⟨T1, X1, e1, st1⟩ := getS2 X0 hx hZ hown (host := "") (Or.inl (own_w hw 35 rfl)) Via.refl e0 S_NAMED (g := (mkF m 1 #[.val (.ref rp0)] [(.ref rp0)])) rfl (hb hby own_d5_1)
  refine own_st st1 ?_
  show own_Go _ _ _ _ T1 (mkF m 4 #[.val (.ref rp0)] [(.ref w_NAMED), (.ref rp0)])
  by_cases hc2 : rp0 = w_NAMED
  · skip
    refine own_st (fun t k => Jvm.RoadKit.acmp (g := (mkF m 4 #[.val (.ref rp0)] [(.ref w_NAMED), (.ref rp0)])) X1 hx rfl rfl rfl (pc0 := 4) (pc' := 7) (same := true) rfl (hb hby own_d5_4) rfl (decide_eq_true (congrArg Value.ref hc2)) (by decide) (by decide) k) ?_
    show own_Go _ _ _ _ T1 (mkF m 7 #[.val (.ref rp0)] [])
    refine own_st (fun t k => XS.iconst X1.here hx rfl (hb hby own_d5_7) k) ?_
    show own_Go _ _ _ _ T1 (mkF m 8 #[.val (.ref rp0)] [(.int (1 : Int32))])
    refine own_st (fun t k => XS.goto X1.here hx rfl (pc0 := 8) (pc' := 12) rfl (hb hby own_d5_8) (by decide) (by decide) k) ?_
    show own_Go _ _ _ _ T1 (mkF m 12 #[.val (.ref rp0)] [(.int (1 : Int32))])
    exact own_retZ X1 hx hlk (t := .boolean) hret (by simp) (hb hby own_d5_12) (by decide) (by decide) e1 ⟨N0, rfl, (Or.inl ⟨rfl, hc2, trivial⟩)⟩
  · skip
    refine own_st (fun t k => Jvm.RoadKit.acmp (g := (mkF m 4 #[.val (.ref rp0)] [(.ref w_NAMED), (.ref rp0)])) X1 hx rfl rfl rfl (pc0 := 4) (pc' := 11) (same := false) rfl (hb hby own_d5_4) rfl (decide_eq_false fun q => hc2 (Value.ref.inj q)) (by decide) (by decide) k) ?_
    show own_Go _ _ _ _ T1 (mkF m 11 #[.val (.ref rp0)] [])
    refine own_st (fun t k => XS.iconst X1.here hx rfl (hb hby own_d5_11) k) ?_
    show own_Go _ _ _ _ T1 (mkF m 12 #[.val (.ref rp0)] [(.int (0 : Int32))])
    exact own_retZ X1 hx hlk (t := .boolean) hret (by simp) (hb hby own_d5_12) (by decide) (by decide) e1 ⟨N0, rfl, (Or.inr ⟨rfl, hc2, trivial⟩)⟩
theorem own_ef0 (m : MethodId) (x0 : Int32) (x1 : Int32) : entryFrame m #[(.int x0), (.int x1)] maxLocals = mkF m 0 #[.val (.int x0), .val (.int x1), .unset, .unset, .unset, .unset, .unset] [] := by first | (simp [entryFrame, mkF, argsToLocals, Value.category, maxLocals]; done) | rfl
def own_Q0 (n0 : Nat) (v : Option Value) (h : Heap) (L : List Loc) : Prop := v = some (.int (1 : Int32)) ∧ Fr n0 L
set_option maxRecDepth 65536 in
set_option maxHeartbeats 40000000 in
theorem own_rm0 (l : Launch) (Z : State) (a0 : Array Value) (hw : ∀ d ∈ tables_1, d.before a0 Z = true) (ws : List Jvm.Cond) (ip0 : Int32) (ip1 : Int32) (w_NAMED : Addr) (w_SCANNED_AMONG_LIBRARIES : Addr) (w_STARTUP_SCANNED : Addr) (w_SCANNED : Addr) (w_INSERT_CALL : Addr) (w_EMPTY_CALL : Addr) (w_STARTUP : Addr) (w_STARTUP_AMONG_LIBRARIES : Addr) (h0 : Heap) (n0 : Nat) (Z0 : n0 ≤ h0.size) (S_NAMED : Sta Z h0 "com/example/bare_container/barecontainer/bench/Workload$Start" "NAMED" "Lcom/example/bare_container/barecontainer/bench/Workload$Start;" (.ref w_NAMED)) (E_w_NAMED : Exa Z h0 w_NAMED "com/example/bare_container/barecontainer/bench/Workload$Start") (S_SCANNED_AMONG_LIBRARIES : Sta Z h0 "com/example/bare_container/barecontainer/bench/Workload$Start" "SCANNED_AMONG_LIBRARIES" "Lcom/example/bare_container/barecontainer/bench/Workload$Start;" (.ref w_SCANNED_AMONG_LIBRARIES)) (E_w_SCANNED_AMONG_LIBRARIES : Exa Z h0 w_SCANNED_AMONG_LIBRARIES "com/example/bare_container/barecontainer/bench/Workload$Start") (S_STARTUP_SCANNED : Sta Z h0 "com/example/bare_container/barecontainer/bench/Workload" "STARTUP_SCANNED" "Lcom/example/bare_container/barecontainer/bench/Workload;" (.ref w_STARTUP_SCANNED)) (E_w_STARTUP_SCANNED : Exa Z h0 w_STARTUP_SCANNED "com/example/bare_container/barecontainer/bench/Workload") (S_SCANNED : Sta Z h0 "com/example/bare_container/barecontainer/bench/Workload$Start" "SCANNED" "Lcom/example/bare_container/barecontainer/bench/Workload$Start;" (.ref w_SCANNED)) (E_w_SCANNED : Exa Z h0 w_SCANNED "com/example/bare_container/barecontainer/bench/Workload$Start") (S_INSERT_CALL : Sta Z h0 "com/example/bare_container/barecontainer/bench/Workload" "INSERT_CALL" "Lcom/example/bare_container/barecontainer/bench/Workload;" (.ref w_INSERT_CALL)) (E_w_INSERT_CALL : Exa Z h0 w_INSERT_CALL "com/example/bare_container/barecontainer/bench/Workload") (S_EMPTY_CALL : Sta Z h0 "com/example/bare_container/barecontainer/bench/Workload" "EMPTY_CALL" "Lcom/example/bare_container/barecontainer/bench/Workload;" (.ref w_EMPTY_CALL)) (E_w_EMPTY_CALL : Exa Z h0 w_EMPTY_CALL "com/example/bare_container/barecontainer/bench/Workload") (S_STARTUP : Sta Z h0 "com/example/bare_container/barecontainer/bench/Workload" "STARTUP" "Lcom/example/bare_container/barecontainer/bench/Workload;" (.ref w_STARTUP)) (E_w_STARTUP : Exa Z h0 w_STARTUP "com/example/bare_container/barecontainer/bench/Workload") (S_STARTUP_AMONG_LIBRARIES : Sta Z h0 "com/example/bare_container/barecontainer/bench/Workload" "STARTUP_AMONG_LIBRARIES" "Lcom/example/bare_container/barecontainer/bench/Workload;" (.ref w_STARTUP_AMONG_LIBRARIES)) (E_w_STARTUP_AMONG_LIBRARIES : Exa Z h0 w_STARTUP_AMONG_LIBRARIES "com/example/bare_container/barecontainer/bench/Workload") (F_ordinal_w_NAMED : Fld Z h0 w_NAMED "java/lang/Enum" "ordinal" "I" (.int (0 : Int32))) (F_ordinal_w_SCANNED_AMONG_LIBRARIES : Fld Z h0 w_SCANNED_AMONG_LIBRARIES "java/lang/Enum" "ordinal" "I" (.int (2 : Int32))) (F_start_w_STARTUP_SCANNED : Fld Z h0 w_STARTUP_SCANNED "com/example/bare_container/barecontainer/bench/Workload" "start" "Lcom/example/bare_container/barecontainer/bench/Workload$Start;" (.ref w_SCANNED)) (F_ordinal_w_SCANNED : Fld Z h0 w_SCANNED "java/lang/Enum" "ordinal" "I" (.int (1 : Int32))) (F_start_w_INSERT_CALL : Fld Z h0 w_INSERT_CALL "com/example/bare_container/barecontainer/bench/Workload" "start" "Lcom/example/bare_container/barecontainer/bench/Workload$Start;" (.ref w_NAMED)) (F_start_w_EMPTY_CALL : Fld Z h0 w_EMPTY_CALL "com/example/bare_container/barecontainer/bench/Workload" "start" "Lcom/example/bare_container/barecontainer/bench/Workload$Start;" (.ref w_NAMED)) (F_start_w_STARTUP : Fld Z h0 w_STARTUP "com/example/bare_container/barecontainer/bench/Workload" "start" "Lcom/example/bare_container/barecontainer/bench/Workload$Start;" (.ref w_NAMED)) (F_start_w_STARTUP_AMONG_LIBRARIES : Fld Z h0 w_STARTUP_AMONG_LIBRARIES "com/example/bare_container/barecontainer/bench/Workload" "start" "Lcom/example/bare_container/barecontainer/bench/Workload$Start;" (.ref w_SCANNED_AMONG_LIBRARIES)) :
    MetFree l x (head1 (Jvm.Cond.code x code maxLocals ret :: ws) room_1) (fun a U => a = #[(.int ip0), (.int ip1)] ∧ Z.Warmed39 U.vm ∧ U.heap = h0) (fun _ _ _ _ _ => True) (fun _ U o U' => ∃ v L, o = .returned v ∧ own_Q0 n0 v U'.heap L ∧ FrameEnd U o U' L room_1.cells room_1.slots) := by
  refine MetFree.of_bodySF (plainFor_of_name own_pn0) hisR ?_
  intro p e s m args below meth c s₁ Bd hml0 hP hK
  obtain ⟨rfl, hZ, hh⟩ := hP
  have hx := Bd.exec
  have hlk := Bd.notSynchronized
  have hret := Bd.returns
  have hby := Bd.bytes
  have hml : c.maxLocals = 7 := hml0
  have hown : s.vm.findClass "com/example/bare_container/barecontainer/bench/StartAmongLibrariesPinLaw" = some m.cls := findClass_of_methodNamed Bd.named
  have hnm := (name_of_methodNamed Bd.named Bd.method).1
  have X0 : Stand p l e room_1 s m #[(.int ip0), (.int ip1)] below meth c s₁ [] 0 0 := Stand.of_body Bd
  have e0 : s₁.heap = h0 := by rw [← hh, Bd.state]; rfl
  have N0 := Fr.nil n0
  refine own_open (Q := own_Q0 n0) (own_ef0 m ip0 ip1) ?_
  show own_Go _ _ _ _ s₁ (mkF m 0 #[.val (.int ip0), .val (.int ip1), .unset, .unset, .unset, .unset, .unset] [])
  refine own_st (fun t k => XS.iloadN X0.here hx rfl (hb hby at_0) rfl k) ?_
  show own_Go _ _ _ _ s₁ (mkF m 1 #[.val (.int ip0), .val (.int ip1), .unset, .unset, .unset, .unset, .unset] [(.int ip0)])
  refine own_st (X0.ldcInt hx hown (mvT hZ (own_w hw 0 rfl)) (g := (mkF m 1 #[.val (.int ip0), .val (.int ip1), .unset, .unset, .unset, .unset, .unset] [(.int ip0)])) rfl (hb hby at_1)) ?_
  show own_Go _ _ _ _ s₁ (mkF m 3 #[.val (.int ip0), .val (.int ip1), .unset, .unset, .unset, .unset, .unset] [(.int (2147483647 : Int32)), (.int ip0)])
  refine own_st (fun t k => XS.iand X0.here hx rfl (hb hby at_3) rfl k) ?_
  show own_Go _ _ _ _ s₁ (mkF m 4 #[.val (.int ip0), .val (.int ip1), .unset, .unset, .unset, .unset, .unset] [(.int (ip0 &&& (2147483647 : Int32)))])
  refine own_st (fun t k => XS.iconst X0.here hx rfl (hb hby at_4) k) ?_
  show own_Go _ _ _ _ s₁ (mkF m 5 #[.val (.int ip0), .val (.int ip1), .unset, .unset, .unset, .unset, .unset] [(.int (3 : Int32)), (.int (ip0 &&& (2147483647 : Int32)))])
  refine own_st (fun t k => iremM X0 hx rfl (hb hby at_5) rfl (by decide) k) ?_
  show own_Go _ _ _ _ s₁ (mkF m 6 #[.val (.int ip0), .val (.int ip1), .unset, .unset, .unset, .unset, .unset] [(.int ((ip0 &&& (2147483647 : Int32)) % (3 : Int32)))])
  rcases own_rem0 ip0 with qr1 | qr1 | qr1
  · rw [qr1]
    show own_Go _ _ _ _ s₁ (mkF m 6 #[.val (.int ip0), .val (.int ip1), .unset, .unset, .unset, .unset, .unset] [(.int (0 : Int32))])
    refine own_st (fun t k => XS.istoreN X0.here hx rfl (hb hby at_6) rfl (l' := #[.val (.int ip0), .val (.int ip1), .val (.int (0 : Int32)), .unset, .unset, .unset, .unset]) rfl k) ?_
    show own_Go _ _ _ _ s₁ (mkF m 7 #[.val (.int ip0), .val (.int ip1), .val (.int (0 : Int32)), .unset, .unset, .unset, .unset] [])
    refine own_st (fun t k => XS.iloadN X0.here hx rfl (hb hby at_7) rfl k) ?_
    show own_Go _ _ _ _ s₁ (mkF m 8 #[.val (.int ip0), .val (.int ip1), .val (.int (0 : Int32)), .unset, .unset, .unset, .unset] [(.int (0 : Int32))])
    obtain ⟨_, _, ⟨T2, L2, k2, n2⟩, -, X2, ⟨Lc2, hQ2, l2, y2, z2⟩, st2⟩ := Jvm.LawKit.callS X0 hx (y := (⟨"com/example/bare_container/barecontainer/bench/StartAmongLibrariesPinLaw", "startOf", "(I)Lcom/example/bare_container/barecontainer/bench/Workload$Start;"⟩ : MethodName)) hown (mvT hZ (own_w hw 1 rfl)) (mvT hZ (own_w hw 2 rfl)) (mvT hZ (own_w hw 3 rfl)) (mvT hZ (own_w hw 4 rfl)) (by decide) (backOf (W := 0) (own_rm1 l Z a0 hw [] (0 : Int32) w_NAMED w_SCANNED w_SCANNED_AMONG_LIBRARIES h0 n0 Z0 S_NAMED S_SCANNED S_SCANNED_AMONG_LIBRARIES) hZ (own_w hw 4 rfl) (own_w hw 3 rfl) (by decide) (by decide)) (g := (mkF m 8 #[.val (.int ip0), .val (.int ip1), .val (.int (0 : Int32)), .unset, .unset, .unset, .unset] [(.int (0 : Int32))])) rfl (by rw [hml]; rfl) (argsL := [(.int (0 : Int32))]) (rest := []) (lenOf own_pd0 rfl) rfl (by show 2 * 0 + _ ≤ _; exact Nat.le_of_eq rfl) (hb hby at_8) (fun _ _ => ⟨rfl, e0, (by decide : 0 + 0 ≤ _), (by decide : 0 + 0 ≤ _)⟩)
    dsimp only [Pt.U, Pt.locs, Pt.cells, Pt.slots] at X2 l2 y2 z2 st2 hQ2
    subst l2 y2 z2
    obtain ⟨N2q, e2, hL2⟩ := hQ2
    have N2 := Fr.app N0 N2q
    rcases hL2 with ⟨rfl, hq2_0_0, -⟩ | ⟨rfl, hq2_1_0, hq2_1_1, -⟩ | ⟨rfl, hq2_2_0, hq2_2_1, -⟩
    · skip
      refine own_st st2 ?_
      show own_Go _ _ _ _ T2 (mkF m 11 #[.val (.int ip0), .val (.int ip1), .val (.int (0 : Int32)), .unset, .unset, .unset, .unset] [(.ref w_NAMED)])
      refine own_st (fun t k => XS.astoreN X2.here hx rfl (hb hby at_11) rfl rfl (l' := #[.val (.int ip0), .val (.int ip1), .val (.int (0 : Int32)), .val (.ref w_NAMED), .unset, .unset, .unset]) rfl k) ?_
      show own_Go _ _ _ _ T2 (mkF m 12 #[.val (.int ip0), .val (.int ip1), .val (.int (0 : Int32)), .val (.ref w_NAMED), .unset, .unset, .unset] [])
      refine own_st (fun t k => XS.aloadN X2.here hx rfl (hb hby at_12) rfl rfl k) ?_
      show own_Go _ _ _ _ T2 (mkF m 13 #[.val (.int ip0), .val (.int ip1), .val (.int (0 : Int32)), .val (.ref w_NAMED), .unset, .unset, .unset] [(.ref w_NAMED)])
      obtain ⟨cq3, kq3, q3a, q3b, q3c⟩ := isOf hZ e2 E_w_NAMED
      obtain ⟨_, _, ⟨T3, L3, k3, n3⟩, -, X3, ⟨Lc3, hQ3, l3, y3, z3⟩, st3⟩ := X2.virtualBack hx (y := (⟨"com/example/bare_container/barecontainer/bench/Workload$Start", "amongLibraries", "()Z"⟩ : MethodName)) (z := (⟨"com/example/bare_container/barecontainer/bench/Workload$Start", "amongLibraries", "()Z"⟩ : MethodName)) hown (mvT hZ (own_w hw 8 rfl)) (mvT hZ (own_w hw 9 rfl)) (notFace_of_selects (args := #[]) (mvT hZ (own_w hw 11 rfl))) (mvT hZ (own_w hw 11 rfl)) (mvT hZ (own_w hw 10 rfl)) (by decide) (backOf (W := 0) (own_rm2 l Z a0 hw [] w_NAMED w_SCANNED_AMONG_LIBRARIES h0 n0 Z0 S_SCANNED_AMONG_LIBRARIES) hZ (own_w hw 12 rfl) (own_w hw 6 rfl) (by decide) (by decide)) q3a q3c (g := (mkF m 13 #[.val (.int ip0), .val (.int ip1), .val (.int (0 : Int32)), .val (.ref w_NAMED), .unset, .unset, .unset] [(.ref w_NAMED)])) rfl (by rw [hml]; rfl) (Steps.refl _) (argsL := []) (rest := []) (lenOf own_pd1 rfl) rfl (by show 2 * 0 + _ ≤ _; exact Nat.le_of_eq rfl) (hb hby at_13) (fun _ _ => ⟨rfl, e2, (by decide : 0 + 0 ≤ _), (by decide : 0 + 0 ≤ _)⟩)
      dsimp only [Pt.U, Pt.locs, Pt.cells, Pt.slots] at X3 l3 y3 z3 st3 hQ3
      subst l3 y3 z3
      obtain ⟨N3q, e3, hL3⟩ := hQ3
      have N3 := Fr.app N2 N3q
      rcases hL3 with ⟨rfl, hq3_0_0, -⟩ | ⟨rfl, hq3_1_0, -⟩
      · skip
        exact absurd hq3_0_0 (Fld.ne F_ordinal_w_NAMED F_ordinal_w_SCANNED_AMONG_LIBRARIES (own_nei (by decide)))
      · skip
        refine own_st (fun t k => st3.trans k) ?_
        show own_Go _ _ _ _ T3 (mkF m 16 #[.val (.int ip0), .val (.int ip1), .val (.int (0 : Int32)), .val (.ref w_NAMED), .unset, .unset, .unset] [(.int (0 : Int32))])
        refine own_st (fun t k => XS.istore X3.here hx rfl (hb hby at_16) rfl (l' := #[.val (.int ip0), .val (.int ip1), .val (.int (0 : Int32)), .val (.ref w_NAMED), .val (.int (0 : Int32)), .unset, .unset]) rfl k) ?_
        show own_Go _ _ _ _ T3 (mkF m 18 #[.val (.int ip0), .val (.int ip1), .val (.int (0 : Int32)), .val (.ref w_NAMED), .val (.int (0 : Int32)), .unset, .unset] [])
        refine own_st (fun t k => XS.iload X3.here hx rfl (hb hby at_18) rfl k) ?_
        show own_Go _ _ _ _ T3 (mkF m 20 #[.val (.int ip0), .val (.int ip1), .val (.int (0 : Int32)), .val (.ref w_NAMED), .val (.int (0 : Int32)), .unset, .unset] [(.int (0 : Int32))])
        refine own_st (fun t k => XS.iloadN X3.here hx rfl (hb hby at_20) rfl k) ?_
        show own_Go _ _ _ _ T3 (mkF m 21 #[.val (.int ip0), .val (.int ip1), .val (.int (0 : Int32)), .val (.ref w_NAMED), .val (.int (0 : Int32)), .unset, .unset] [(.int (0 : Int32)), (.int (0 : Int32))])
        refine own_st (fun t k => XS.iconst X3.here hx rfl (hb hby at_21) k) ?_
        show own_Go _ _ _ _ T3 (mkF m 22 #[.val (.int ip0), .val (.int ip1), .val (.int (0 : Int32)), .val (.ref w_NAMED), .val (.int (0 : Int32)), .unset, .unset] [(.int (2 : Int32)), (.int (0 : Int32)), (.int (0 : Int32))])
        refine own_st (fun t k => XS.icmpYes X3.here hx rfl (pc0 := 22) (pc' := 29) rfl (hb hby at_22) rfl (feq (by decide : ¬ ((0 : Int32) = (2 : Int32)))).2 (by decide) (by decide) k) ?_
        show own_Go _ _ _ _ T3 (mkF m 29 #[.val (.int ip0), .val (.int ip1), .val (.int (0 : Int32)), .val (.ref w_NAMED), .val (.int (0 : Int32)), .unset, .unset] [(.int (0 : Int32))])
        refine own_st (fun t k => XS.iconst X3.here hx rfl (hb hby at_29) k) ?_
        show own_Go _ _ _ _ T3 (mkF m 30 #[.val (.int ip0), .val (.int ip1), .val (.int (0 : Int32)), .val (.ref w_NAMED), .val (.int (0 : Int32)), .unset, .unset] [(.int (0 : Int32)), (.int (0 : Int32))])
        refine own_st (fun t k => XS.icmpYes X3.here hx rfl (pc0 := 30) (pc' := 35) rfl (hb hby at_30) rfl (teq hq2_0_0).1 (by decide) (by decide) k) ?_
        show own_Go _ _ _ _ T3 (mkF m 35 #[.val (.int ip0), .val (.int ip1), .val (.int (0 : Int32)), .val (.ref w_NAMED), .val (.int (0 : Int32)), .unset, .unset] [])
        refine own_st (fun t k => XS.iload X3.here hx rfl (hb hby at_35) rfl k) ?_
        show own_Go _ _ _ _ T3 (mkF m 37 #[.val (.int ip0), .val (.int ip1), .val (.int (0 : Int32)), .val (.ref w_NAMED), .val (.int (0 : Int32)), .unset, .unset] [(.int (0 : Int32))])
        refine own_st (fun t k => XS.ifYes X3.here hx rfl (pc0 := 37) (pc' := 49) rfl (hb hby at_37) rfl ((if0 _ _).trans (teq hq2_0_0).1) (by decide) (by decide) k) ?_
        show own_Go _ _ _ _ T3 (mkF m 49 #[.val (.int ip0), .val (.int ip1), .val (.int (0 : Int32)), .val (.ref w_NAMED), .val (.int (0 : Int32)), .unset, .unset] [])
        refine own_st (fun t k => XS.iloadN X3.here hx rfl (hb hby at_49) rfl k) ?_
        show own_Go _ _ _ _ T3 (mkF m 50 #[.val (.int ip0), .val (.int ip1), .val (.int (0 : Int32)), .val (.ref w_NAMED), .val (.int (0 : Int32)), .unset, .unset] [(.int ip1)])
        refine own_st (X3.ldcInt hx hown (mvT hZ (own_w hw 0 rfl)) (g := (mkF m 50 #[.val (.int ip0), .val (.int ip1), .val (.int (0 : Int32)), .val (.ref w_NAMED), .val (.int (0 : Int32)), .unset, .unset] [(.int ip1)])) rfl (hb hby at_50)) ?_
        show own_Go _ _ _ _ T3 (mkF m 52 #[.val (.int ip0), .val (.int ip1), .val (.int (0 : Int32)), .val (.ref w_NAMED), .val (.int (0 : Int32)), .unset, .unset] [(.int (2147483647 : Int32)), (.int ip1)])
        refine own_st (fun t k => XS.iand X3.here hx rfl (hb hby at_52) rfl k) ?_
        show own_Go _ _ _ _ T3 (mkF m 53 #[.val (.int ip0), .val (.int ip1), .val (.int (0 : Int32)), .val (.ref w_NAMED), .val (.int (0 : Int32)), .unset, .unset] [(.int (ip1 &&& (2147483647 : Int32)))])
        refine own_st (fun t k => XS.iconst X3.here hx rfl (hb hby at_53) k) ?_
        show own_Go _ _ _ _ T3 (mkF m 54 #[.val (.int ip0), .val (.int ip1), .val (.int (0 : Int32)), .val (.ref w_NAMED), .val (.int (0 : Int32)), .unset, .unset] [(.int (5 : Int32)), (.int (ip1 &&& (2147483647 : Int32)))])
        refine own_st (fun t k => iremM X3 hx rfl (hb hby at_54) rfl (by decide) k) ?_
        show own_Go _ _ _ _ T3 (mkF m 55 #[.val (.int ip0), .val (.int ip1), .val (.int (0 : Int32)), .val (.ref w_NAMED), .val (.int (0 : Int32)), .unset, .unset] [(.int ((ip1 &&& (2147483647 : Int32)) % (5 : Int32)))])
        rcases own_rem1 ip1 with qr4 | qr4 | qr4 | qr4 | qr4
        · rw [qr4]
          show own_Go _ _ _ _ T3 (mkF m 55 #[.val (.int ip0), .val (.int ip1), .val (.int (0 : Int32)), .val (.ref w_NAMED), .val (.int (0 : Int32)), .unset, .unset] [(.int (0 : Int32))])
          refine own_st (fun t k => XS.istore X3.here hx rfl (hb hby at_55) rfl (l' := #[.val (.int ip0), .val (.int ip1), .val (.int (0 : Int32)), .val (.ref w_NAMED), .val (.int (0 : Int32)), .val (.int (0 : Int32)), .unset]) rfl k) ?_
          show own_Go _ _ _ _ T3 (mkF m 57 #[.val (.int ip0), .val (.int ip1), .val (.int (0 : Int32)), .val (.ref w_NAMED), .val (.int (0 : Int32)), .val (.int (0 : Int32)), .unset] [])
          refine own_st (fun t k => XS.iload X3.here hx rfl (hb hby at_57) rfl k) ?_
          show own_Go _ _ _ _ T3 (mkF m 59 #[.val (.int ip0), .val (.int ip1), .val (.int (0 : Int32)), .val (.ref w_NAMED), .val (.int (0 : Int32)), .val (.int (0 : Int32)), .unset] [(.int (0 : Int32))])
          obtain ⟨_, _, ⟨T5, L5, k5, n5⟩, -, X5, ⟨Lc5, hQ5, l5, y5, z5⟩, st5⟩ := Jvm.LawKit.callS X3 hx (y := (⟨"com/example/bare_container/barecontainer/bench/StartAmongLibrariesPinLaw", "workloadOf", "(I)Lcom/example/bare_container/barecontainer/bench/Workload;"⟩ : MethodName)) hown (mvT hZ (own_w hw 15 rfl)) (mvT hZ (own_w hw 16 rfl)) (mvT hZ (own_w hw 3 rfl)) (mvT hZ (own_w hw 17 rfl)) (by decide) (backOf (W := 0) (own_rm3 l Z a0 hw [] (0 : Int32) w_EMPTY_CALL w_INSERT_CALL w_STARTUP w_STARTUP_SCANNED w_STARTUP_AMONG_LIBRARIES h0 n0 Z0 S_EMPTY_CALL S_INSERT_CALL S_STARTUP S_STARTUP_SCANNED S_STARTUP_AMONG_LIBRARIES) hZ (own_w hw 17 rfl) (own_w hw 3 rfl) (by decide) (by decide)) (g := (mkF m 59 #[.val (.int ip0), .val (.int ip1), .val (.int (0 : Int32)), .val (.ref w_NAMED), .val (.int (0 : Int32)), .val (.int (0 : Int32)), .unset] [(.int (0 : Int32))])) rfl (by rw [hml]; rfl) (argsL := [(.int (0 : Int32))]) (rest := []) (lenOf own_pd2 rfl) rfl (by show 2 * 0 + _ ≤ _; exact Nat.le_of_eq rfl) (hb hby at_59) (fun _ _ => ⟨rfl, e3, (by decide : 0 + 0 ≤ _), (by decide : 0 + 0 ≤ _)⟩)
          dsimp only [Pt.U, Pt.locs, Pt.cells, Pt.slots] at X5 l5 y5 z5 st5 hQ5
          subst l5 y5 z5
          obtain ⟨N5q, e5, hL5⟩ := hQ5
          have N5 := Fr.app N3 N5q
          rcases hL5 with ⟨rfl, hq5_0_0, -⟩ | ⟨rfl, hq5_1_0, hq5_1_1, -⟩ | ⟨rfl, hq5_2_0, hq5_2_1, hq5_2_2, -⟩ | ⟨rfl, hq5_3_0, hq5_3_1, hq5_3_2, hq5_3_3, -⟩ | ⟨rfl, hq5_4_0, hq5_4_1, hq5_4_2, hq5_4_3, -⟩
          · skip
            refine own_st st5 ?_
            show own_Go _ _ _ _ T5 (mkF m 62 #[.val (.int ip0), .val (.int ip1), .val (.int (0 : Int32)), .val (.ref w_NAMED), .val (.int (0 : Int32)), .val (.int (0 : Int32)), .unset] [(.ref w_EMPTY_CALL)])
            refine own_st (fun t k => XS.astore X5.here hx rfl (hb hby at_62) rfl rfl (l' := #[.val (.int ip0), .val (.int ip1), .val (.int (0 : Int32)), .val (.ref w_NAMED), .val (.int (0 : Int32)), .val (.int (0 : Int32)), .val (.ref w_EMPTY_CALL)]) rfl k) ?_
            show own_Go _ _ _ _ T5 (mkF m 64 #[.val (.int ip0), .val (.int ip1), .val (.int (0 : Int32)), .val (.ref w_NAMED), .val (.int (0 : Int32)), .val (.int (0 : Int32)), .val (.ref w_EMPTY_CALL)] [])
            refine own_st (fun t k => XS.aload X5.here hx rfl (hb hby at_64) rfl rfl k) ?_
            show own_Go _ _ _ _ T5 (mkF m 66 #[.val (.int ip0), .val (.int ip1), .val (.int (0 : Int32)), .val (.ref w_NAMED), .val (.int (0 : Int32)), .val (.int (0 : Int32)), .val (.ref w_EMPTY_CALL)] [(.ref w_EMPTY_CALL)])
            obtain ⟨cq6, kq6, q6a, q6b, q6c⟩ := isOf hZ e5 E_w_EMPTY_CALL
            obtain ⟨_, _, ⟨T6, L6, k6, n6⟩, -, X6, ⟨Lc6, hQ6, l6, y6, z6⟩, st6⟩ := X5.virtualBack hx (y := (⟨"com/example/bare_container/barecontainer/bench/Workload", "start", "()Lcom/example/bare_container/barecontainer/bench/Workload$Start;"⟩ : MethodName)) (z := (⟨"com/example/bare_container/barecontainer/bench/Workload", "start", "()Lcom/example/bare_container/barecontainer/bench/Workload$Start;"⟩ : MethodName)) hown (mvT hZ (own_w hw 21 rfl)) (mvT hZ (own_w hw 22 rfl)) (notFace_of_selects (args := #[]) (mvT hZ (own_w hw 24 rfl))) (mvT hZ (own_w hw 24 rfl)) (mvT hZ (own_w hw 23 rfl)) (by decide) (backOf (W := 0) (own_rm4 l Z a0 hw [] w_EMPTY_CALL w_NAMED h0 n0 Z0 F_start_w_EMPTY_CALL) hZ (own_w hw 25 rfl) (own_w hw 19 rfl) (by decide) (by decide)) q6a q6c (g := (mkF m 66 #[.val (.int ip0), .val (.int ip1), .val (.int (0 : Int32)), .val (.ref w_NAMED), .val (.int (0 : Int32)), .val (.int (0 : Int32)), .val (.ref w_EMPTY_CALL)] [(.ref w_EMPTY_CALL)])) rfl (by rw [hml]; rfl) (Steps.refl _) (argsL := []) (rest := []) (lenOf own_pd3 rfl) rfl (by show 2 * 0 + _ ≤ _; exact Nat.le_of_eq rfl) (hb hby at_66) (fun _ _ => ⟨rfl, e5, (by decide : 0 + 0 ≤ _), (by decide : 0 + 0 ≤ _)⟩)
            dsimp only [Pt.U, Pt.locs, Pt.cells, Pt.slots] at X6 l6 y6 z6 st6 hQ6
            subst l6 y6 z6
            obtain ⟨N6q, e6, hL6⟩ := hQ6
            have N6 := Fr.app N5 N6q
            rcases hL6 with ⟨rfl, -⟩
            · skip
              refine own_st (fun t k => st6.trans k) ?_
              show own_Go _ _ _ _ T6 (mkF m 69 #[.val (.int ip0), .val (.int ip1), .val (.int (0 : Int32)), .val (.ref w_NAMED), .val (.int (0 : Int32)), .val (.int (0 : Int32)), .val (.ref w_EMPTY_CALL)] [(.ref w_NAMED)])
              obtain ⟨cq7, kq7, q7a, q7b, q7c⟩ := isOf hZ e6 E_w_NAMED
              obtain ⟨_, _, ⟨T7, L7, k7, n7⟩, -, X7, ⟨Lc7, hQ7, l7, y7, z7⟩, st7⟩ := X6.virtualBack hx (y := (⟨"com/example/bare_container/barecontainer/bench/Workload$Start", "amongLibraries", "()Z"⟩ : MethodName)) (z := (⟨"com/example/bare_container/barecontainer/bench/Workload$Start", "amongLibraries", "()Z"⟩ : MethodName)) hown (mvT hZ (own_w hw 8 rfl)) (mvT hZ (own_w hw 9 rfl)) (notFace_of_selects (args := #[]) (mvT hZ (own_w hw 11 rfl))) (mvT hZ (own_w hw 11 rfl)) (mvT hZ (own_w hw 10 rfl)) (by decide) (backOf (W := 0) (own_rm2 l Z a0 hw [] w_NAMED w_SCANNED_AMONG_LIBRARIES h0 n0 Z0 S_SCANNED_AMONG_LIBRARIES) hZ (own_w hw 12 rfl) (own_w hw 6 rfl) (by decide) (by decide)) q7a q7c (g := (mkF m 69 #[.val (.int ip0), .val (.int ip1), .val (.int (0 : Int32)), .val (.ref w_NAMED), .val (.int (0 : Int32)), .val (.int (0 : Int32)), .val (.ref w_EMPTY_CALL)] [(.ref w_NAMED)])) rfl (by rw [hml]; rfl) (Steps.refl _) (argsL := []) (rest := []) (lenOf own_pd1 rfl) rfl (by show 2 * 0 + _ ≤ _; exact Nat.le_of_eq rfl) (hb hby at_69) (fun _ _ => ⟨rfl, e6, (by decide : 0 + 0 ≤ _), (by decide : 0 + 0 ≤ _)⟩)
              dsimp only [Pt.U, Pt.locs, Pt.cells, Pt.slots] at X7 l7 y7 z7 st7 hQ7
              subst l7 y7 z7
              obtain ⟨N7q, e7, hL7⟩ := hQ7
              have N7 := Fr.app N6 N7q
              rcases hL7 with ⟨rfl, hq7_0_0, -⟩ | ⟨rfl, hq7_1_0, -⟩
              · skip
                exact absurd hq7_0_0 hq3_1_0
              · skip
                refine own_st (fun t k => st7.trans k) ?_
                show own_Go _ _ _ _ T7 (mkF m 72 #[.val (.int ip0), .val (.int ip1), .val (.int (0 : Int32)), .val (.ref w_NAMED), .val (.int (0 : Int32)), .val (.int (0 : Int32)), .val (.ref w_EMPTY_CALL)] [(.int (0 : Int32))])
                refine own_st (fun t k => XS.iload X7.here hx rfl (hb hby at_72) rfl k) ?_
                show own_Go _ _ _ _ T7 (mkF m 74 #[.val (.int ip0), .val (.int ip1), .val (.int (0 : Int32)), .val (.ref w_NAMED), .val (.int (0 : Int32)), .val (.int (0 : Int32)), .val (.ref w_EMPTY_CALL)] [(.int (0 : Int32)), (.int (0 : Int32))])
                refine own_st (fun t k => XS.iconst X7.here hx rfl (hb hby at_74) k) ?_
                show own_Go _ _ _ _ T7 (mkF m 75 #[.val (.int ip0), .val (.int ip1), .val (.int (0 : Int32)), .val (.ref w_NAMED), .val (.int (0 : Int32)), .val (.int (0 : Int32)), .val (.ref w_EMPTY_CALL)] [(.int (4 : Int32)), (.int (0 : Int32)), (.int (0 : Int32))])
                refine own_st (fun t k => XS.icmpYes X7.here hx rfl (pc0 := 75) (pc' := 82) rfl (hb hby at_75) rfl (feq (by decide : ¬ ((0 : Int32) = (4 : Int32)))).2 (by decide) (by decide) k) ?_
                show own_Go _ _ _ _ T7 (mkF m 82 #[.val (.int ip0), .val (.int ip1), .val (.int (0 : Int32)), .val (.ref w_NAMED), .val (.int (0 : Int32)), .val (.int (0 : Int32)), .val (.ref w_EMPTY_CALL)] [(.int (0 : Int32))])
                refine own_st (fun t k => XS.iconst X7.here hx rfl (hb hby at_82) k) ?_
                show own_Go _ _ _ _ T7 (mkF m 83 #[.val (.int ip0), .val (.int ip1), .val (.int (0 : Int32)), .val (.ref w_NAMED), .val (.int (0 : Int32)), .val (.int (0 : Int32)), .val (.ref w_EMPTY_CALL)] [(.int (0 : Int32)), (.int (0 : Int32))])
                refine own_st (fun t k => XS.icmpNo X7.here hx rfl (hb hby at_83) rfl (teq hq2_0_0).2 k) ?_
                show own_Go _ _ _ _ T7 (mkF m 86 #[.val (.int ip0), .val (.int ip1), .val (.int (0 : Int32)), .val (.ref w_NAMED), .val (.int (0 : Int32)), .val (.int (0 : Int32)), .val (.ref w_EMPTY_CALL)] [])
                refine own_st (fun t k => XS.iconst X7.here hx rfl (hb hby at_86) k) ?_
                show own_Go _ _ _ _ T7 (mkF m 87 #[.val (.int ip0), .val (.int ip1), .val (.int (0 : Int32)), .val (.ref w_NAMED), .val (.int (0 : Int32)), .val (.int (0 : Int32)), .val (.ref w_EMPTY_CALL)] [(.int (1 : Int32))])
                refine own_st (fun t k => XS.goto X7.here hx rfl (pc0 := 87) (pc' := 91) rfl (hb hby at_87) (by decide) (by decide) k) ?_
                show own_Go _ _ _ _ T7 (mkF m 91 #[.val (.int ip0), .val (.int ip1), .val (.int (0 : Int32)), .val (.ref w_NAMED), .val (.int (0 : Int32)), .val (.int (0 : Int32)), .val (.ref w_EMPTY_CALL)] [(.int (1 : Int32))])
                exact own_retZ X7 hx hlk (t := .boolean) hret (by simp) (hb hby at_91) (by decide) (by decide) e7 ⟨rfl, N7⟩
          · skip
            exact absurd hq2_0_0 hq5_1_0
          · skip
            exact absurd hq2_0_0 hq5_2_0
          · skip
            exact absurd hq2_0_0 hq5_3_0
          · skip
            exact absurd hq2_0_0 hq5_4_0
        · rw [qr4]
          show own_Go _ _ _ _ T3 (mkF m 55 #[.val (.int ip0), .val (.int ip1), .val (.int (0 : Int32)), .val (.ref w_NAMED), .val (.int (0 : Int32)), .unset, .unset] [(.int (1 : Int32))])
          refine own_st (fun t k => XS.istore X3.here hx rfl (hb hby at_55) rfl (l' := #[.val (.int ip0), .val (.int ip1), .val (.int (0 : Int32)), .val (.ref w_NAMED), .val (.int (0 : Int32)), .val (.int (1 : Int32)), .unset]) rfl k) ?_
          show own_Go _ _ _ _ T3 (mkF m 57 #[.val (.int ip0), .val (.int ip1), .val (.int (0 : Int32)), .val (.ref w_NAMED), .val (.int (0 : Int32)), .val (.int (1 : Int32)), .unset] [])
          refine own_st (fun t k => XS.iload X3.here hx rfl (hb hby at_57) rfl k) ?_
          show own_Go _ _ _ _ T3 (mkF m 59 #[.val (.int ip0), .val (.int ip1), .val (.int (0 : Int32)), .val (.ref w_NAMED), .val (.int (0 : Int32)), .val (.int (1 : Int32)), .unset] [(.int (1 : Int32))])
          obtain ⟨_, _, ⟨T8, L8, k8, n8⟩, -, X8, ⟨Lc8, hQ8, l8, y8, z8⟩, st8⟩ := Jvm.LawKit.callS X3 hx (y := (⟨"com/example/bare_container/barecontainer/bench/StartAmongLibrariesPinLaw", "workloadOf", "(I)Lcom/example/bare_container/barecontainer/bench/Workload;"⟩ : MethodName)) hown (mvT hZ (own_w hw 15 rfl)) (mvT hZ (own_w hw 16 rfl)) (mvT hZ (own_w hw 3 rfl)) (mvT hZ (own_w hw 17 rfl)) (by decide) (backOf (W := 0) (own_rm3 l Z a0 hw [] (1 : Int32) w_EMPTY_CALL w_INSERT_CALL w_STARTUP w_STARTUP_SCANNED w_STARTUP_AMONG_LIBRARIES h0 n0 Z0 S_EMPTY_CALL S_INSERT_CALL S_STARTUP S_STARTUP_SCANNED S_STARTUP_AMONG_LIBRARIES) hZ (own_w hw 17 rfl) (own_w hw 3 rfl) (by decide) (by decide)) (g := (mkF m 59 #[.val (.int ip0), .val (.int ip1), .val (.int (0 : Int32)), .val (.ref w_NAMED), .val (.int (0 : Int32)), .val (.int (1 : Int32)), .unset] [(.int (1 : Int32))])) rfl (by rw [hml]; rfl) (argsL := [(.int (1 : Int32))]) (rest := []) (lenOf own_pd2 rfl) rfl (by show 2 * 0 + _ ≤ _; exact Nat.le_of_eq rfl) (hb hby at_59) (fun _ _ => ⟨rfl, e3, (by decide : 0 + 0 ≤ _), (by decide : 0 + 0 ≤ _)⟩)
          dsimp only [Pt.U, Pt.locs, Pt.cells, Pt.slots] at X8 l8 y8 z8 st8 hQ8
          subst l8 y8 z8
          obtain ⟨N8q, e8, hL8⟩ := hQ8
          have N8 := Fr.app N3 N8q
          rcases hL8 with ⟨rfl, hq8_0_0, -⟩ | ⟨rfl, hq8_1_0, hq8_1_1, -⟩ | ⟨rfl, hq8_2_0, hq8_2_1, hq8_2_2, -⟩ | ⟨rfl, hq8_3_0, hq8_3_1, hq8_3_2, hq8_3_3, -⟩ | ⟨rfl, hq8_4_0, hq8_4_1, hq8_4_2, hq8_4_3, -⟩
          · skip
            exact absurd hq8_0_0 (by decide : ¬ ((1 : Int32) = (0 : Int32)))
          · skip
            refine own_st st8 ?_
            show own_Go _ _ _ _ T8 (mkF m 62 #[.val (.int ip0), .val (.int ip1), .val (.int (0 : Int32)), .val (.ref w_NAMED), .val (.int (0 : Int32)), .val (.int (1 : Int32)), .unset] [(.ref w_INSERT_CALL)])
            refine own_st (fun t k => XS.astore X8.here hx rfl (hb hby at_62) rfl rfl (l' := #[.val (.int ip0), .val (.int ip1), .val (.int (0 : Int32)), .val (.ref w_NAMED), .val (.int (0 : Int32)), .val (.int (1 : Int32)), .val (.ref w_INSERT_CALL)]) rfl k) ?_
            show own_Go _ _ _ _ T8 (mkF m 64 #[.val (.int ip0), .val (.int ip1), .val (.int (0 : Int32)), .val (.ref w_NAMED), .val (.int (0 : Int32)), .val (.int (1 : Int32)), .val (.ref w_INSERT_CALL)] [])
            refine own_st (fun t k => XS.aload X8.here hx rfl (hb hby at_64) rfl rfl k) ?_
            show own_Go _ _ _ _ T8 (mkF m 66 #[.val (.int ip0), .val (.int ip1), .val (.int (0 : Int32)), .val (.ref w_NAMED), .val (.int (0 : Int32)), .val (.int (1 : Int32)), .val (.ref w_INSERT_CALL)] [(.ref w_INSERT_CALL)])
            obtain ⟨cq9, kq9, q9a, q9b, q9c⟩ := isOf hZ e8 E_w_INSERT_CALL
            obtain ⟨_, _, ⟨T9, L9, k9, n9⟩, -, X9, ⟨Lc9, hQ9, l9, y9, z9⟩, st9⟩ := X8.virtualBack hx (y := (⟨"com/example/bare_container/barecontainer/bench/Workload", "start", "()Lcom/example/bare_container/barecontainer/bench/Workload$Start;"⟩ : MethodName)) (z := (⟨"com/example/bare_container/barecontainer/bench/Workload", "start", "()Lcom/example/bare_container/barecontainer/bench/Workload$Start;"⟩ : MethodName)) hown (mvT hZ (own_w hw 21 rfl)) (mvT hZ (own_w hw 22 rfl)) (notFace_of_selects (args := #[]) (mvT hZ (own_w hw 24 rfl))) (mvT hZ (own_w hw 24 rfl)) (mvT hZ (own_w hw 23 rfl)) (by decide) (backOf (W := 0) (own_rm4 l Z a0 hw [] w_INSERT_CALL w_NAMED h0 n0 Z0 F_start_w_INSERT_CALL) hZ (own_w hw 25 rfl) (own_w hw 19 rfl) (by decide) (by decide)) q9a q9c (g := (mkF m 66 #[.val (.int ip0), .val (.int ip1), .val (.int (0 : Int32)), .val (.ref w_NAMED), .val (.int (0 : Int32)), .val (.int (1 : Int32)), .val (.ref w_INSERT_CALL)] [(.ref w_INSERT_CALL)])) rfl (by rw [hml]; rfl) (Steps.refl _) (argsL := []) (rest := []) (lenOf own_pd3 rfl) rfl (by show 2 * 0 + _ ≤ _; exact Nat.le_of_eq rfl) (hb hby at_66) (fun _ _ => ⟨rfl, e8, (by decide : 0 + 0 ≤ _), (by decide : 0 + 0 ≤ _)⟩)
            dsimp only [Pt.U, Pt.locs, Pt.cells, Pt.slots] at X9 l9 y9 z9 st9 hQ9
            subst l9 y9 z9
            obtain ⟨N9q, e9, hL9⟩ := hQ9
            have N9 := Fr.app N8 N9q
            rcases hL9 with ⟨rfl, -⟩
            · skip
              refine own_st (fun t k => st9.trans k) ?_
              show own_Go _ _ _ _ T9 (mkF m 69 #[.val (.int ip0), .val (.int ip1), .val (.int (0 : Int32)), .val (.ref w_NAMED), .val (.int (0 : Int32)), .val (.int (1 : Int32)), .val (.ref w_INSERT_CALL)] [(.ref w_NAMED)])
              obtain ⟨cq10, kq10, q10a, q10b, q10c⟩ := isOf hZ e9 E_w_NAMED
              obtain ⟨_, _, ⟨T10, L10, k10, n10⟩, -, X10, ⟨Lc10, hQ10, l10, y10, z10⟩, st10⟩ := X9.virtualBack hx (y := (⟨"com/example/bare_container/barecontainer/bench/Workload$Start", "amongLibraries", "()Z"⟩ : MethodName)) (z := (⟨"com/example/bare_container/barecontainer/bench/Workload$Start", "amongLibraries", "()Z"⟩ : MethodName)) hown (mvT hZ (own_w hw 8 rfl)) (mvT hZ (own_w hw 9 rfl)) (notFace_of_selects (args := #[]) (mvT hZ (own_w hw 11 rfl))) (mvT hZ (own_w hw 11 rfl)) (mvT hZ (own_w hw 10 rfl)) (by decide) (backOf (W := 0) (own_rm2 l Z a0 hw [] w_NAMED w_SCANNED_AMONG_LIBRARIES h0 n0 Z0 S_SCANNED_AMONG_LIBRARIES) hZ (own_w hw 12 rfl) (own_w hw 6 rfl) (by decide) (by decide)) q10a q10c (g := (mkF m 69 #[.val (.int ip0), .val (.int ip1), .val (.int (0 : Int32)), .val (.ref w_NAMED), .val (.int (0 : Int32)), .val (.int (1 : Int32)), .val (.ref w_INSERT_CALL)] [(.ref w_NAMED)])) rfl (by rw [hml]; rfl) (Steps.refl _) (argsL := []) (rest := []) (lenOf own_pd1 rfl) rfl (by show 2 * 0 + _ ≤ _; exact Nat.le_of_eq rfl) (hb hby at_69) (fun _ _ => ⟨rfl, e9, (by decide : 0 + 0 ≤ _), (by decide : 0 + 0 ≤ _)⟩)
              dsimp only [Pt.U, Pt.locs, Pt.cells, Pt.slots] at X10 l10 y10 z10 st10 hQ10
              subst l10 y10 z10
              obtain ⟨N10q, e10, hL10⟩ := hQ10
              have N10 := Fr.app N9 N10q
              rcases hL10 with ⟨rfl, hq10_0_0, -⟩ | ⟨rfl, hq10_1_0, -⟩
              · skip
                exact absurd hq10_0_0 hq3_1_0
              · skip
                refine own_st (fun t k => st10.trans k) ?_
                show own_Go _ _ _ _ T10 (mkF m 72 #[.val (.int ip0), .val (.int ip1), .val (.int (0 : Int32)), .val (.ref w_NAMED), .val (.int (0 : Int32)), .val (.int (1 : Int32)), .val (.ref w_INSERT_CALL)] [(.int (0 : Int32))])
                refine own_st (fun t k => XS.iload X10.here hx rfl (hb hby at_72) rfl k) ?_
                show own_Go _ _ _ _ T10 (mkF m 74 #[.val (.int ip0), .val (.int ip1), .val (.int (0 : Int32)), .val (.ref w_NAMED), .val (.int (0 : Int32)), .val (.int (1 : Int32)), .val (.ref w_INSERT_CALL)] [(.int (1 : Int32)), (.int (0 : Int32))])
                refine own_st (fun t k => XS.iconst X10.here hx rfl (hb hby at_74) k) ?_
                show own_Go _ _ _ _ T10 (mkF m 75 #[.val (.int ip0), .val (.int ip1), .val (.int (0 : Int32)), .val (.ref w_NAMED), .val (.int (0 : Int32)), .val (.int (1 : Int32)), .val (.ref w_INSERT_CALL)] [(.int (4 : Int32)), (.int (1 : Int32)), (.int (0 : Int32))])
                refine own_st (fun t k => XS.icmpYes X10.here hx rfl (pc0 := 75) (pc' := 82) rfl (hb hby at_75) rfl (feq (by decide : ¬ ((1 : Int32) = (4 : Int32)))).2 (by decide) (by decide) k) ?_
                show own_Go _ _ _ _ T10 (mkF m 82 #[.val (.int ip0), .val (.int ip1), .val (.int (0 : Int32)), .val (.ref w_NAMED), .val (.int (0 : Int32)), .val (.int (1 : Int32)), .val (.ref w_INSERT_CALL)] [(.int (0 : Int32))])
                refine own_st (fun t k => XS.iconst X10.here hx rfl (hb hby at_82) k) ?_
                show own_Go _ _ _ _ T10 (mkF m 83 #[.val (.int ip0), .val (.int ip1), .val (.int (0 : Int32)), .val (.ref w_NAMED), .val (.int (0 : Int32)), .val (.int (1 : Int32)), .val (.ref w_INSERT_CALL)] [(.int (0 : Int32)), (.int (0 : Int32))])
                refine own_st (fun t k => XS.icmpNo X10.here hx rfl (hb hby at_83) rfl (teq hq2_0_0).2 k) ?_
                show own_Go _ _ _ _ T10 (mkF m 86 #[.val (.int ip0), .val (.int ip1), .val (.int (0 : Int32)), .val (.ref w_NAMED), .val (.int (0 : Int32)), .val (.int (1 : Int32)), .val (.ref w_INSERT_CALL)] [])
                refine own_st (fun t k => XS.iconst X10.here hx rfl (hb hby at_86) k) ?_
                show own_Go _ _ _ _ T10 (mkF m 87 #[.val (.int ip0), .val (.int ip1), .val (.int (0 : Int32)), .val (.ref w_NAMED), .val (.int (0 : Int32)), .val (.int (1 : Int32)), .val (.ref w_INSERT_CALL)] [(.int (1 : Int32))])
                refine own_st (fun t k => XS.goto X10.here hx rfl (pc0 := 87) (pc' := 91) rfl (hb hby at_87) (by decide) (by decide) k) ?_
                show own_Go _ _ _ _ T10 (mkF m 91 #[.val (.int ip0), .val (.int ip1), .val (.int (0 : Int32)), .val (.ref w_NAMED), .val (.int (0 : Int32)), .val (.int (1 : Int32)), .val (.ref w_INSERT_CALL)] [(.int (1 : Int32))])
                exact own_retZ X10 hx hlk (t := .boolean) hret (by simp) (hb hby at_91) (by decide) (by decide) e10 ⟨rfl, N10⟩
          · skip
            exact absurd (by decide : (1 : Int32) = (1 : Int32)) hq8_2_1
          · skip
            exact absurd (by decide : (1 : Int32) = (1 : Int32)) hq8_3_1
          · skip
            exact absurd (by decide : (1 : Int32) = (1 : Int32)) hq8_4_1
        · rw [qr4]
          show own_Go _ _ _ _ T3 (mkF m 55 #[.val (.int ip0), .val (.int ip1), .val (.int (0 : Int32)), .val (.ref w_NAMED), .val (.int (0 : Int32)), .unset, .unset] [(.int (2 : Int32))])
          refine own_st (fun t k => XS.istore X3.here hx rfl (hb hby at_55) rfl (l' := #[.val (.int ip0), .val (.int ip1), .val (.int (0 : Int32)), .val (.ref w_NAMED), .val (.int (0 : Int32)), .val (.int (2 : Int32)), .unset]) rfl k) ?_
          show own_Go _ _ _ _ T3 (mkF m 57 #[.val (.int ip0), .val (.int ip1), .val (.int (0 : Int32)), .val (.ref w_NAMED), .val (.int (0 : Int32)), .val (.int (2 : Int32)), .unset] [])
          refine own_st (fun t k => XS.iload X3.here hx rfl (hb hby at_57) rfl k) ?_
          show own_Go _ _ _ _ T3 (mkF m 59 #[.val (.int ip0), .val (.int ip1), .val (.int (0 : Int32)), .val (.ref w_NAMED), .val (.int (0 : Int32)), .val (.int (2 : Int32)), .unset] [(.int (2 : Int32))])
          obtain ⟨_, _, ⟨T11, L11, k11, n11⟩, -, X11, ⟨Lc11, hQ11, l11, y11, z11⟩, st11⟩ := Jvm.LawKit.callS X3 hx (y := (⟨"com/example/bare_container/barecontainer/bench/StartAmongLibrariesPinLaw", "workloadOf", "(I)Lcom/example/bare_container/barecontainer/bench/Workload;"⟩ : MethodName)) hown (mvT hZ (own_w hw 15 rfl)) (mvT hZ (own_w hw 16 rfl)) (mvT hZ (own_w hw 3 rfl)) (mvT hZ (own_w hw 17 rfl)) (by decide) (backOf (W := 0) (own_rm3 l Z a0 hw [] (2 : Int32) w_EMPTY_CALL w_INSERT_CALL w_STARTUP w_STARTUP_SCANNED w_STARTUP_AMONG_LIBRARIES h0 n0 Z0 S_EMPTY_CALL S_INSERT_CALL S_STARTUP S_STARTUP_SCANNED S_STARTUP_AMONG_LIBRARIES) hZ (own_w hw 17 rfl) (own_w hw 3 rfl) (by decide) (by decide)) (g := (mkF m 59 #[.val (.int ip0), .val (.int ip1), .val (.int (0 : Int32)), .val (.ref w_NAMED), .val (.int (0 : Int32)), .val (.int (2 : Int32)), .unset] [(.int (2 : Int32))])) rfl (by rw [hml]; rfl) (argsL := [(.int (2 : Int32))]) (rest := []) (lenOf own_pd2 rfl) rfl (by show 2 * 0 + _ ≤ _; exact Nat.le_of_eq rfl) (hb hby at_59) (fun _ _ => ⟨rfl, e3, (by decide : 0 + 0 ≤ _), (by decide : 0 + 0 ≤ _)⟩)
          dsimp only [Pt.U, Pt.locs, Pt.cells, Pt.slots] at X11 l11 y11 z11 st11 hQ11
          subst l11 y11 z11
          obtain ⟨N11q, e11, hL11⟩ := hQ11
          have N11 := Fr.app N3 N11q
          rcases hL11 with ⟨rfl, hq11_0_0, -⟩ | ⟨rfl, hq11_1_0, hq11_1_1, -⟩ | ⟨rfl, hq11_2_0, hq11_2_1, hq11_2_2, -⟩ | ⟨rfl, hq11_3_0, hq11_3_1, hq11_3_2, hq11_3_3, -⟩ | ⟨rfl, hq11_4_0, hq11_4_1, hq11_4_2, hq11_4_3, -⟩
          · skip
            exact absurd hq11_0_0 (by decide : ¬ ((2 : Int32) = (0 : Int32)))
          · skip
            exact absurd hq11_1_1 (by decide : ¬ ((2 : Int32) = (1 : Int32)))
          · skip
            refine own_st st11 ?_
            show own_Go _ _ _ _ T11 (mkF m 62 #[.val (.int ip0), .val (.int ip1), .val (.int (0 : Int32)), .val (.ref w_NAMED), .val (.int (0 : Int32)), .val (.int (2 : Int32)), .unset] [(.ref w_STARTUP)])
            refine own_st (fun t k => XS.astore X11.here hx rfl (hb hby at_62) rfl rfl (l' := #[.val (.int ip0), .val (.int ip1), .val (.int (0 : Int32)), .val (.ref w_NAMED), .val (.int (0 : Int32)), .val (.int (2 : Int32)), .val (.ref w_STARTUP)]) rfl k) ?_
            show own_Go _ _ _ _ T11 (mkF m 64 #[.val (.int ip0), .val (.int ip1), .val (.int (0 : Int32)), .val (.ref w_NAMED), .val (.int (0 : Int32)), .val (.int (2 : Int32)), .val (.ref w_STARTUP)] [])
            refine own_st (fun t k => XS.aload X11.here hx rfl (hb hby at_64) rfl rfl k) ?_
            show own_Go _ _ _ _ T11 (mkF m 66 #[.val (.int ip0), .val (.int ip1), .val (.int (0 : Int32)), .val (.ref w_NAMED), .val (.int (0 : Int32)), .val (.int (2 : Int32)), .val (.ref w_STARTUP)] [(.ref w_STARTUP)])
            obtain ⟨cq12, kq12, q12a, q12b, q12c⟩ := isOf hZ e11 E_w_STARTUP
            obtain ⟨_, _, ⟨T12, L12, k12, n12⟩, -, X12, ⟨Lc12, hQ12, l12, y12, z12⟩, st12⟩ := X11.virtualBack hx (y := (⟨"com/example/bare_container/barecontainer/bench/Workload", "start", "()Lcom/example/bare_container/barecontainer/bench/Workload$Start;"⟩ : MethodName)) (z := (⟨"com/example/bare_container/barecontainer/bench/Workload", "start", "()Lcom/example/bare_container/barecontainer/bench/Workload$Start;"⟩ : MethodName)) hown (mvT hZ (own_w hw 21 rfl)) (mvT hZ (own_w hw 22 rfl)) (notFace_of_selects (args := #[]) (mvT hZ (own_w hw 24 rfl))) (mvT hZ (own_w hw 24 rfl)) (mvT hZ (own_w hw 23 rfl)) (by decide) (backOf (W := 0) (own_rm4 l Z a0 hw [] w_STARTUP w_NAMED h0 n0 Z0 F_start_w_STARTUP) hZ (own_w hw 25 rfl) (own_w hw 19 rfl) (by decide) (by decide)) q12a q12c (g := (mkF m 66 #[.val (.int ip0), .val (.int ip1), .val (.int (0 : Int32)), .val (.ref w_NAMED), .val (.int (0 : Int32)), .val (.int (2 : Int32)), .val (.ref w_STARTUP)] [(.ref w_STARTUP)])) rfl (by rw [hml]; rfl) (Steps.refl _) (argsL := []) (rest := []) (lenOf own_pd3 rfl) rfl (by show 2 * 0 + _ ≤ _; exact Nat.le_of_eq rfl) (hb hby at_66) (fun _ _ => ⟨rfl, e11, (by decide : 0 + 0 ≤ _), (by decide : 0 + 0 ≤ _)⟩)
            dsimp only [Pt.U, Pt.locs, Pt.cells, Pt.slots] at X12 l12 y12 z12 st12 hQ12
            subst l12 y12 z12
            obtain ⟨N12q, e12, hL12⟩ := hQ12
            have N12 := Fr.app N11 N12q
            rcases hL12 with ⟨rfl, -⟩
            · skip
              refine own_st (fun t k => st12.trans k) ?_
              show own_Go _ _ _ _ T12 (mkF m 69 #[.val (.int ip0), .val (.int ip1), .val (.int (0 : Int32)), .val (.ref w_NAMED), .val (.int (0 : Int32)), .val (.int (2 : Int32)), .val (.ref w_STARTUP)] [(.ref w_NAMED)])
              obtain ⟨cq13, kq13, q13a, q13b, q13c⟩ := isOf hZ e12 E_w_NAMED
              obtain ⟨_, _, ⟨T13, L13, k13, n13⟩, -, X13, ⟨Lc13, hQ13, l13, y13, z13⟩, st13⟩ := X12.virtualBack hx (y := (⟨"com/example/bare_container/barecontainer/bench/Workload$Start", "amongLibraries", "()Z"⟩ : MethodName)) (z := (⟨"com/example/bare_container/barecontainer/bench/Workload$Start", "amongLibraries", "()Z"⟩ : MethodName)) hown (mvT hZ (own_w hw 8 rfl)) (mvT hZ (own_w hw 9 rfl)) (notFace_of_selects (args := #[]) (mvT hZ (own_w hw 11 rfl))) (mvT hZ (own_w hw 11 rfl)) (mvT hZ (own_w hw 10 rfl)) (by decide) (backOf (W := 0) (own_rm2 l Z a0 hw [] w_NAMED w_SCANNED_AMONG_LIBRARIES h0 n0 Z0 S_SCANNED_AMONG_LIBRARIES) hZ (own_w hw 12 rfl) (own_w hw 6 rfl) (by decide) (by decide)) q13a q13c (g := (mkF m 69 #[.val (.int ip0), .val (.int ip1), .val (.int (0 : Int32)), .val (.ref w_NAMED), .val (.int (0 : Int32)), .val (.int (2 : Int32)), .val (.ref w_STARTUP)] [(.ref w_NAMED)])) rfl (by rw [hml]; rfl) (Steps.refl _) (argsL := []) (rest := []) (lenOf own_pd1 rfl) rfl (by show 2 * 0 + _ ≤ _; exact Nat.le_of_eq rfl) (hb hby at_69) (fun _ _ => ⟨rfl, e12, (by decide : 0 + 0 ≤ _), (by decide : 0 + 0 ≤ _)⟩)
              dsimp only [Pt.U, Pt.locs, Pt.cells, Pt.slots] at X13 l13 y13 z13 st13 hQ13
              subst l13 y13 z13
              obtain ⟨N13q, e13, hL13⟩ := hQ13
              have N13 := Fr.app N12 N13q
              rcases hL13 with ⟨rfl, hq13_0_0, -⟩ | ⟨rfl, hq13_1_0, -⟩
              · skip
                exact absurd hq13_0_0 hq3_1_0
              · skip
                refine own_st (fun t k => st13.trans k) ?_
                show own_Go _ _ _ _ T13 (mkF m 72 #[.val (.int ip0), .val (.int ip1), .val (.int (0 : Int32)), .val (.ref w_NAMED), .val (.int (0 : Int32)), .val (.int (2 : Int32)), .val (.ref w_STARTUP)] [(.int (0 : Int32))])
                refine own_st (fun t k => XS.iload X13.here hx rfl (hb hby at_72) rfl k) ?_
                show own_Go _ _ _ _ T13 (mkF m 74 #[.val (.int ip0), .val (.int ip1), .val (.int (0 : Int32)), .val (.ref w_NAMED), .val (.int (0 : Int32)), .val (.int (2 : Int32)), .val (.ref w_STARTUP)] [(.int (2 : Int32)), (.int (0 : Int32))])
                refine own_st (fun t k => XS.iconst X13.here hx rfl (hb hby at_74) k) ?_
                show own_Go _ _ _ _ T13 (mkF m 75 #[.val (.int ip0), .val (.int ip1), .val (.int (0 : Int32)), .val (.ref w_NAMED), .val (.int (0 : Int32)), .val (.int (2 : Int32)), .val (.ref w_STARTUP)] [(.int (4 : Int32)), (.int (2 : Int32)), (.int (0 : Int32))])
                refine own_st (fun t k => XS.icmpYes X13.here hx rfl (pc0 := 75) (pc' := 82) rfl (hb hby at_75) rfl (feq (by decide : ¬ ((2 : Int32) = (4 : Int32)))).2 (by decide) (by decide) k) ?_
                show own_Go _ _ _ _ T13 (mkF m 82 #[.val (.int ip0), .val (.int ip1), .val (.int (0 : Int32)), .val (.ref w_NAMED), .val (.int (0 : Int32)), .val (.int (2 : Int32)), .val (.ref w_STARTUP)] [(.int (0 : Int32))])
                refine own_st (fun t k => XS.iconst X13.here hx rfl (hb hby at_82) k) ?_
                show own_Go _ _ _ _ T13 (mkF m 83 #[.val (.int ip0), .val (.int ip1), .val (.int (0 : Int32)), .val (.ref w_NAMED), .val (.int (0 : Int32)), .val (.int (2 : Int32)), .val (.ref w_STARTUP)] [(.int (0 : Int32)), (.int (0 : Int32))])
                refine own_st (fun t k => XS.icmpNo X13.here hx rfl (hb hby at_83) rfl (teq hq2_0_0).2 k) ?_
                show own_Go _ _ _ _ T13 (mkF m 86 #[.val (.int ip0), .val (.int ip1), .val (.int (0 : Int32)), .val (.ref w_NAMED), .val (.int (0 : Int32)), .val (.int (2 : Int32)), .val (.ref w_STARTUP)] [])
                refine own_st (fun t k => XS.iconst X13.here hx rfl (hb hby at_86) k) ?_
                show own_Go _ _ _ _ T13 (mkF m 87 #[.val (.int ip0), .val (.int ip1), .val (.int (0 : Int32)), .val (.ref w_NAMED), .val (.int (0 : Int32)), .val (.int (2 : Int32)), .val (.ref w_STARTUP)] [(.int (1 : Int32))])
                refine own_st (fun t k => XS.goto X13.here hx rfl (pc0 := 87) (pc' := 91) rfl (hb hby at_87) (by decide) (by decide) k) ?_
                show own_Go _ _ _ _ T13 (mkF m 91 #[.val (.int ip0), .val (.int ip1), .val (.int (0 : Int32)), .val (.ref w_NAMED), .val (.int (0 : Int32)), .val (.int (2 : Int32)), .val (.ref w_STARTUP)] [(.int (1 : Int32))])
                exact own_retZ X13 hx hlk (t := .boolean) hret (by simp) (hb hby at_91) (by decide) (by decide) e13 ⟨rfl, N13⟩
          · skip
            exact absurd (by decide : (2 : Int32) = (2 : Int32)) hq11_3_2
          · skip
            exact absurd (by decide : (2 : Int32) = (2 : Int32)) hq11_4_2
        · rw [qr4]
          show own_Go _ _ _ _ T3 (mkF m 55 #[.val (.int ip0), .val (.int ip1), .val (.int (0 : Int32)), .val (.ref w_NAMED), .val (.int (0 : Int32)), .unset, .unset] [(.int (3 : Int32))])
          refine own_st (fun t k => XS.istore X3.here hx rfl (hb hby at_55) rfl (l' := #[.val (.int ip0), .val (.int ip1), .val (.int (0 : Int32)), .val (.ref w_NAMED), .val (.int (0 : Int32)), .val (.int (3 : Int32)), .unset]) rfl k) ?_
          show own_Go _ _ _ _ T3 (mkF m 57 #[.val (.int ip0), .val (.int ip1), .val (.int (0 : Int32)), .val (.ref w_NAMED), .val (.int (0 : Int32)), .val (.int (3 : Int32)), .unset] [])
          refine own_st (fun t k => XS.iload X3.here hx rfl (hb hby at_57) rfl k) ?_
          show own_Go _ _ _ _ T3 (mkF m 59 #[.val (.int ip0), .val (.int ip1), .val (.int (0 : Int32)), .val (.ref w_NAMED), .val (.int (0 : Int32)), .val (.int (3 : Int32)), .unset] [(.int (3 : Int32))])
          obtain ⟨_, _, ⟨T14, L14, k14, n14⟩, -, X14, ⟨Lc14, hQ14, l14, y14, z14⟩, st14⟩ := Jvm.LawKit.callS X3 hx (y := (⟨"com/example/bare_container/barecontainer/bench/StartAmongLibrariesPinLaw", "workloadOf", "(I)Lcom/example/bare_container/barecontainer/bench/Workload;"⟩ : MethodName)) hown (mvT hZ (own_w hw 15 rfl)) (mvT hZ (own_w hw 16 rfl)) (mvT hZ (own_w hw 3 rfl)) (mvT hZ (own_w hw 17 rfl)) (by decide) (backOf (W := 0) (own_rm3 l Z a0 hw [] (3 : Int32) w_EMPTY_CALL w_INSERT_CALL w_STARTUP w_STARTUP_SCANNED w_STARTUP_AMONG_LIBRARIES h0 n0 Z0 S_EMPTY_CALL S_INSERT_CALL S_STARTUP S_STARTUP_SCANNED S_STARTUP_AMONG_LIBRARIES) hZ (own_w hw 17 rfl) (own_w hw 3 rfl) (by decide) (by decide)) (g := (mkF m 59 #[.val (.int ip0), .val (.int ip1), .val (.int (0 : Int32)), .val (.ref w_NAMED), .val (.int (0 : Int32)), .val (.int (3 : Int32)), .unset] [(.int (3 : Int32))])) rfl (by rw [hml]; rfl) (argsL := [(.int (3 : Int32))]) (rest := []) (lenOf own_pd2 rfl) rfl (by show 2 * 0 + _ ≤ _; exact Nat.le_of_eq rfl) (hb hby at_59) (fun _ _ => ⟨rfl, e3, (by decide : 0 + 0 ≤ _), (by decide : 0 + 0 ≤ _)⟩)
          dsimp only [Pt.U, Pt.locs, Pt.cells, Pt.slots] at X14 l14 y14 z14 st14 hQ14
          subst l14 y14 z14
          obtain ⟨N14q, e14, hL14⟩ := hQ14
          have N14 := Fr.app N3 N14q
          rcases hL14 with ⟨rfl, hq14_0_0, -⟩ | ⟨rfl, hq14_1_0, hq14_1_1, -⟩ | ⟨rfl, hq14_2_0, hq14_2_1, hq14_2_2, -⟩ | ⟨rfl, hq14_3_0, hq14_3_1, hq14_3_2, hq14_3_3, -⟩ | ⟨rfl, hq14_4_0, hq14_4_1, hq14_4_2, hq14_4_3, -⟩
          · skip
            exact absurd hq14_0_0 (by decide : ¬ ((3 : Int32) = (0 : Int32)))
          · skip
            exact absurd hq14_1_1 (by decide : ¬ ((3 : Int32) = (1 : Int32)))
          · skip
            exact absurd hq14_2_2 (by decide : ¬ ((3 : Int32) = (2 : Int32)))
          · skip
            refine own_st st14 ?_
            show own_Go _ _ _ _ T14 (mkF m 62 #[.val (.int ip0), .val (.int ip1), .val (.int (0 : Int32)), .val (.ref w_NAMED), .val (.int (0 : Int32)), .val (.int (3 : Int32)), .unset] [(.ref w_STARTUP_SCANNED)])
            refine own_st (fun t k => XS.astore X14.here hx rfl (hb hby at_62) rfl rfl (l' := #[.val (.int ip0), .val (.int ip1), .val (.int (0 : Int32)), .val (.ref w_NAMED), .val (.int (0 : Int32)), .val (.int (3 : Int32)), .val (.ref w_STARTUP_SCANNED)]) rfl k) ?_
            show own_Go _ _ _ _ T14 (mkF m 64 #[.val (.int ip0), .val (.int ip1), .val (.int (0 : Int32)), .val (.ref w_NAMED), .val (.int (0 : Int32)), .val (.int (3 : Int32)), .val (.ref w_STARTUP_SCANNED)] [])
            refine own_st (fun t k => XS.aload X14.here hx rfl (hb hby at_64) rfl rfl k) ?_
            show own_Go _ _ _ _ T14 (mkF m 66 #[.val (.int ip0), .val (.int ip1), .val (.int (0 : Int32)), .val (.ref w_NAMED), .val (.int (0 : Int32)), .val (.int (3 : Int32)), .val (.ref w_STARTUP_SCANNED)] [(.ref w_STARTUP_SCANNED)])
            obtain ⟨cq15, kq15, q15a, q15b, q15c⟩ := isOf hZ e14 E_w_STARTUP_SCANNED
            obtain ⟨_, _, ⟨T15, L15, k15, n15⟩, -, X15, ⟨Lc15, hQ15, l15, y15, z15⟩, st15⟩ := X14.virtualBack hx (y := (⟨"com/example/bare_container/barecontainer/bench/Workload", "start", "()Lcom/example/bare_container/barecontainer/bench/Workload$Start;"⟩ : MethodName)) (z := (⟨"com/example/bare_container/barecontainer/bench/Workload", "start", "()Lcom/example/bare_container/barecontainer/bench/Workload$Start;"⟩ : MethodName)) hown (mvT hZ (own_w hw 21 rfl)) (mvT hZ (own_w hw 22 rfl)) (notFace_of_selects (args := #[]) (mvT hZ (own_w hw 24 rfl))) (mvT hZ (own_w hw 24 rfl)) (mvT hZ (own_w hw 23 rfl)) (by decide) (backOf (W := 0) (own_rm4 l Z a0 hw [] w_STARTUP_SCANNED w_SCANNED h0 n0 Z0 F_start_w_STARTUP_SCANNED) hZ (own_w hw 25 rfl) (own_w hw 19 rfl) (by decide) (by decide)) q15a q15c (g := (mkF m 66 #[.val (.int ip0), .val (.int ip1), .val (.int (0 : Int32)), .val (.ref w_NAMED), .val (.int (0 : Int32)), .val (.int (3 : Int32)), .val (.ref w_STARTUP_SCANNED)] [(.ref w_STARTUP_SCANNED)])) rfl (by rw [hml]; rfl) (Steps.refl _) (argsL := []) (rest := []) (lenOf own_pd3 rfl) rfl (by show 2 * 0 + _ ≤ _; exact Nat.le_of_eq rfl) (hb hby at_66) (fun _ _ => ⟨rfl, e14, (by decide : 0 + 0 ≤ _), (by decide : 0 + 0 ≤ _)⟩)
            dsimp only [Pt.U, Pt.locs, Pt.cells, Pt.slots] at X15 l15 y15 z15 st15 hQ15
            subst l15 y15 z15
            obtain ⟨N15q, e15, hL15⟩ := hQ15
            have N15 := Fr.app N14 N15q
            rcases hL15 with ⟨rfl, -⟩
            · skip
              refine own_st (fun t k => st15.trans k) ?_
              show own_Go _ _ _ _ T15 (mkF m 69 #[.val (.int ip0), .val (.int ip1), .val (.int (0 : Int32)), .val (.ref w_NAMED), .val (.int (0 : Int32)), .val (.int (3 : Int32)), .val (.ref w_STARTUP_SCANNED)] [(.ref w_SCANNED)])
              obtain ⟨cq16, kq16, q16a, q16b, q16c⟩ := isOf hZ e15 E_w_SCANNED
              obtain ⟨_, _, ⟨T16, L16, k16, n16⟩, -, X16, ⟨Lc16, hQ16, l16, y16, z16⟩, st16⟩ := X15.virtualBack hx (y := (⟨"com/example/bare_container/barecontainer/bench/Workload$Start", "amongLibraries", "()Z"⟩ : MethodName)) (z := (⟨"com/example/bare_container/barecontainer/bench/Workload$Start", "amongLibraries", "()Z"⟩ : MethodName)) hown (mvT hZ (own_w hw 8 rfl)) (mvT hZ (own_w hw 9 rfl)) (notFace_of_selects (args := #[]) (mvT hZ (own_w hw 11 rfl))) (mvT hZ (own_w hw 11 rfl)) (mvT hZ (own_w hw 10 rfl)) (by decide) (backOf (W := 0) (own_rm2 l Z a0 hw [] w_SCANNED w_SCANNED_AMONG_LIBRARIES h0 n0 Z0 S_SCANNED_AMONG_LIBRARIES) hZ (own_w hw 12 rfl) (own_w hw 6 rfl) (by decide) (by decide)) q16a q16c (g := (mkF m 69 #[.val (.int ip0), .val (.int ip1), .val (.int (0 : Int32)), .val (.ref w_NAMED), .val (.int (0 : Int32)), .val (.int (3 : Int32)), .val (.ref w_STARTUP_SCANNED)] [(.ref w_SCANNED)])) rfl (by rw [hml]; rfl) (Steps.refl _) (argsL := []) (rest := []) (lenOf own_pd1 rfl) rfl (by show 2 * 0 + _ ≤ _; exact Nat.le_of_eq rfl) (hb hby at_69) (fun _ _ => ⟨rfl, e15, (by decide : 0 + 0 ≤ _), (by decide : 0 + 0 ≤ _)⟩)
              dsimp only [Pt.U, Pt.locs, Pt.cells, Pt.slots] at X16 l16 y16 z16 st16 hQ16
              subst l16 y16 z16
              obtain ⟨N16q, e16, hL16⟩ := hQ16
              have N16 := Fr.app N15 N16q
              rcases hL16 with ⟨rfl, hq16_0_0, -⟩ | ⟨rfl, hq16_1_0, -⟩
              · skip
                exact absurd hq16_0_0 (Fld.ne F_ordinal_w_SCANNED F_ordinal_w_SCANNED_AMONG_LIBRARIES (own_nei (by decide)))
              · skip
                refine own_st (fun t k => st16.trans k) ?_
                show own_Go _ _ _ _ T16 (mkF m 72 #[.val (.int ip0), .val (.int ip1), .val (.int (0 : Int32)), .val (.ref w_NAMED), .val (.int (0 : Int32)), .val (.int (3 : Int32)), .val (.ref w_STARTUP_SCANNED)] [(.int (0 : Int32))])
                refine own_st (fun t k => XS.iload X16.here hx rfl (hb hby at_72) rfl k) ?_
                show own_Go _ _ _ _ T16 (mkF m 74 #[.val (.int ip0), .val (.int ip1), .val (.int (0 : Int32)), .val (.ref w_NAMED), .val (.int (0 : Int32)), .val (.int (3 : Int32)), .val (.ref w_STARTUP_SCANNED)] [(.int (3 : Int32)), (.int (0 : Int32))])
                refine own_st (fun t k => XS.iconst X16.here hx rfl (hb hby at_74) k) ?_
                show own_Go _ _ _ _ T16 (mkF m 75 #[.val (.int ip0), .val (.int ip1), .val (.int (0 : Int32)), .val (.ref w_NAMED), .val (.int (0 : Int32)), .val (.int (3 : Int32)), .val (.ref w_STARTUP_SCANNED)] [(.int (4 : Int32)), (.int (3 : Int32)), (.int (0 : Int32))])
                refine own_st (fun t k => XS.icmpYes X16.here hx rfl (pc0 := 75) (pc' := 82) rfl (hb hby at_75) rfl (feq (by decide : ¬ ((3 : Int32) = (4 : Int32)))).2 (by decide) (by decide) k) ?_
                show own_Go _ _ _ _ T16 (mkF m 82 #[.val (.int ip0), .val (.int ip1), .val (.int (0 : Int32)), .val (.ref w_NAMED), .val (.int (0 : Int32)), .val (.int (3 : Int32)), .val (.ref w_STARTUP_SCANNED)] [(.int (0 : Int32))])
                refine own_st (fun t k => XS.iconst X16.here hx rfl (hb hby at_82) k) ?_
                show own_Go _ _ _ _ T16 (mkF m 83 #[.val (.int ip0), .val (.int ip1), .val (.int (0 : Int32)), .val (.ref w_NAMED), .val (.int (0 : Int32)), .val (.int (3 : Int32)), .val (.ref w_STARTUP_SCANNED)] [(.int (0 : Int32)), (.int (0 : Int32))])
                refine own_st (fun t k => XS.icmpNo X16.here hx rfl (hb hby at_83) rfl (teq hq2_0_0).2 k) ?_
                show own_Go _ _ _ _ T16 (mkF m 86 #[.val (.int ip0), .val (.int ip1), .val (.int (0 : Int32)), .val (.ref w_NAMED), .val (.int (0 : Int32)), .val (.int (3 : Int32)), .val (.ref w_STARTUP_SCANNED)] [])
                refine own_st (fun t k => XS.iconst X16.here hx rfl (hb hby at_86) k) ?_
                show own_Go _ _ _ _ T16 (mkF m 87 #[.val (.int ip0), .val (.int ip1), .val (.int (0 : Int32)), .val (.ref w_NAMED), .val (.int (0 : Int32)), .val (.int (3 : Int32)), .val (.ref w_STARTUP_SCANNED)] [(.int (1 : Int32))])
                refine own_st (fun t k => XS.goto X16.here hx rfl (pc0 := 87) (pc' := 91) rfl (hb hby at_87) (by decide) (by decide) k) ?_
                show own_Go _ _ _ _ T16 (mkF m 91 #[.val (.int ip0), .val (.int ip1), .val (.int (0 : Int32)), .val (.ref w_NAMED), .val (.int (0 : Int32)), .val (.int (3 : Int32)), .val (.ref w_STARTUP_SCANNED)] [(.int (1 : Int32))])
                exact own_retZ X16 hx hlk (t := .boolean) hret (by simp) (hb hby at_91) (by decide) (by decide) e16 ⟨rfl, N16⟩
          · skip
            exact absurd (by decide : (3 : Int32) = (3 : Int32)) hq14_4_3
        · rw [qr4]
          show own_Go _ _ _ _ T3 (mkF m 55 #[.val (.int ip0), .val (.int ip1), .val (.int (0 : Int32)), .val (.ref w_NAMED), .val (.int (0 : Int32)), .unset, .unset] [(.int (4 : Int32))])
          refine own_st (fun t k => XS.istore X3.here hx rfl (hb hby at_55) rfl (l' := #[.val (.int ip0), .val (.int ip1), .val (.int (0 : Int32)), .val (.ref w_NAMED), .val (.int (0 : Int32)), .val (.int (4 : Int32)), .unset]) rfl k) ?_
          show own_Go _ _ _ _ T3 (mkF m 57 #[.val (.int ip0), .val (.int ip1), .val (.int (0 : Int32)), .val (.ref w_NAMED), .val (.int (0 : Int32)), .val (.int (4 : Int32)), .unset] [])
          refine own_st (fun t k => XS.iload X3.here hx rfl (hb hby at_57) rfl k) ?_
          show own_Go _ _ _ _ T3 (mkF m 59 #[.val (.int ip0), .val (.int ip1), .val (.int (0 : Int32)), .val (.ref w_NAMED), .val (.int (0 : Int32)), .val (.int (4 : Int32)), .unset] [(.int (4 : Int32))])
          obtain ⟨_, _, ⟨T17, L17, k17, n17⟩, -, X17, ⟨Lc17, hQ17, l17, y17, z17⟩, st17⟩ := Jvm.LawKit.callS X3 hx (y := (⟨"com/example/bare_container/barecontainer/bench/StartAmongLibrariesPinLaw", "workloadOf", "(I)Lcom/example/bare_container/barecontainer/bench/Workload;"⟩ : MethodName)) hown (mvT hZ (own_w hw 15 rfl)) (mvT hZ (own_w hw 16 rfl)) (mvT hZ (own_w hw 3 rfl)) (mvT hZ (own_w hw 17 rfl)) (by decide) (backOf (W := 0) (own_rm3 l Z a0 hw [] (4 : Int32) w_EMPTY_CALL w_INSERT_CALL w_STARTUP w_STARTUP_SCANNED w_STARTUP_AMONG_LIBRARIES h0 n0 Z0 S_EMPTY_CALL S_INSERT_CALL S_STARTUP S_STARTUP_SCANNED S_STARTUP_AMONG_LIBRARIES) hZ (own_w hw 17 rfl) (own_w hw 3 rfl) (by decide) (by decide)) (g := (mkF m 59 #[.val (.int ip0), .val (.int ip1), .val (.int (0 : Int32)), .val (.ref w_NAMED), .val (.int (0 : Int32)), .val (.int (4 : Int32)), .unset] [(.int (4 : Int32))])) rfl (by rw [hml]; rfl) (argsL := [(.int (4 : Int32))]) (rest := []) (lenOf own_pd2 rfl) rfl (by show 2 * 0 + _ ≤ _; exact Nat.le_of_eq rfl) (hb hby at_59) (fun _ _ => ⟨rfl, e3, (by decide : 0 + 0 ≤ _), (by decide : 0 + 0 ≤ _)⟩)
          dsimp only [Pt.U, Pt.locs, Pt.cells, Pt.slots] at X17 l17 y17 z17 st17 hQ17
          subst l17 y17 z17
          obtain ⟨N17q, e17, hL17⟩ := hQ17
          have N17 := Fr.app N3 N17q
          rcases hL17 with ⟨rfl, hq17_0_0, -⟩ | ⟨rfl, hq17_1_0, hq17_1_1, -⟩ | ⟨rfl, hq17_2_0, hq17_2_1, hq17_2_2, -⟩ | ⟨rfl, hq17_3_0, hq17_3_1, hq17_3_2, hq17_3_3, -⟩ | ⟨rfl, hq17_4_0, hq17_4_1, hq17_4_2, hq17_4_3, -⟩
          · skip
            exact absurd hq17_0_0 (by decide : ¬ ((4 : Int32) = (0 : Int32)))
          · skip
            exact absurd hq17_1_1 (by decide : ¬ ((4 : Int32) = (1 : Int32)))
          · skip
            exact absurd hq17_2_2 (by decide : ¬ ((4 : Int32) = (2 : Int32)))
          · skip
            exact absurd hq17_3_3 (by decide : ¬ ((4 : Int32) = (3 : Int32)))
          · skip
            refine own_st st17 ?_
            show own_Go _ _ _ _ T17 (mkF m 62 #[.val (.int ip0), .val (.int ip1), .val (.int (0 : Int32)), .val (.ref w_NAMED), .val (.int (0 : Int32)), .val (.int (4 : Int32)), .unset] [(.ref w_STARTUP_AMONG_LIBRARIES)])
            refine own_st (fun t k => XS.astore X17.here hx rfl (hb hby at_62) rfl rfl (l' := #[.val (.int ip0), .val (.int ip1), .val (.int (0 : Int32)), .val (.ref w_NAMED), .val (.int (0 : Int32)), .val (.int (4 : Int32)), .val (.ref w_STARTUP_AMONG_LIBRARIES)]) rfl k) ?_
            show own_Go _ _ _ _ T17 (mkF m 64 #[.val (.int ip0), .val (.int ip1), .val (.int (0 : Int32)), .val (.ref w_NAMED), .val (.int (0 : Int32)), .val (.int (4 : Int32)), .val (.ref w_STARTUP_AMONG_LIBRARIES)] [])
            refine own_st (fun t k => XS.aload X17.here hx rfl (hb hby at_64) rfl rfl k) ?_
            show own_Go _ _ _ _ T17 (mkF m 66 #[.val (.int ip0), .val (.int ip1), .val (.int (0 : Int32)), .val (.ref w_NAMED), .val (.int (0 : Int32)), .val (.int (4 : Int32)), .val (.ref w_STARTUP_AMONG_LIBRARIES)] [(.ref w_STARTUP_AMONG_LIBRARIES)])
            obtain ⟨cq18, kq18, q18a, q18b, q18c⟩ := isOf hZ e17 E_w_STARTUP_AMONG_LIBRARIES
            obtain ⟨_, _, ⟨T18, L18, k18, n18⟩, -, X18, ⟨Lc18, hQ18, l18, y18, z18⟩, st18⟩ := X17.virtualBack hx (y := (⟨"com/example/bare_container/barecontainer/bench/Workload", "start", "()Lcom/example/bare_container/barecontainer/bench/Workload$Start;"⟩ : MethodName)) (z := (⟨"com/example/bare_container/barecontainer/bench/Workload", "start", "()Lcom/example/bare_container/barecontainer/bench/Workload$Start;"⟩ : MethodName)) hown (mvT hZ (own_w hw 21 rfl)) (mvT hZ (own_w hw 22 rfl)) (notFace_of_selects (args := #[]) (mvT hZ (own_w hw 24 rfl))) (mvT hZ (own_w hw 24 rfl)) (mvT hZ (own_w hw 23 rfl)) (by decide) (backOf (W := 0) (own_rm4 l Z a0 hw [] w_STARTUP_AMONG_LIBRARIES w_SCANNED_AMONG_LIBRARIES h0 n0 Z0 F_start_w_STARTUP_AMONG_LIBRARIES) hZ (own_w hw 25 rfl) (own_w hw 19 rfl) (by decide) (by decide)) q18a q18c (g := (mkF m 66 #[.val (.int ip0), .val (.int ip1), .val (.int (0 : Int32)), .val (.ref w_NAMED), .val (.int (0 : Int32)), .val (.int (4 : Int32)), .val (.ref w_STARTUP_AMONG_LIBRARIES)] [(.ref w_STARTUP_AMONG_LIBRARIES)])) rfl (by rw [hml]; rfl) (Steps.refl _) (argsL := []) (rest := []) (lenOf own_pd3 rfl) rfl (by show 2 * 0 + _ ≤ _; exact Nat.le_of_eq rfl) (hb hby at_66) (fun _ _ => ⟨rfl, e17, (by decide : 0 + 0 ≤ _), (by decide : 0 + 0 ≤ _)⟩)
            dsimp only [Pt.U, Pt.locs, Pt.cells, Pt.slots] at X18 l18 y18 z18 st18 hQ18
            subst l18 y18 z18
            obtain ⟨N18q, e18, hL18⟩ := hQ18
            have N18 := Fr.app N17 N18q
            rcases hL18 with ⟨rfl, -⟩
            · skip
              refine own_st (fun t k => st18.trans k) ?_
              show own_Go _ _ _ _ T18 (mkF m 69 #[.val (.int ip0), .val (.int ip1), .val (.int (0 : Int32)), .val (.ref w_NAMED), .val (.int (0 : Int32)), .val (.int (4 : Int32)), .val (.ref w_STARTUP_AMONG_LIBRARIES)] [(.ref w_SCANNED_AMONG_LIBRARIES)])
              obtain ⟨cq19, kq19, q19a, q19b, q19c⟩ := isOf hZ e18 E_w_SCANNED_AMONG_LIBRARIES
              obtain ⟨_, _, ⟨T19, L19, k19, n19⟩, -, X19, ⟨Lc19, hQ19, l19, y19, z19⟩, st19⟩ := X18.virtualBack hx (y := (⟨"com/example/bare_container/barecontainer/bench/Workload$Start", "amongLibraries", "()Z"⟩ : MethodName)) (z := (⟨"com/example/bare_container/barecontainer/bench/Workload$Start", "amongLibraries", "()Z"⟩ : MethodName)) hown (mvT hZ (own_w hw 8 rfl)) (mvT hZ (own_w hw 9 rfl)) (notFace_of_selects (args := #[]) (mvT hZ (own_w hw 11 rfl))) (mvT hZ (own_w hw 11 rfl)) (mvT hZ (own_w hw 10 rfl)) (by decide) (backOf (W := 0) (own_rm2 l Z a0 hw [] w_SCANNED_AMONG_LIBRARIES w_SCANNED_AMONG_LIBRARIES h0 n0 Z0 S_SCANNED_AMONG_LIBRARIES) hZ (own_w hw 12 rfl) (own_w hw 6 rfl) (by decide) (by decide)) q19a q19c (g := (mkF m 69 #[.val (.int ip0), .val (.int ip1), .val (.int (0 : Int32)), .val (.ref w_NAMED), .val (.int (0 : Int32)), .val (.int (4 : Int32)), .val (.ref w_STARTUP_AMONG_LIBRARIES)] [(.ref w_SCANNED_AMONG_LIBRARIES)])) rfl (by rw [hml]; rfl) (Steps.refl _) (argsL := []) (rest := []) (lenOf own_pd1 rfl) rfl (by show 2 * 0 + _ ≤ _; exact Nat.le_of_eq rfl) (hb hby at_69) (fun _ _ => ⟨rfl, e18, (by decide : 0 + 0 ≤ _), (by decide : 0 + 0 ≤ _)⟩)
              dsimp only [Pt.U, Pt.locs, Pt.cells, Pt.slots] at X19 l19 y19 z19 st19 hQ19
              subst l19 y19 z19
              obtain ⟨N19q, e19, hL19⟩ := hQ19
              have N19 := Fr.app N18 N19q
              rcases hL19 with ⟨rfl, hq19_0_0, -⟩ | ⟨rfl, hq19_1_0, -⟩
              · skip
                refine own_st (fun t k => st19.trans k) ?_
                show own_Go _ _ _ _ T19 (mkF m 72 #[.val (.int ip0), .val (.int ip1), .val (.int (0 : Int32)), .val (.ref w_NAMED), .val (.int (0 : Int32)), .val (.int (4 : Int32)), .val (.ref w_STARTUP_AMONG_LIBRARIES)] [(.int (1 : Int32))])
                refine own_st (fun t k => XS.iload X19.here hx rfl (hb hby at_72) rfl k) ?_
                show own_Go _ _ _ _ T19 (mkF m 74 #[.val (.int ip0), .val (.int ip1), .val (.int (0 : Int32)), .val (.ref w_NAMED), .val (.int (0 : Int32)), .val (.int (4 : Int32)), .val (.ref w_STARTUP_AMONG_LIBRARIES)] [(.int (4 : Int32)), (.int (1 : Int32))])
                refine own_st (fun t k => XS.iconst X19.here hx rfl (hb hby at_74) k) ?_
                show own_Go _ _ _ _ T19 (mkF m 75 #[.val (.int ip0), .val (.int ip1), .val (.int (0 : Int32)), .val (.ref w_NAMED), .val (.int (0 : Int32)), .val (.int (4 : Int32)), .val (.ref w_STARTUP_AMONG_LIBRARIES)] [(.int (4 : Int32)), (.int (4 : Int32)), (.int (1 : Int32))])
                refine own_st (fun t k => XS.icmpNo X19.here hx rfl (hb hby at_75) rfl (teq (by decide : (4 : Int32) = (4 : Int32))).2 k) ?_
                show own_Go _ _ _ _ T19 (mkF m 78 #[.val (.int ip0), .val (.int ip1), .val (.int (0 : Int32)), .val (.ref w_NAMED), .val (.int (0 : Int32)), .val (.int (4 : Int32)), .val (.ref w_STARTUP_AMONG_LIBRARIES)] [(.int (1 : Int32))])
                refine own_st (fun t k => XS.iconst X19.here hx rfl (hb hby at_78) k) ?_
                show own_Go _ _ _ _ T19 (mkF m 79 #[.val (.int ip0), .val (.int ip1), .val (.int (0 : Int32)), .val (.ref w_NAMED), .val (.int (0 : Int32)), .val (.int (4 : Int32)), .val (.ref w_STARTUP_AMONG_LIBRARIES)] [(.int (1 : Int32)), (.int (1 : Int32))])
                refine own_st (fun t k => XS.goto X19.here hx rfl (pc0 := 79) (pc' := 83) rfl (hb hby at_79) (by decide) (by decide) k) ?_
                show own_Go _ _ _ _ T19 (mkF m 83 #[.val (.int ip0), .val (.int ip1), .val (.int (0 : Int32)), .val (.ref w_NAMED), .val (.int (0 : Int32)), .val (.int (4 : Int32)), .val (.ref w_STARTUP_AMONG_LIBRARIES)] [(.int (1 : Int32)), (.int (1 : Int32))])
                refine own_st (fun t k => XS.icmpNo X19.here hx rfl (hb hby at_83) rfl (teq (by decide : (1 : Int32) = (1 : Int32))).2 k) ?_
                show own_Go _ _ _ _ T19 (mkF m 86 #[.val (.int ip0), .val (.int ip1), .val (.int (0 : Int32)), .val (.ref w_NAMED), .val (.int (0 : Int32)), .val (.int (4 : Int32)), .val (.ref w_STARTUP_AMONG_LIBRARIES)] [])
                refine own_st (fun t k => XS.iconst X19.here hx rfl (hb hby at_86) k) ?_
                show own_Go _ _ _ _ T19 (mkF m 87 #[.val (.int ip0), .val (.int ip1), .val (.int (0 : Int32)), .val (.ref w_NAMED), .val (.int (0 : Int32)), .val (.int (4 : Int32)), .val (.ref w_STARTUP_AMONG_LIBRARIES)] [(.int (1 : Int32))])
                refine own_st (fun t k => XS.goto X19.here hx rfl (pc0 := 87) (pc' := 91) rfl (hb hby at_87) (by decide) (by decide) k) ?_
                show own_Go _ _ _ _ T19 (mkF m 91 #[.val (.int ip0), .val (.int ip1), .val (.int (0 : Int32)), .val (.ref w_NAMED), .val (.int (0 : Int32)), .val (.int (4 : Int32)), .val (.ref w_STARTUP_AMONG_LIBRARIES)] [(.int (1 : Int32))])
                exact own_retZ X19 hx hlk (t := .boolean) hret (by simp) (hb hby at_91) (by decide) (by decide) e19 ⟨rfl, N19⟩
              · skip
                exact absurd (rfl : w_SCANNED_AMONG_LIBRARIES = w_SCANNED_AMONG_LIBRARIES) hq19_1_0
    · skip
      exact absurd (by decide : (0 : Int32) = (0 : Int32)) hq2_1_0
    · skip
      exact absurd (by decide : (0 : Int32) = (0 : Int32)) hq2_2_0
  · rw [qr1]
    show own_Go _ _ _ _ s₁ (mkF m 6 #[.val (.int ip0), .val (.int ip1), .unset, .unset, .unset, .unset, .unset] [(.int (1 : Int32))])
    refine own_st (fun t k => XS.istoreN X0.here hx rfl (hb hby at_6) rfl (l' := #[.val (.int ip0), .val (.int ip1), .val (.int (1 : Int32)), .unset, .unset, .unset, .unset]) rfl k) ?_
    show own_Go _ _ _ _ s₁ (mkF m 7 #[.val (.int ip0), .val (.int ip1), .val (.int (1 : Int32)), .unset, .unset, .unset, .unset] [])
    refine own_st (fun t k => XS.iloadN X0.here hx rfl (hb hby at_7) rfl k) ?_
    show own_Go _ _ _ _ s₁ (mkF m 8 #[.val (.int ip0), .val (.int ip1), .val (.int (1 : Int32)), .unset, .unset, .unset, .unset] [(.int (1 : Int32))])
    obtain ⟨_, _, ⟨T20, L20, k20, n20⟩, -, X20, ⟨Lc20, hQ20, l20, y20, z20⟩, st20⟩ := Jvm.LawKit.callS X0 hx (y := (⟨"com/example/bare_container/barecontainer/bench/StartAmongLibrariesPinLaw", "startOf", "(I)Lcom/example/bare_container/barecontainer/bench/Workload$Start;"⟩ : MethodName)) hown (mvT hZ (own_w hw 1 rfl)) (mvT hZ (own_w hw 2 rfl)) (mvT hZ (own_w hw 3 rfl)) (mvT hZ (own_w hw 4 rfl)) (by decide) (backOf (W := 0) (own_rm1 l Z a0 hw [] (1 : Int32) w_NAMED w_SCANNED w_SCANNED_AMONG_LIBRARIES h0 n0 Z0 S_NAMED S_SCANNED S_SCANNED_AMONG_LIBRARIES) hZ (own_w hw 4 rfl) (own_w hw 3 rfl) (by decide) (by decide)) (g := (mkF m 8 #[.val (.int ip0), .val (.int ip1), .val (.int (1 : Int32)), .unset, .unset, .unset, .unset] [(.int (1 : Int32))])) rfl (by rw [hml]; rfl) (argsL := [(.int (1 : Int32))]) (rest := []) (lenOf own_pd0 rfl) rfl (by show 2 * 0 + _ ≤ _; exact Nat.le_of_eq rfl) (hb hby at_8) (fun _ _ => ⟨rfl, e0, (by decide : 0 + 0 ≤ _), (by decide : 0 + 0 ≤ _)⟩)
    dsimp only [Pt.U, Pt.locs, Pt.cells, Pt.slots] at X20 l20 y20 z20 st20 hQ20
    subst l20 y20 z20
    obtain ⟨N20q, e20, hL20⟩ := hQ20
    have N20 := Fr.app N0 N20q
    rcases hL20 with ⟨rfl, hq20_0_0, -⟩ | ⟨rfl, hq20_1_0, hq20_1_1, -⟩ | ⟨rfl, hq20_2_0, hq20_2_1, -⟩
    · skip
      exact absurd hq20_0_0 (by decide : ¬ ((1 : Int32) = (0 : Int32)))
    · skip
      refine own_st st20 ?_
      show own_Go _ _ _ _ T20 (mkF m 11 #[.val (.int ip0), .val (.int ip1), .val (.int (1 : Int32)), .unset, .unset, .unset, .unset] [(.ref w_SCANNED)])
      refine own_st (fun t k => XS.astoreN X20.here hx rfl (hb hby at_11) rfl rfl (l' := #[.val (.int ip0), .val (.int ip1), .val (.int (1 : Int32)), .val (.ref w_SCANNED), .unset, .unset, .unset]) rfl k) ?_
      show own_Go _ _ _ _ T20 (mkF m 12 #[.val (.int ip0), .val (.int ip1), .val (.int (1 : Int32)), .val (.ref w_SCANNED), .unset, .unset, .unset] [])
      refine own_st (fun t k => XS.aloadN X20.here hx rfl (hb hby at_12) rfl rfl k) ?_
      show own_Go _ _ _ _ T20 (mkF m 13 #[.val (.int ip0), .val (.int ip1), .val (.int (1 : Int32)), .val (.ref w_SCANNED), .unset, .unset, .unset] [(.ref w_SCANNED)])
      obtain ⟨cq21, kq21, q21a, q21b, q21c⟩ := isOf hZ e20 E_w_SCANNED
      obtain ⟨_, _, ⟨T21, L21, k21, n21⟩, -, X21, ⟨Lc21, hQ21, l21, y21, z21⟩, st21⟩ := X20.virtualBack hx (y := (⟨"com/example/bare_container/barecontainer/bench/Workload$Start", "amongLibraries", "()Z"⟩ : MethodName)) (z := (⟨"com/example/bare_container/barecontainer/bench/Workload$Start", "amongLibraries", "()Z"⟩ : MethodName)) hown (mvT hZ (own_w hw 8 rfl)) (mvT hZ (own_w hw 9 rfl)) (notFace_of_selects (args := #[]) (mvT hZ (own_w hw 11 rfl))) (mvT hZ (own_w hw 11 rfl)) (mvT hZ (own_w hw 10 rfl)) (by decide) (backOf (W := 0) (own_rm2 l Z a0 hw [] w_SCANNED w_SCANNED_AMONG_LIBRARIES h0 n0 Z0 S_SCANNED_AMONG_LIBRARIES) hZ (own_w hw 12 rfl) (own_w hw 6 rfl) (by decide) (by decide)) q21a q21c (g := (mkF m 13 #[.val (.int ip0), .val (.int ip1), .val (.int (1 : Int32)), .val (.ref w_SCANNED), .unset, .unset, .unset] [(.ref w_SCANNED)])) rfl (by rw [hml]; rfl) (Steps.refl _) (argsL := []) (rest := []) (lenOf own_pd1 rfl) rfl (by show 2 * 0 + _ ≤ _; exact Nat.le_of_eq rfl) (hb hby at_13) (fun _ _ => ⟨rfl, e20, (by decide : 0 + 0 ≤ _), (by decide : 0 + 0 ≤ _)⟩)
      dsimp only [Pt.U, Pt.locs, Pt.cells, Pt.slots] at X21 l21 y21 z21 st21 hQ21
      subst l21 y21 z21
      obtain ⟨N21q, e21, hL21⟩ := hQ21
      have N21 := Fr.app N20 N21q
      rcases hL21 with ⟨rfl, hq21_0_0, -⟩ | ⟨rfl, hq21_1_0, -⟩
      · skip
        exact absurd hq21_0_0 (Fld.ne F_ordinal_w_SCANNED F_ordinal_w_SCANNED_AMONG_LIBRARIES (own_nei (by decide)))
      · skip
        refine own_st (fun t k => st21.trans k) ?_
        show own_Go _ _ _ _ T21 (mkF m 16 #[.val (.int ip0), .val (.int ip1), .val (.int (1 : Int32)), .val (.ref w_SCANNED), .unset, .unset, .unset] [(.int (0 : Int32))])
        refine own_st (fun t k => XS.istore X21.here hx rfl (hb hby at_16) rfl (l' := #[.val (.int ip0), .val (.int ip1), .val (.int (1 : Int32)), .val (.ref w_SCANNED), .val (.int (0 : Int32)), .unset, .unset]) rfl k) ?_
        show own_Go _ _ _ _ T21 (mkF m 18 #[.val (.int ip0), .val (.int ip1), .val (.int (1 : Int32)), .val (.ref w_SCANNED), .val (.int (0 : Int32)), .unset, .unset] [])
        refine own_st (fun t k => XS.iload X21.here hx rfl (hb hby at_18) rfl k) ?_
        show own_Go _ _ _ _ T21 (mkF m 20 #[.val (.int ip0), .val (.int ip1), .val (.int (1 : Int32)), .val (.ref w_SCANNED), .val (.int (0 : Int32)), .unset, .unset] [(.int (0 : Int32))])
        refine own_st (fun t k => XS.iloadN X21.here hx rfl (hb hby at_20) rfl k) ?_
        show own_Go _ _ _ _ T21 (mkF m 21 #[.val (.int ip0), .val (.int ip1), .val (.int (1 : Int32)), .val (.ref w_SCANNED), .val (.int (0 : Int32)), .unset, .unset] [(.int (1 : Int32)), (.int (0 : Int32))])
        refine own_st (fun t k => XS.iconst X21.here hx rfl (hb hby at_21) k) ?_
        show own_Go _ _ _ _ T21 (mkF m 22 #[.val (.int ip0), .val (.int ip1), .val (.int (1 : Int32)), .val (.ref w_SCANNED), .val (.int (0 : Int32)), .unset, .unset] [(.int (2 : Int32)), (.int (1 : Int32)), (.int (0 : Int32))])
        refine own_st (fun t k => XS.icmpYes X21.here hx rfl (pc0 := 22) (pc' := 29) rfl (hb hby at_22) rfl (feq (by decide : ¬ ((1 : Int32) = (2 : Int32)))).2 (by decide) (by decide) k) ?_
        show own_Go _ _ _ _ T21 (mkF m 29 #[.val (.int ip0), .val (.int ip1), .val (.int (1 : Int32)), .val (.ref w_SCANNED), .val (.int (0 : Int32)), .unset, .unset] [(.int (0 : Int32))])
        refine own_st (fun t k => XS.iconst X21.here hx rfl (hb hby at_29) k) ?_
        show own_Go _ _ _ _ T21 (mkF m 30 #[.val (.int ip0), .val (.int ip1), .val (.int (1 : Int32)), .val (.ref w_SCANNED), .val (.int (0 : Int32)), .unset, .unset] [(.int (0 : Int32)), (.int (0 : Int32))])
        refine own_st (fun t k => XS.icmpYes X21.here hx rfl (pc0 := 30) (pc' := 35) rfl (hb hby at_30) rfl (teq (by decide : (0 : Int32) = (0 : Int32))).1 (by decide) (by decide) k) ?_
        show own_Go _ _ _ _ T21 (mkF m 35 #[.val (.int ip0), .val (.int ip1), .val (.int (1 : Int32)), .val (.ref w_SCANNED), .val (.int (0 : Int32)), .unset, .unset] [])
        refine own_st (fun t k => XS.iload X21.here hx rfl (hb hby at_35) rfl k) ?_
        show own_Go _ _ _ _ T21 (mkF m 37 #[.val (.int ip0), .val (.int ip1), .val (.int (1 : Int32)), .val (.ref w_SCANNED), .val (.int (0 : Int32)), .unset, .unset] [(.int (0 : Int32))])
        refine own_st (fun t k => XS.ifYes X21.here hx rfl (pc0 := 37) (pc' := 49) rfl (hb hby at_37) rfl ((if0 _ _).trans (teq (by decide : (0 : Int32) = (0 : Int32))).1) (by decide) (by decide) k) ?_
        show own_Go _ _ _ _ T21 (mkF m 49 #[.val (.int ip0), .val (.int ip1), .val (.int (1 : Int32)), .val (.ref w_SCANNED), .val (.int (0 : Int32)), .unset, .unset] [])
        refine own_st (fun t k => XS.iloadN X21.here hx rfl (hb hby at_49) rfl k) ?_
        show own_Go _ _ _ _ T21 (mkF m 50 #[.val (.int ip0), .val (.int ip1), .val (.int (1 : Int32)), .val (.ref w_SCANNED), .val (.int (0 : Int32)), .unset, .unset] [(.int ip1)])
        refine own_st (X21.ldcInt hx hown (mvT hZ (own_w hw 0 rfl)) (g := (mkF m 50 #[.val (.int ip0), .val (.int ip1), .val (.int (1 : Int32)), .val (.ref w_SCANNED), .val (.int (0 : Int32)), .unset, .unset] [(.int ip1)])) rfl (hb hby at_50)) ?_
        show own_Go _ _ _ _ T21 (mkF m 52 #[.val (.int ip0), .val (.int ip1), .val (.int (1 : Int32)), .val (.ref w_SCANNED), .val (.int (0 : Int32)), .unset, .unset] [(.int (2147483647 : Int32)), (.int ip1)])
        refine own_st (fun t k => XS.iand X21.here hx rfl (hb hby at_52) rfl k) ?_
        show own_Go _ _ _ _ T21 (mkF m 53 #[.val (.int ip0), .val (.int ip1), .val (.int (1 : Int32)), .val (.ref w_SCANNED), .val (.int (0 : Int32)), .unset, .unset] [(.int (ip1 &&& (2147483647 : Int32)))])
        refine own_st (fun t k => XS.iconst X21.here hx rfl (hb hby at_53) k) ?_
        show own_Go _ _ _ _ T21 (mkF m 54 #[.val (.int ip0), .val (.int ip1), .val (.int (1 : Int32)), .val (.ref w_SCANNED), .val (.int (0 : Int32)), .unset, .unset] [(.int (5 : Int32)), (.int (ip1 &&& (2147483647 : Int32)))])
        refine own_st (fun t k => iremM X21 hx rfl (hb hby at_54) rfl (by decide) k) ?_
        show own_Go _ _ _ _ T21 (mkF m 55 #[.val (.int ip0), .val (.int ip1), .val (.int (1 : Int32)), .val (.ref w_SCANNED), .val (.int (0 : Int32)), .unset, .unset] [(.int ((ip1 &&& (2147483647 : Int32)) % (5 : Int32)))])
        rcases own_rem1 ip1 with qr22 | qr22 | qr22 | qr22 | qr22
        · rw [qr22]
          show own_Go _ _ _ _ T21 (mkF m 55 #[.val (.int ip0), .val (.int ip1), .val (.int (1 : Int32)), .val (.ref w_SCANNED), .val (.int (0 : Int32)), .unset, .unset] [(.int (0 : Int32))])
          refine own_st (fun t k => XS.istore X21.here hx rfl (hb hby at_55) rfl (l' := #[.val (.int ip0), .val (.int ip1), .val (.int (1 : Int32)), .val (.ref w_SCANNED), .val (.int (0 : Int32)), .val (.int (0 : Int32)), .unset]) rfl k) ?_
          show own_Go _ _ _ _ T21 (mkF m 57 #[.val (.int ip0), .val (.int ip1), .val (.int (1 : Int32)), .val (.ref w_SCANNED), .val (.int (0 : Int32)), .val (.int (0 : Int32)), .unset] [])
          refine own_st (fun t k => XS.iload X21.here hx rfl (hb hby at_57) rfl k) ?_
          show own_Go _ _ _ _ T21 (mkF m 59 #[.val (.int ip0), .val (.int ip1), .val (.int (1 : Int32)), .val (.ref w_SCANNED), .val (.int (0 : Int32)), .val (.int (0 : Int32)), .unset] [(.int (0 : Int32))])
          obtain ⟨_, _, ⟨T23, L23, k23, n23⟩, -, X23, ⟨Lc23, hQ23, l23, y23, z23⟩, st23⟩ := Jvm.LawKit.callS X21 hx (y := (⟨"com/example/bare_container/barecontainer/bench/StartAmongLibrariesPinLaw", "workloadOf", "(I)Lcom/example/bare_container/barecontainer/bench/Workload;"⟩ : MethodName)) hown (mvT hZ (own_w hw 15 rfl)) (mvT hZ (own_w hw 16 rfl)) (mvT hZ (own_w hw 3 rfl)) (mvT hZ (own_w hw 17 rfl)) (by decide) (backOf (W := 0) (own_rm3 l Z a0 hw [] (0 : Int32) w_EMPTY_CALL w_INSERT_CALL w_STARTUP w_STARTUP_SCANNED w_STARTUP_AMONG_LIBRARIES h0 n0 Z0 S_EMPTY_CALL S_INSERT_CALL S_STARTUP S_STARTUP_SCANNED S_STARTUP_AMONG_LIBRARIES) hZ (own_w hw 17 rfl) (own_w hw 3 rfl) (by decide) (by decide)) (g := (mkF m 59 #[.val (.int ip0), .val (.int ip1), .val (.int (1 : Int32)), .val (.ref w_SCANNED), .val (.int (0 : Int32)), .val (.int (0 : Int32)), .unset] [(.int (0 : Int32))])) rfl (by rw [hml]; rfl) (argsL := [(.int (0 : Int32))]) (rest := []) (lenOf own_pd2 rfl) rfl (by show 2 * 0 + _ ≤ _; exact Nat.le_of_eq rfl) (hb hby at_59) (fun _ _ => ⟨rfl, e21, (by decide : 0 + 0 ≤ _), (by decide : 0 + 0 ≤ _)⟩)
          dsimp only [Pt.U, Pt.locs, Pt.cells, Pt.slots] at X23 l23 y23 z23 st23 hQ23
          subst l23 y23 z23
          obtain ⟨N23q, e23, hL23⟩ := hQ23
          have N23 := Fr.app N21 N23q
          rcases hL23 with ⟨rfl, hq23_0_0, -⟩ | ⟨rfl, hq23_1_0, hq23_1_1, -⟩ | ⟨rfl, hq23_2_0, hq23_2_1, hq23_2_2, -⟩ | ⟨rfl, hq23_3_0, hq23_3_1, hq23_3_2, hq23_3_3, -⟩ | ⟨rfl, hq23_4_0, hq23_4_1, hq23_4_2, hq23_4_3, -⟩
          · skip
            refine own_st st23 ?_
            show own_Go _ _ _ _ T23 (mkF m 62 #[.val (.int ip0), .val (.int ip1), .val (.int (1 : Int32)), .val (.ref w_SCANNED), .val (.int (0 : Int32)), .val (.int (0 : Int32)), .unset] [(.ref w_EMPTY_CALL)])
            refine own_st (fun t k => XS.astore X23.here hx rfl (hb hby at_62) rfl rfl (l' := #[.val (.int ip0), .val (.int ip1), .val (.int (1 : Int32)), .val (.ref w_SCANNED), .val (.int (0 : Int32)), .val (.int (0 : Int32)), .val (.ref w_EMPTY_CALL)]) rfl k) ?_
            show own_Go _ _ _ _ T23 (mkF m 64 #[.val (.int ip0), .val (.int ip1), .val (.int (1 : Int32)), .val (.ref w_SCANNED), .val (.int (0 : Int32)), .val (.int (0 : Int32)), .val (.ref w_EMPTY_CALL)] [])
            refine own_st (fun t k => XS.aload X23.here hx rfl (hb hby at_64) rfl rfl k) ?_
            show own_Go _ _ _ _ T23 (mkF m 66 #[.val (.int ip0), .val (.int ip1), .val (.int (1 : Int32)), .val (.ref w_SCANNED), .val (.int (0 : Int32)), .val (.int (0 : Int32)), .val (.ref w_EMPTY_CALL)] [(.ref w_EMPTY_CALL)])
            obtain ⟨cq24, kq24, q24a, q24b, q24c⟩ := isOf hZ e23 E_w_EMPTY_CALL
            obtain ⟨_, _, ⟨T24, L24, k24, n24⟩, -, X24, ⟨Lc24, hQ24, l24, y24, z24⟩, st24⟩ := X23.virtualBack hx (y := (⟨"com/example/bare_container/barecontainer/bench/Workload", "start", "()Lcom/example/bare_container/barecontainer/bench/Workload$Start;"⟩ : MethodName)) (z := (⟨"com/example/bare_container/barecontainer/bench/Workload", "start", "()Lcom/example/bare_container/barecontainer/bench/Workload$Start;"⟩ : MethodName)) hown (mvT hZ (own_w hw 21 rfl)) (mvT hZ (own_w hw 22 rfl)) (notFace_of_selects (args := #[]) (mvT hZ (own_w hw 24 rfl))) (mvT hZ (own_w hw 24 rfl)) (mvT hZ (own_w hw 23 rfl)) (by decide) (backOf (W := 0) (own_rm4 l Z a0 hw [] w_EMPTY_CALL w_NAMED h0 n0 Z0 F_start_w_EMPTY_CALL) hZ (own_w hw 25 rfl) (own_w hw 19 rfl) (by decide) (by decide)) q24a q24c (g := (mkF m 66 #[.val (.int ip0), .val (.int ip1), .val (.int (1 : Int32)), .val (.ref w_SCANNED), .val (.int (0 : Int32)), .val (.int (0 : Int32)), .val (.ref w_EMPTY_CALL)] [(.ref w_EMPTY_CALL)])) rfl (by rw [hml]; rfl) (Steps.refl _) (argsL := []) (rest := []) (lenOf own_pd3 rfl) rfl (by show 2 * 0 + _ ≤ _; exact Nat.le_of_eq rfl) (hb hby at_66) (fun _ _ => ⟨rfl, e23, (by decide : 0 + 0 ≤ _), (by decide : 0 + 0 ≤ _)⟩)
            dsimp only [Pt.U, Pt.locs, Pt.cells, Pt.slots] at X24 l24 y24 z24 st24 hQ24
            subst l24 y24 z24
            obtain ⟨N24q, e24, hL24⟩ := hQ24
            have N24 := Fr.app N23 N24q
            rcases hL24 with ⟨rfl, -⟩
            · skip
              refine own_st (fun t k => st24.trans k) ?_
              show own_Go _ _ _ _ T24 (mkF m 69 #[.val (.int ip0), .val (.int ip1), .val (.int (1 : Int32)), .val (.ref w_SCANNED), .val (.int (0 : Int32)), .val (.int (0 : Int32)), .val (.ref w_EMPTY_CALL)] [(.ref w_NAMED)])
              obtain ⟨cq25, kq25, q25a, q25b, q25c⟩ := isOf hZ e24 E_w_NAMED
              obtain ⟨_, _, ⟨T25, L25, k25, n25⟩, -, X25, ⟨Lc25, hQ25, l25, y25, z25⟩, st25⟩ := X24.virtualBack hx (y := (⟨"com/example/bare_container/barecontainer/bench/Workload$Start", "amongLibraries", "()Z"⟩ : MethodName)) (z := (⟨"com/example/bare_container/barecontainer/bench/Workload$Start", "amongLibraries", "()Z"⟩ : MethodName)) hown (mvT hZ (own_w hw 8 rfl)) (mvT hZ (own_w hw 9 rfl)) (notFace_of_selects (args := #[]) (mvT hZ (own_w hw 11 rfl))) (mvT hZ (own_w hw 11 rfl)) (mvT hZ (own_w hw 10 rfl)) (by decide) (backOf (W := 0) (own_rm2 l Z a0 hw [] w_NAMED w_SCANNED_AMONG_LIBRARIES h0 n0 Z0 S_SCANNED_AMONG_LIBRARIES) hZ (own_w hw 12 rfl) (own_w hw 6 rfl) (by decide) (by decide)) q25a q25c (g := (mkF m 69 #[.val (.int ip0), .val (.int ip1), .val (.int (1 : Int32)), .val (.ref w_SCANNED), .val (.int (0 : Int32)), .val (.int (0 : Int32)), .val (.ref w_EMPTY_CALL)] [(.ref w_NAMED)])) rfl (by rw [hml]; rfl) (Steps.refl _) (argsL := []) (rest := []) (lenOf own_pd1 rfl) rfl (by show 2 * 0 + _ ≤ _; exact Nat.le_of_eq rfl) (hb hby at_69) (fun _ _ => ⟨rfl, e24, (by decide : 0 + 0 ≤ _), (by decide : 0 + 0 ≤ _)⟩)
              dsimp only [Pt.U, Pt.locs, Pt.cells, Pt.slots] at X25 l25 y25 z25 st25 hQ25
              subst l25 y25 z25
              obtain ⟨N25q, e25, hL25⟩ := hQ25
              have N25 := Fr.app N24 N25q
              rcases hL25 with ⟨rfl, hq25_0_0, -⟩ | ⟨rfl, hq25_1_0, -⟩
              · skip
                exact absurd hq25_0_0 (Fld.ne F_ordinal_w_NAMED F_ordinal_w_SCANNED_AMONG_LIBRARIES (own_nei (by decide)))
              · skip
                refine own_st (fun t k => st25.trans k) ?_
                show own_Go _ _ _ _ T25 (mkF m 72 #[.val (.int ip0), .val (.int ip1), .val (.int (1 : Int32)), .val (.ref w_SCANNED), .val (.int (0 : Int32)), .val (.int (0 : Int32)), .val (.ref w_EMPTY_CALL)] [(.int (0 : Int32))])
                refine own_st (fun t k => XS.iload X25.here hx rfl (hb hby at_72) rfl k) ?_
                show own_Go _ _ _ _ T25 (mkF m 74 #[.val (.int ip0), .val (.int ip1), .val (.int (1 : Int32)), .val (.ref w_SCANNED), .val (.int (0 : Int32)), .val (.int (0 : Int32)), .val (.ref w_EMPTY_CALL)] [(.int (0 : Int32)), (.int (0 : Int32))])
                refine own_st (fun t k => XS.iconst X25.here hx rfl (hb hby at_74) k) ?_
                show own_Go _ _ _ _ T25 (mkF m 75 #[.val (.int ip0), .val (.int ip1), .val (.int (1 : Int32)), .val (.ref w_SCANNED), .val (.int (0 : Int32)), .val (.int (0 : Int32)), .val (.ref w_EMPTY_CALL)] [(.int (4 : Int32)), (.int (0 : Int32)), (.int (0 : Int32))])
                refine own_st (fun t k => XS.icmpYes X25.here hx rfl (pc0 := 75) (pc' := 82) rfl (hb hby at_75) rfl (feq (by decide : ¬ ((0 : Int32) = (4 : Int32)))).2 (by decide) (by decide) k) ?_
                show own_Go _ _ _ _ T25 (mkF m 82 #[.val (.int ip0), .val (.int ip1), .val (.int (1 : Int32)), .val (.ref w_SCANNED), .val (.int (0 : Int32)), .val (.int (0 : Int32)), .val (.ref w_EMPTY_CALL)] [(.int (0 : Int32))])
                refine own_st (fun t k => XS.iconst X25.here hx rfl (hb hby at_82) k) ?_
                show own_Go _ _ _ _ T25 (mkF m 83 #[.val (.int ip0), .val (.int ip1), .val (.int (1 : Int32)), .val (.ref w_SCANNED), .val (.int (0 : Int32)), .val (.int (0 : Int32)), .val (.ref w_EMPTY_CALL)] [(.int (0 : Int32)), (.int (0 : Int32))])
                refine own_st (fun t k => XS.icmpNo X25.here hx rfl (hb hby at_83) rfl (teq hq23_0_0).2 k) ?_
                show own_Go _ _ _ _ T25 (mkF m 86 #[.val (.int ip0), .val (.int ip1), .val (.int (1 : Int32)), .val (.ref w_SCANNED), .val (.int (0 : Int32)), .val (.int (0 : Int32)), .val (.ref w_EMPTY_CALL)] [])
                refine own_st (fun t k => XS.iconst X25.here hx rfl (hb hby at_86) k) ?_
                show own_Go _ _ _ _ T25 (mkF m 87 #[.val (.int ip0), .val (.int ip1), .val (.int (1 : Int32)), .val (.ref w_SCANNED), .val (.int (0 : Int32)), .val (.int (0 : Int32)), .val (.ref w_EMPTY_CALL)] [(.int (1 : Int32))])
                refine own_st (fun t k => XS.goto X25.here hx rfl (pc0 := 87) (pc' := 91) rfl (hb hby at_87) (by decide) (by decide) k) ?_
                show own_Go _ _ _ _ T25 (mkF m 91 #[.val (.int ip0), .val (.int ip1), .val (.int (1 : Int32)), .val (.ref w_SCANNED), .val (.int (0 : Int32)), .val (.int (0 : Int32)), .val (.ref w_EMPTY_CALL)] [(.int (1 : Int32))])
                exact own_retZ X25 hx hlk (t := .boolean) hret (by simp) (hb hby at_91) (by decide) (by decide) e25 ⟨rfl, N25⟩
          · skip
            exact absurd (by decide : (0 : Int32) = (0 : Int32)) hq23_1_0
          · skip
            exact absurd (by decide : (0 : Int32) = (0 : Int32)) hq23_2_0
          · skip
            exact absurd (by decide : (0 : Int32) = (0 : Int32)) hq23_3_0
          · skip
            exact absurd (by decide : (0 : Int32) = (0 : Int32)) hq23_4_0
        · rw [qr22]
          show own_Go _ _ _ _ T21 (mkF m 55 #[.val (.int ip0), .val (.int ip1), .val (.int (1 : Int32)), .val (.ref w_SCANNED), .val (.int (0 : Int32)), .unset, .unset] [(.int (1 : Int32))])
          refine own_st (fun t k => XS.istore X21.here hx rfl (hb hby at_55) rfl (l' := #[.val (.int ip0), .val (.int ip1), .val (.int (1 : Int32)), .val (.ref w_SCANNED), .val (.int (0 : Int32)), .val (.int (1 : Int32)), .unset]) rfl k) ?_
          show own_Go _ _ _ _ T21 (mkF m 57 #[.val (.int ip0), .val (.int ip1), .val (.int (1 : Int32)), .val (.ref w_SCANNED), .val (.int (0 : Int32)), .val (.int (1 : Int32)), .unset] [])
          refine own_st (fun t k => XS.iload X21.here hx rfl (hb hby at_57) rfl k) ?_
          show own_Go _ _ _ _ T21 (mkF m 59 #[.val (.int ip0), .val (.int ip1), .val (.int (1 : Int32)), .val (.ref w_SCANNED), .val (.int (0 : Int32)), .val (.int (1 : Int32)), .unset] [(.int (1 : Int32))])
          obtain ⟨_, _, ⟨T26, L26, k26, n26⟩, -, X26, ⟨Lc26, hQ26, l26, y26, z26⟩, st26⟩ := Jvm.LawKit.callS X21 hx (y := (⟨"com/example/bare_container/barecontainer/bench/StartAmongLibrariesPinLaw", "workloadOf", "(I)Lcom/example/bare_container/barecontainer/bench/Workload;"⟩ : MethodName)) hown (mvT hZ (own_w hw 15 rfl)) (mvT hZ (own_w hw 16 rfl)) (mvT hZ (own_w hw 3 rfl)) (mvT hZ (own_w hw 17 rfl)) (by decide) (backOf (W := 0) (own_rm3 l Z a0 hw [] (1 : Int32) w_EMPTY_CALL w_INSERT_CALL w_STARTUP w_STARTUP_SCANNED w_STARTUP_AMONG_LIBRARIES h0 n0 Z0 S_EMPTY_CALL S_INSERT_CALL S_STARTUP S_STARTUP_SCANNED S_STARTUP_AMONG_LIBRARIES) hZ (own_w hw 17 rfl) (own_w hw 3 rfl) (by decide) (by decide)) (g := (mkF m 59 #[.val (.int ip0), .val (.int ip1), .val (.int (1 : Int32)), .val (.ref w_SCANNED), .val (.int (0 : Int32)), .val (.int (1 : Int32)), .unset] [(.int (1 : Int32))])) rfl (by rw [hml]; rfl) (argsL := [(.int (1 : Int32))]) (rest := []) (lenOf own_pd2 rfl) rfl (by show 2 * 0 + _ ≤ _; exact Nat.le_of_eq rfl) (hb hby at_59) (fun _ _ => ⟨rfl, e21, (by decide : 0 + 0 ≤ _), (by decide : 0 + 0 ≤ _)⟩)
          dsimp only [Pt.U, Pt.locs, Pt.cells, Pt.slots] at X26 l26 y26 z26 st26 hQ26
          subst l26 y26 z26
          obtain ⟨N26q, e26, hL26⟩ := hQ26
          have N26 := Fr.app N21 N26q
          rcases hL26 with ⟨rfl, hq26_0_0, -⟩ | ⟨rfl, hq26_1_0, hq26_1_1, -⟩ | ⟨rfl, hq26_2_0, hq26_2_1, hq26_2_2, -⟩ | ⟨rfl, hq26_3_0, hq26_3_1, hq26_3_2, hq26_3_3, -⟩ | ⟨rfl, hq26_4_0, hq26_4_1, hq26_4_2, hq26_4_3, -⟩
          · skip
            exact absurd hq26_0_0 hq20_1_0
          · skip
            refine own_st st26 ?_
            show own_Go _ _ _ _ T26 (mkF m 62 #[.val (.int ip0), .val (.int ip1), .val (.int (1 : Int32)), .val (.ref w_SCANNED), .val (.int (0 : Int32)), .val (.int (1 : Int32)), .unset] [(.ref w_INSERT_CALL)])
            refine own_st (fun t k => XS.astore X26.here hx rfl (hb hby at_62) rfl rfl (l' := #[.val (.int ip0), .val (.int ip1), .val (.int (1 : Int32)), .val (.ref w_SCANNED), .val (.int (0 : Int32)), .val (.int (1 : Int32)), .val (.ref w_INSERT_CALL)]) rfl k) ?_
            show own_Go _ _ _ _ T26 (mkF m 64 #[.val (.int ip0), .val (.int ip1), .val (.int (1 : Int32)), .val (.ref w_SCANNED), .val (.int (0 : Int32)), .val (.int (1 : Int32)), .val (.ref w_INSERT_CALL)] [])
            refine own_st (fun t k => XS.aload X26.here hx rfl (hb hby at_64) rfl rfl k) ?_
            show own_Go _ _ _ _ T26 (mkF m 66 #[.val (.int ip0), .val (.int ip1), .val (.int (1 : Int32)), .val (.ref w_SCANNED), .val (.int (0 : Int32)), .val (.int (1 : Int32)), .val (.ref w_INSERT_CALL)] [(.ref w_INSERT_CALL)])
            obtain ⟨cq27, kq27, q27a, q27b, q27c⟩ := isOf hZ e26 E_w_INSERT_CALL
            obtain ⟨_, _, ⟨T27, L27, k27, n27⟩, -, X27, ⟨Lc27, hQ27, l27, y27, z27⟩, st27⟩ := X26.virtualBack hx (y := (⟨"com/example/bare_container/barecontainer/bench/Workload", "start", "()Lcom/example/bare_container/barecontainer/bench/Workload$Start;"⟩ : MethodName)) (z := (⟨"com/example/bare_container/barecontainer/bench/Workload", "start", "()Lcom/example/bare_container/barecontainer/bench/Workload$Start;"⟩ : MethodName)) hown (mvT hZ (own_w hw 21 rfl)) (mvT hZ (own_w hw 22 rfl)) (notFace_of_selects (args := #[]) (mvT hZ (own_w hw 24 rfl))) (mvT hZ (own_w hw 24 rfl)) (mvT hZ (own_w hw 23 rfl)) (by decide) (backOf (W := 0) (own_rm4 l Z a0 hw [] w_INSERT_CALL w_NAMED h0 n0 Z0 F_start_w_INSERT_CALL) hZ (own_w hw 25 rfl) (own_w hw 19 rfl) (by decide) (by decide)) q27a q27c (g := (mkF m 66 #[.val (.int ip0), .val (.int ip1), .val (.int (1 : Int32)), .val (.ref w_SCANNED), .val (.int (0 : Int32)), .val (.int (1 : Int32)), .val (.ref w_INSERT_CALL)] [(.ref w_INSERT_CALL)])) rfl (by rw [hml]; rfl) (Steps.refl _) (argsL := []) (rest := []) (lenOf own_pd3 rfl) rfl (by show 2 * 0 + _ ≤ _; exact Nat.le_of_eq rfl) (hb hby at_66) (fun _ _ => ⟨rfl, e26, (by decide : 0 + 0 ≤ _), (by decide : 0 + 0 ≤ _)⟩)
            dsimp only [Pt.U, Pt.locs, Pt.cells, Pt.slots] at X27 l27 y27 z27 st27 hQ27
            subst l27 y27 z27
            obtain ⟨N27q, e27, hL27⟩ := hQ27
            have N27 := Fr.app N26 N27q
            rcases hL27 with ⟨rfl, -⟩
            · skip
              refine own_st (fun t k => st27.trans k) ?_
              show own_Go _ _ _ _ T27 (mkF m 69 #[.val (.int ip0), .val (.int ip1), .val (.int (1 : Int32)), .val (.ref w_SCANNED), .val (.int (0 : Int32)), .val (.int (1 : Int32)), .val (.ref w_INSERT_CALL)] [(.ref w_NAMED)])
              obtain ⟨cq28, kq28, q28a, q28b, q28c⟩ := isOf hZ e27 E_w_NAMED
              obtain ⟨_, _, ⟨T28, L28, k28, n28⟩, -, X28, ⟨Lc28, hQ28, l28, y28, z28⟩, st28⟩ := X27.virtualBack hx (y := (⟨"com/example/bare_container/barecontainer/bench/Workload$Start", "amongLibraries", "()Z"⟩ : MethodName)) (z := (⟨"com/example/bare_container/barecontainer/bench/Workload$Start", "amongLibraries", "()Z"⟩ : MethodName)) hown (mvT hZ (own_w hw 8 rfl)) (mvT hZ (own_w hw 9 rfl)) (notFace_of_selects (args := #[]) (mvT hZ (own_w hw 11 rfl))) (mvT hZ (own_w hw 11 rfl)) (mvT hZ (own_w hw 10 rfl)) (by decide) (backOf (W := 0) (own_rm2 l Z a0 hw [] w_NAMED w_SCANNED_AMONG_LIBRARIES h0 n0 Z0 S_SCANNED_AMONG_LIBRARIES) hZ (own_w hw 12 rfl) (own_w hw 6 rfl) (by decide) (by decide)) q28a q28c (g := (mkF m 69 #[.val (.int ip0), .val (.int ip1), .val (.int (1 : Int32)), .val (.ref w_SCANNED), .val (.int (0 : Int32)), .val (.int (1 : Int32)), .val (.ref w_INSERT_CALL)] [(.ref w_NAMED)])) rfl (by rw [hml]; rfl) (Steps.refl _) (argsL := []) (rest := []) (lenOf own_pd1 rfl) rfl (by show 2 * 0 + _ ≤ _; exact Nat.le_of_eq rfl) (hb hby at_69) (fun _ _ => ⟨rfl, e27, (by decide : 0 + 0 ≤ _), (by decide : 0 + 0 ≤ _)⟩)
              dsimp only [Pt.U, Pt.locs, Pt.cells, Pt.slots] at X28 l28 y28 z28 st28 hQ28
              subst l28 y28 z28
              obtain ⟨N28q, e28, hL28⟩ := hQ28
              have N28 := Fr.app N27 N28q
              rcases hL28 with ⟨rfl, hq28_0_0, -⟩ | ⟨rfl, hq28_1_0, -⟩
              · skip
                exact absurd hq28_0_0 (Fld.ne F_ordinal_w_NAMED F_ordinal_w_SCANNED_AMONG_LIBRARIES (own_nei (by decide)))
              · skip
                refine own_st (fun t k => st28.trans k) ?_
                show own_Go _ _ _ _ T28 (mkF m 72 #[.val (.int ip0), .val (.int ip1), .val (.int (1 : Int32)), .val (.ref w_SCANNED), .val (.int (0 : Int32)), .val (.int (1 : Int32)), .val (.ref w_INSERT_CALL)] [(.int (0 : Int32))])
                refine own_st (fun t k => XS.iload X28.here hx rfl (hb hby at_72) rfl k) ?_
                show own_Go _ _ _ _ T28 (mkF m 74 #[.val (.int ip0), .val (.int ip1), .val (.int (1 : Int32)), .val (.ref w_SCANNED), .val (.int (0 : Int32)), .val (.int (1 : Int32)), .val (.ref w_INSERT_CALL)] [(.int (1 : Int32)), (.int (0 : Int32))])
                refine own_st (fun t k => XS.iconst X28.here hx rfl (hb hby at_74) k) ?_
                show own_Go _ _ _ _ T28 (mkF m 75 #[.val (.int ip0), .val (.int ip1), .val (.int (1 : Int32)), .val (.ref w_SCANNED), .val (.int (0 : Int32)), .val (.int (1 : Int32)), .val (.ref w_INSERT_CALL)] [(.int (4 : Int32)), (.int (1 : Int32)), (.int (0 : Int32))])
                refine own_st (fun t k => XS.icmpYes X28.here hx rfl (pc0 := 75) (pc' := 82) rfl (hb hby at_75) rfl (feq (by decide : ¬ ((1 : Int32) = (4 : Int32)))).2 (by decide) (by decide) k) ?_
                show own_Go _ _ _ _ T28 (mkF m 82 #[.val (.int ip0), .val (.int ip1), .val (.int (1 : Int32)), .val (.ref w_SCANNED), .val (.int (0 : Int32)), .val (.int (1 : Int32)), .val (.ref w_INSERT_CALL)] [(.int (0 : Int32))])
                refine own_st (fun t k => XS.iconst X28.here hx rfl (hb hby at_82) k) ?_
                show own_Go _ _ _ _ T28 (mkF m 83 #[.val (.int ip0), .val (.int ip1), .val (.int (1 : Int32)), .val (.ref w_SCANNED), .val (.int (0 : Int32)), .val (.int (1 : Int32)), .val (.ref w_INSERT_CALL)] [(.int (0 : Int32)), (.int (0 : Int32))])
                refine own_st (fun t k => XS.icmpNo X28.here hx rfl (hb hby at_83) rfl (teq (by decide : (0 : Int32) = (0 : Int32))).2 k) ?_
                show own_Go _ _ _ _ T28 (mkF m 86 #[.val (.int ip0), .val (.int ip1), .val (.int (1 : Int32)), .val (.ref w_SCANNED), .val (.int (0 : Int32)), .val (.int (1 : Int32)), .val (.ref w_INSERT_CALL)] [])
                refine own_st (fun t k => XS.iconst X28.here hx rfl (hb hby at_86) k) ?_
                show own_Go _ _ _ _ T28 (mkF m 87 #[.val (.int ip0), .val (.int ip1), .val (.int (1 : Int32)), .val (.ref w_SCANNED), .val (.int (0 : Int32)), .val (.int (1 : Int32)), .val (.ref w_INSERT_CALL)] [(.int (1 : Int32))])
                refine own_st (fun t k => XS.goto X28.here hx rfl (pc0 := 87) (pc' := 91) rfl (hb hby at_87) (by decide) (by decide) k) ?_
                show own_Go _ _ _ _ T28 (mkF m 91 #[.val (.int ip0), .val (.int ip1), .val (.int (1 : Int32)), .val (.ref w_SCANNED), .val (.int (0 : Int32)), .val (.int (1 : Int32)), .val (.ref w_INSERT_CALL)] [(.int (1 : Int32))])
                exact own_retZ X28 hx hlk (t := .boolean) hret (by simp) (hb hby at_91) (by decide) (by decide) e28 ⟨rfl, N28⟩
          · skip
            exact absurd hq20_1_1 hq26_2_1
          · skip
            exact absurd hq20_1_1 hq26_3_1
          · skip
            exact absurd hq20_1_1 hq26_4_1
        · rw [qr22]
          show own_Go _ _ _ _ T21 (mkF m 55 #[.val (.int ip0), .val (.int ip1), .val (.int (1 : Int32)), .val (.ref w_SCANNED), .val (.int (0 : Int32)), .unset, .unset] [(.int (2 : Int32))])
          refine own_st (fun t k => XS.istore X21.here hx rfl (hb hby at_55) rfl (l' := #[.val (.int ip0), .val (.int ip1), .val (.int (1 : Int32)), .val (.ref w_SCANNED), .val (.int (0 : Int32)), .val (.int (2 : Int32)), .unset]) rfl k) ?_
          show own_Go _ _ _ _ T21 (mkF m 57 #[.val (.int ip0), .val (.int ip1), .val (.int (1 : Int32)), .val (.ref w_SCANNED), .val (.int (0 : Int32)), .val (.int (2 : Int32)), .unset] [])
          refine own_st (fun t k => XS.iload X21.here hx rfl (hb hby at_57) rfl k) ?_
          show own_Go _ _ _ _ T21 (mkF m 59 #[.val (.int ip0), .val (.int ip1), .val (.int (1 : Int32)), .val (.ref w_SCANNED), .val (.int (0 : Int32)), .val (.int (2 : Int32)), .unset] [(.int (2 : Int32))])
          obtain ⟨_, _, ⟨T29, L29, k29, n29⟩, -, X29, ⟨Lc29, hQ29, l29, y29, z29⟩, st29⟩ := Jvm.LawKit.callS X21 hx (y := (⟨"com/example/bare_container/barecontainer/bench/StartAmongLibrariesPinLaw", "workloadOf", "(I)Lcom/example/bare_container/barecontainer/bench/Workload;"⟩ : MethodName)) hown (mvT hZ (own_w hw 15 rfl)) (mvT hZ (own_w hw 16 rfl)) (mvT hZ (own_w hw 3 rfl)) (mvT hZ (own_w hw 17 rfl)) (by decide) (backOf (W := 0) (own_rm3 l Z a0 hw [] (2 : Int32) w_EMPTY_CALL w_INSERT_CALL w_STARTUP w_STARTUP_SCANNED w_STARTUP_AMONG_LIBRARIES h0 n0 Z0 S_EMPTY_CALL S_INSERT_CALL S_STARTUP S_STARTUP_SCANNED S_STARTUP_AMONG_LIBRARIES) hZ (own_w hw 17 rfl) (own_w hw 3 rfl) (by decide) (by decide)) (g := (mkF m 59 #[.val (.int ip0), .val (.int ip1), .val (.int (1 : Int32)), .val (.ref w_SCANNED), .val (.int (0 : Int32)), .val (.int (2 : Int32)), .unset] [(.int (2 : Int32))])) rfl (by rw [hml]; rfl) (argsL := [(.int (2 : Int32))]) (rest := []) (lenOf own_pd2 rfl) rfl (by show 2 * 0 + _ ≤ _; exact Nat.le_of_eq rfl) (hb hby at_59) (fun _ _ => ⟨rfl, e21, (by decide : 0 + 0 ≤ _), (by decide : 0 + 0 ≤ _)⟩)
          dsimp only [Pt.U, Pt.locs, Pt.cells, Pt.slots] at X29 l29 y29 z29 st29 hQ29
          subst l29 y29 z29
          obtain ⟨N29q, e29, hL29⟩ := hQ29
          have N29 := Fr.app N21 N29q
          rcases hL29 with ⟨rfl, hq29_0_0, -⟩ | ⟨rfl, hq29_1_0, hq29_1_1, -⟩ | ⟨rfl, hq29_2_0, hq29_2_1, hq29_2_2, -⟩ | ⟨rfl, hq29_3_0, hq29_3_1, hq29_3_2, hq29_3_3, -⟩ | ⟨rfl, hq29_4_0, hq29_4_1, hq29_4_2, hq29_4_3, -⟩
          · skip
            exact absurd hq29_0_0 (by decide : ¬ ((2 : Int32) = (0 : Int32)))
          · skip
            exact absurd hq29_1_1 (by decide : ¬ ((2 : Int32) = (1 : Int32)))
          · skip
            refine own_st st29 ?_
            show own_Go _ _ _ _ T29 (mkF m 62 #[.val (.int ip0), .val (.int ip1), .val (.int (1 : Int32)), .val (.ref w_SCANNED), .val (.int (0 : Int32)), .val (.int (2 : Int32)), .unset] [(.ref w_STARTUP)])
            refine own_st (fun t k => XS.astore X29.here hx rfl (hb hby at_62) rfl rfl (l' := #[.val (.int ip0), .val (.int ip1), .val (.int (1 : Int32)), .val (.ref w_SCANNED), .val (.int (0 : Int32)), .val (.int (2 : Int32)), .val (.ref w_STARTUP)]) rfl k) ?_
            show own_Go _ _ _ _ T29 (mkF m 64 #[.val (.int ip0), .val (.int ip1), .val (.int (1 : Int32)), .val (.ref w_SCANNED), .val (.int (0 : Int32)), .val (.int (2 : Int32)), .val (.ref w_STARTUP)] [])
            refine own_st (fun t k => XS.aload X29.here hx rfl (hb hby at_64) rfl rfl k) ?_
            show own_Go _ _ _ _ T29 (mkF m 66 #[.val (.int ip0), .val (.int ip1), .val (.int (1 : Int32)), .val (.ref w_SCANNED), .val (.int (0 : Int32)), .val (.int (2 : Int32)), .val (.ref w_STARTUP)] [(.ref w_STARTUP)])
            obtain ⟨cq30, kq30, q30a, q30b, q30c⟩ := isOf hZ e29 E_w_STARTUP
            obtain ⟨_, _, ⟨T30, L30, k30, n30⟩, -, X30, ⟨Lc30, hQ30, l30, y30, z30⟩, st30⟩ := X29.virtualBack hx (y := (⟨"com/example/bare_container/barecontainer/bench/Workload", "start", "()Lcom/example/bare_container/barecontainer/bench/Workload$Start;"⟩ : MethodName)) (z := (⟨"com/example/bare_container/barecontainer/bench/Workload", "start", "()Lcom/example/bare_container/barecontainer/bench/Workload$Start;"⟩ : MethodName)) hown (mvT hZ (own_w hw 21 rfl)) (mvT hZ (own_w hw 22 rfl)) (notFace_of_selects (args := #[]) (mvT hZ (own_w hw 24 rfl))) (mvT hZ (own_w hw 24 rfl)) (mvT hZ (own_w hw 23 rfl)) (by decide) (backOf (W := 0) (own_rm4 l Z a0 hw [] w_STARTUP w_NAMED h0 n0 Z0 F_start_w_STARTUP) hZ (own_w hw 25 rfl) (own_w hw 19 rfl) (by decide) (by decide)) q30a q30c (g := (mkF m 66 #[.val (.int ip0), .val (.int ip1), .val (.int (1 : Int32)), .val (.ref w_SCANNED), .val (.int (0 : Int32)), .val (.int (2 : Int32)), .val (.ref w_STARTUP)] [(.ref w_STARTUP)])) rfl (by rw [hml]; rfl) (Steps.refl _) (argsL := []) (rest := []) (lenOf own_pd3 rfl) rfl (by show 2 * 0 + _ ≤ _; exact Nat.le_of_eq rfl) (hb hby at_66) (fun _ _ => ⟨rfl, e29, (by decide : 0 + 0 ≤ _), (by decide : 0 + 0 ≤ _)⟩)
            dsimp only [Pt.U, Pt.locs, Pt.cells, Pt.slots] at X30 l30 y30 z30 st30 hQ30
            subst l30 y30 z30
            obtain ⟨N30q, e30, hL30⟩ := hQ30
            have N30 := Fr.app N29 N30q
            rcases hL30 with ⟨rfl, -⟩
            · skip
              refine own_st (fun t k => st30.trans k) ?_
              show own_Go _ _ _ _ T30 (mkF m 69 #[.val (.int ip0), .val (.int ip1), .val (.int (1 : Int32)), .val (.ref w_SCANNED), .val (.int (0 : Int32)), .val (.int (2 : Int32)), .val (.ref w_STARTUP)] [(.ref w_NAMED)])
              obtain ⟨cq31, kq31, q31a, q31b, q31c⟩ := isOf hZ e30 E_w_NAMED
              obtain ⟨_, _, ⟨T31, L31, k31, n31⟩, -, X31, ⟨Lc31, hQ31, l31, y31, z31⟩, st31⟩ := X30.virtualBack hx (y := (⟨"com/example/bare_container/barecontainer/bench/Workload$Start", "amongLibraries", "()Z"⟩ : MethodName)) (z := (⟨"com/example/bare_container/barecontainer/bench/Workload$Start", "amongLibraries", "()Z"⟩ : MethodName)) hown (mvT hZ (own_w hw 8 rfl)) (mvT hZ (own_w hw 9 rfl)) (notFace_of_selects (args := #[]) (mvT hZ (own_w hw 11 rfl))) (mvT hZ (own_w hw 11 rfl)) (mvT hZ (own_w hw 10 rfl)) (by decide) (backOf (W := 0) (own_rm2 l Z a0 hw [] w_NAMED w_SCANNED_AMONG_LIBRARIES h0 n0 Z0 S_SCANNED_AMONG_LIBRARIES) hZ (own_w hw 12 rfl) (own_w hw 6 rfl) (by decide) (by decide)) q31a q31c (g := (mkF m 69 #[.val (.int ip0), .val (.int ip1), .val (.int (1 : Int32)), .val (.ref w_SCANNED), .val (.int (0 : Int32)), .val (.int (2 : Int32)), .val (.ref w_STARTUP)] [(.ref w_NAMED)])) rfl (by rw [hml]; rfl) (Steps.refl _) (argsL := []) (rest := []) (lenOf own_pd1 rfl) rfl (by show 2 * 0 + _ ≤ _; exact Nat.le_of_eq rfl) (hb hby at_69) (fun _ _ => ⟨rfl, e30, (by decide : 0 + 0 ≤ _), (by decide : 0 + 0 ≤ _)⟩)
              dsimp only [Pt.U, Pt.locs, Pt.cells, Pt.slots] at X31 l31 y31 z31 st31 hQ31
              subst l31 y31 z31
              obtain ⟨N31q, e31, hL31⟩ := hQ31
              have N31 := Fr.app N30 N31q
              rcases hL31 with ⟨rfl, hq31_0_0, -⟩ | ⟨rfl, hq31_1_0, -⟩
              · skip
                exact absurd hq31_0_0 (Fld.ne F_ordinal_w_NAMED F_ordinal_w_SCANNED_AMONG_LIBRARIES (own_nei (by decide)))
              · skip
                refine own_st (fun t k => st31.trans k) ?_
                show own_Go _ _ _ _ T31 (mkF m 72 #[.val (.int ip0), .val (.int ip1), .val (.int (1 : Int32)), .val (.ref w_SCANNED), .val (.int (0 : Int32)), .val (.int (2 : Int32)), .val (.ref w_STARTUP)] [(.int (0 : Int32))])
                refine own_st (fun t k => XS.iload X31.here hx rfl (hb hby at_72) rfl k) ?_
                show own_Go _ _ _ _ T31 (mkF m 74 #[.val (.int ip0), .val (.int ip1), .val (.int (1 : Int32)), .val (.ref w_SCANNED), .val (.int (0 : Int32)), .val (.int (2 : Int32)), .val (.ref w_STARTUP)] [(.int (2 : Int32)), (.int (0 : Int32))])
                refine own_st (fun t k => XS.iconst X31.here hx rfl (hb hby at_74) k) ?_
                show own_Go _ _ _ _ T31 (mkF m 75 #[.val (.int ip0), .val (.int ip1), .val (.int (1 : Int32)), .val (.ref w_SCANNED), .val (.int (0 : Int32)), .val (.int (2 : Int32)), .val (.ref w_STARTUP)] [(.int (4 : Int32)), (.int (2 : Int32)), (.int (0 : Int32))])
                refine own_st (fun t k => XS.icmpYes X31.here hx rfl (pc0 := 75) (pc' := 82) rfl (hb hby at_75) rfl (feq (by decide : ¬ ((2 : Int32) = (4 : Int32)))).2 (by decide) (by decide) k) ?_
                show own_Go _ _ _ _ T31 (mkF m 82 #[.val (.int ip0), .val (.int ip1), .val (.int (1 : Int32)), .val (.ref w_SCANNED), .val (.int (0 : Int32)), .val (.int (2 : Int32)), .val (.ref w_STARTUP)] [(.int (0 : Int32))])
                refine own_st (fun t k => XS.iconst X31.here hx rfl (hb hby at_82) k) ?_
                show own_Go _ _ _ _ T31 (mkF m 83 #[.val (.int ip0), .val (.int ip1), .val (.int (1 : Int32)), .val (.ref w_SCANNED), .val (.int (0 : Int32)), .val (.int (2 : Int32)), .val (.ref w_STARTUP)] [(.int (0 : Int32)), (.int (0 : Int32))])
                refine own_st (fun t k => XS.icmpNo X31.here hx rfl (hb hby at_83) rfl (teq (by decide : (0 : Int32) = (0 : Int32))).2 k) ?_
                show own_Go _ _ _ _ T31 (mkF m 86 #[.val (.int ip0), .val (.int ip1), .val (.int (1 : Int32)), .val (.ref w_SCANNED), .val (.int (0 : Int32)), .val (.int (2 : Int32)), .val (.ref w_STARTUP)] [])
                refine own_st (fun t k => XS.iconst X31.here hx rfl (hb hby at_86) k) ?_
                show own_Go _ _ _ _ T31 (mkF m 87 #[.val (.int ip0), .val (.int ip1), .val (.int (1 : Int32)), .val (.ref w_SCANNED), .val (.int (0 : Int32)), .val (.int (2 : Int32)), .val (.ref w_STARTUP)] [(.int (1 : Int32))])
                refine own_st (fun t k => XS.goto X31.here hx rfl (pc0 := 87) (pc' := 91) rfl (hb hby at_87) (by decide) (by decide) k) ?_
                show own_Go _ _ _ _ T31 (mkF m 91 #[.val (.int ip0), .val (.int ip1), .val (.int (1 : Int32)), .val (.ref w_SCANNED), .val (.int (0 : Int32)), .val (.int (2 : Int32)), .val (.ref w_STARTUP)] [(.int (1 : Int32))])
                exact own_retZ X31 hx hlk (t := .boolean) hret (by simp) (hb hby at_91) (by decide) (by decide) e31 ⟨rfl, N31⟩
          · skip
            exact absurd (by decide : (2 : Int32) = (2 : Int32)) hq29_3_2
          · skip
            exact absurd (by decide : (2 : Int32) = (2 : Int32)) hq29_4_2
        · rw [qr22]
          show own_Go _ _ _ _ T21 (mkF m 55 #[.val (.int ip0), .val (.int ip1), .val (.int (1 : Int32)), .val (.ref w_SCANNED), .val (.int (0 : Int32)), .unset, .unset] [(.int (3 : Int32))])
          refine own_st (fun t k => XS.istore X21.here hx rfl (hb hby at_55) rfl (l' := #[.val (.int ip0), .val (.int ip1), .val (.int (1 : Int32)), .val (.ref w_SCANNED), .val (.int (0 : Int32)), .val (.int (3 : Int32)), .unset]) rfl k) ?_
          show own_Go _ _ _ _ T21 (mkF m 57 #[.val (.int ip0), .val (.int ip1), .val (.int (1 : Int32)), .val (.ref w_SCANNED), .val (.int (0 : Int32)), .val (.int (3 : Int32)), .unset] [])
          refine own_st (fun t k => XS.iload X21.here hx rfl (hb hby at_57) rfl k) ?_
          show own_Go _ _ _ _ T21 (mkF m 59 #[.val (.int ip0), .val (.int ip1), .val (.int (1 : Int32)), .val (.ref w_SCANNED), .val (.int (0 : Int32)), .val (.int (3 : Int32)), .unset] [(.int (3 : Int32))])
          obtain ⟨_, _, ⟨T32, L32, k32, n32⟩, -, X32, ⟨Lc32, hQ32, l32, y32, z32⟩, st32⟩ := Jvm.LawKit.callS X21 hx (y := (⟨"com/example/bare_container/barecontainer/bench/StartAmongLibrariesPinLaw", "workloadOf", "(I)Lcom/example/bare_container/barecontainer/bench/Workload;"⟩ : MethodName)) hown (mvT hZ (own_w hw 15 rfl)) (mvT hZ (own_w hw 16 rfl)) (mvT hZ (own_w hw 3 rfl)) (mvT hZ (own_w hw 17 rfl)) (by decide) (backOf (W := 0) (own_rm3 l Z a0 hw [] (3 : Int32) w_EMPTY_CALL w_INSERT_CALL w_STARTUP w_STARTUP_SCANNED w_STARTUP_AMONG_LIBRARIES h0 n0 Z0 S_EMPTY_CALL S_INSERT_CALL S_STARTUP S_STARTUP_SCANNED S_STARTUP_AMONG_LIBRARIES) hZ (own_w hw 17 rfl) (own_w hw 3 rfl) (by decide) (by decide)) (g := (mkF m 59 #[.val (.int ip0), .val (.int ip1), .val (.int (1 : Int32)), .val (.ref w_SCANNED), .val (.int (0 : Int32)), .val (.int (3 : Int32)), .unset] [(.int (3 : Int32))])) rfl (by rw [hml]; rfl) (argsL := [(.int (3 : Int32))]) (rest := []) (lenOf own_pd2 rfl) rfl (by show 2 * 0 + _ ≤ _; exact Nat.le_of_eq rfl) (hb hby at_59) (fun _ _ => ⟨rfl, e21, (by decide : 0 + 0 ≤ _), (by decide : 0 + 0 ≤ _)⟩)
          dsimp only [Pt.U, Pt.locs, Pt.cells, Pt.slots] at X32 l32 y32 z32 st32 hQ32
          subst l32 y32 z32
          obtain ⟨N32q, e32, hL32⟩ := hQ32
          have N32 := Fr.app N21 N32q
          rcases hL32 with ⟨rfl, hq32_0_0, -⟩ | ⟨rfl, hq32_1_0, hq32_1_1, -⟩ | ⟨rfl, hq32_2_0, hq32_2_1, hq32_2_2, -⟩ | ⟨rfl, hq32_3_0, hq32_3_1, hq32_3_2, hq32_3_3, -⟩ | ⟨rfl, hq32_4_0, hq32_4_1, hq32_4_2, hq32_4_3, -⟩
          · skip
            exact absurd hq32_0_0 (by decide : ¬ ((3 : Int32) = (0 : Int32)))
          · skip
            exact absurd hq32_1_1 (by decide : ¬ ((3 : Int32) = (1 : Int32)))
          · skip
            exact absurd hq32_2_2 (by decide : ¬ ((3 : Int32) = (2 : Int32)))
          · skip
            refine own_st st32 ?_
            show own_Go _ _ _ _ T32 (mkF m 62 #[.val (.int ip0), .val (.int ip1), .val (.int (1 : Int32)), .val (.ref w_SCANNED), .val (.int (0 : Int32)), .val (.int (3 : Int32)), .unset] [(.ref w_STARTUP_SCANNED)])
            refine own_st (fun t k => XS.astore X32.here hx rfl (hb hby at_62) rfl rfl (l' := #[.val (.int ip0), .val (.int ip1), .val (.int (1 : Int32)), .val (.ref w_SCANNED), .val (.int (0 : Int32)), .val (.int (3 : Int32)), .val (.ref w_STARTUP_SCANNED)]) rfl k) ?_
            show own_Go _ _ _ _ T32 (mkF m 64 #[.val (.int ip0), .val (.int ip1), .val (.int (1 : Int32)), .val (.ref w_SCANNED), .val (.int (0 : Int32)), .val (.int (3 : Int32)), .val (.ref w_STARTUP_SCANNED)] [])
            refine own_st (fun t k => XS.aload X32.here hx rfl (hb hby at_64) rfl rfl k) ?_
            show own_Go _ _ _ _ T32 (mkF m 66 #[.val (.int ip0), .val (.int ip1), .val (.int (1 : Int32)), .val (.ref w_SCANNED), .val (.int (0 : Int32)), .val (.int (3 : Int32)), .val (.ref w_STARTUP_SCANNED)] [(.ref w_STARTUP_SCANNED)])
            obtain ⟨cq33, kq33, q33a, q33b, q33c⟩ := isOf hZ e32 E_w_STARTUP_SCANNED
            obtain ⟨_, _, ⟨T33, L33, k33, n33⟩, -, X33, ⟨Lc33, hQ33, l33, y33, z33⟩, st33⟩ := X32.virtualBack hx (y := (⟨"com/example/bare_container/barecontainer/bench/Workload", "start", "()Lcom/example/bare_container/barecontainer/bench/Workload$Start;"⟩ : MethodName)) (z := (⟨"com/example/bare_container/barecontainer/bench/Workload", "start", "()Lcom/example/bare_container/barecontainer/bench/Workload$Start;"⟩ : MethodName)) hown (mvT hZ (own_w hw 21 rfl)) (mvT hZ (own_w hw 22 rfl)) (notFace_of_selects (args := #[]) (mvT hZ (own_w hw 24 rfl))) (mvT hZ (own_w hw 24 rfl)) (mvT hZ (own_w hw 23 rfl)) (by decide) (backOf (W := 0) (own_rm4 l Z a0 hw [] w_STARTUP_SCANNED w_SCANNED h0 n0 Z0 F_start_w_STARTUP_SCANNED) hZ (own_w hw 25 rfl) (own_w hw 19 rfl) (by decide) (by decide)) q33a q33c (g := (mkF m 66 #[.val (.int ip0), .val (.int ip1), .val (.int (1 : Int32)), .val (.ref w_SCANNED), .val (.int (0 : Int32)), .val (.int (3 : Int32)), .val (.ref w_STARTUP_SCANNED)] [(.ref w_STARTUP_SCANNED)])) rfl (by rw [hml]; rfl) (Steps.refl _) (argsL := []) (rest := []) (lenOf own_pd3 rfl) rfl (by show 2 * 0 + _ ≤ _; exact Nat.le_of_eq rfl) (hb hby at_66) (fun _ _ => ⟨rfl, e32, (by decide : 0 + 0 ≤ _), (by decide : 0 + 0 ≤ _)⟩)
            dsimp only [Pt.U, Pt.locs, Pt.cells, Pt.slots] at X33 l33 y33 z33 st33 hQ33
            subst l33 y33 z33
            obtain ⟨N33q, e33, hL33⟩ := hQ33
            have N33 := Fr.app N32 N33q
            rcases hL33 with ⟨rfl, -⟩
            · skip
              refine own_st (fun t k => st33.trans k) ?_
              show own_Go _ _ _ _ T33 (mkF m 69 #[.val (.int ip0), .val (.int ip1), .val (.int (1 : Int32)), .val (.ref w_SCANNED), .val (.int (0 : Int32)), .val (.int (3 : Int32)), .val (.ref w_STARTUP_SCANNED)] [(.ref w_SCANNED)])
              obtain ⟨cq34, kq34, q34a, q34b, q34c⟩ := isOf hZ e33 E_w_SCANNED
              obtain ⟨_, _, ⟨T34, L34, k34, n34⟩, -, X34, ⟨Lc34, hQ34, l34, y34, z34⟩, st34⟩ := X33.virtualBack hx (y := (⟨"com/example/bare_container/barecontainer/bench/Workload$Start", "amongLibraries", "()Z"⟩ : MethodName)) (z := (⟨"com/example/bare_container/barecontainer/bench/Workload$Start", "amongLibraries", "()Z"⟩ : MethodName)) hown (mvT hZ (own_w hw 8 rfl)) (mvT hZ (own_w hw 9 rfl)) (notFace_of_selects (args := #[]) (mvT hZ (own_w hw 11 rfl))) (mvT hZ (own_w hw 11 rfl)) (mvT hZ (own_w hw 10 rfl)) (by decide) (backOf (W := 0) (own_rm2 l Z a0 hw [] w_SCANNED w_SCANNED_AMONG_LIBRARIES h0 n0 Z0 S_SCANNED_AMONG_LIBRARIES) hZ (own_w hw 12 rfl) (own_w hw 6 rfl) (by decide) (by decide)) q34a q34c (g := (mkF m 69 #[.val (.int ip0), .val (.int ip1), .val (.int (1 : Int32)), .val (.ref w_SCANNED), .val (.int (0 : Int32)), .val (.int (3 : Int32)), .val (.ref w_STARTUP_SCANNED)] [(.ref w_SCANNED)])) rfl (by rw [hml]; rfl) (Steps.refl _) (argsL := []) (rest := []) (lenOf own_pd1 rfl) rfl (by show 2 * 0 + _ ≤ _; exact Nat.le_of_eq rfl) (hb hby at_69) (fun _ _ => ⟨rfl, e33, (by decide : 0 + 0 ≤ _), (by decide : 0 + 0 ≤ _)⟩)
              dsimp only [Pt.U, Pt.locs, Pt.cells, Pt.slots] at X34 l34 y34 z34 st34 hQ34
              subst l34 y34 z34
              obtain ⟨N34q, e34, hL34⟩ := hQ34
              have N34 := Fr.app N33 N34q
              rcases hL34 with ⟨rfl, hq34_0_0, -⟩ | ⟨rfl, hq34_1_0, -⟩
              · skip
                exact absurd hq34_0_0 hq21_1_0
              · skip
                refine own_st (fun t k => st34.trans k) ?_
                show own_Go _ _ _ _ T34 (mkF m 72 #[.val (.int ip0), .val (.int ip1), .val (.int (1 : Int32)), .val (.ref w_SCANNED), .val (.int (0 : Int32)), .val (.int (3 : Int32)), .val (.ref w_STARTUP_SCANNED)] [(.int (0 : Int32))])
                refine own_st (fun t k => XS.iload X34.here hx rfl (hb hby at_72) rfl k) ?_
                show own_Go _ _ _ _ T34 (mkF m 74 #[.val (.int ip0), .val (.int ip1), .val (.int (1 : Int32)), .val (.ref w_SCANNED), .val (.int (0 : Int32)), .val (.int (3 : Int32)), .val (.ref w_STARTUP_SCANNED)] [(.int (3 : Int32)), (.int (0 : Int32))])
                refine own_st (fun t k => XS.iconst X34.here hx rfl (hb hby at_74) k) ?_
                show own_Go _ _ _ _ T34 (mkF m 75 #[.val (.int ip0), .val (.int ip1), .val (.int (1 : Int32)), .val (.ref w_SCANNED), .val (.int (0 : Int32)), .val (.int (3 : Int32)), .val (.ref w_STARTUP_SCANNED)] [(.int (4 : Int32)), (.int (3 : Int32)), (.int (0 : Int32))])
                refine own_st (fun t k => XS.icmpYes X34.here hx rfl (pc0 := 75) (pc' := 82) rfl (hb hby at_75) rfl (feq (by decide : ¬ ((3 : Int32) = (4 : Int32)))).2 (by decide) (by decide) k) ?_
                show own_Go _ _ _ _ T34 (mkF m 82 #[.val (.int ip0), .val (.int ip1), .val (.int (1 : Int32)), .val (.ref w_SCANNED), .val (.int (0 : Int32)), .val (.int (3 : Int32)), .val (.ref w_STARTUP_SCANNED)] [(.int (0 : Int32))])
                refine own_st (fun t k => XS.iconst X34.here hx rfl (hb hby at_82) k) ?_
                show own_Go _ _ _ _ T34 (mkF m 83 #[.val (.int ip0), .val (.int ip1), .val (.int (1 : Int32)), .val (.ref w_SCANNED), .val (.int (0 : Int32)), .val (.int (3 : Int32)), .val (.ref w_STARTUP_SCANNED)] [(.int (0 : Int32)), (.int (0 : Int32))])
                refine own_st (fun t k => XS.icmpNo X34.here hx rfl (hb hby at_83) rfl (teq (by decide : (0 : Int32) = (0 : Int32))).2 k) ?_
                show own_Go _ _ _ _ T34 (mkF m 86 #[.val (.int ip0), .val (.int ip1), .val (.int (1 : Int32)), .val (.ref w_SCANNED), .val (.int (0 : Int32)), .val (.int (3 : Int32)), .val (.ref w_STARTUP_SCANNED)] [])
                refine own_st (fun t k => XS.iconst X34.here hx rfl (hb hby at_86) k) ?_
                show own_Go _ _ _ _ T34 (mkF m 87 #[.val (.int ip0), .val (.int ip1), .val (.int (1 : Int32)), .val (.ref w_SCANNED), .val (.int (0 : Int32)), .val (.int (3 : Int32)), .val (.ref w_STARTUP_SCANNED)] [(.int (1 : Int32))])
                refine own_st (fun t k => XS.goto X34.here hx rfl (pc0 := 87) (pc' := 91) rfl (hb hby at_87) (by decide) (by decide) k) ?_
                show own_Go _ _ _ _ T34 (mkF m 91 #[.val (.int ip0), .val (.int ip1), .val (.int (1 : Int32)), .val (.ref w_SCANNED), .val (.int (0 : Int32)), .val (.int (3 : Int32)), .val (.ref w_STARTUP_SCANNED)] [(.int (1 : Int32))])
                exact own_retZ X34 hx hlk (t := .boolean) hret (by simp) (hb hby at_91) (by decide) (by decide) e34 ⟨rfl, N34⟩
          · skip
            exact absurd (by decide : (3 : Int32) = (3 : Int32)) hq32_4_3
        · rw [qr22]
          show own_Go _ _ _ _ T21 (mkF m 55 #[.val (.int ip0), .val (.int ip1), .val (.int (1 : Int32)), .val (.ref w_SCANNED), .val (.int (0 : Int32)), .unset, .unset] [(.int (4 : Int32))])
          refine own_st (fun t k => XS.istore X21.here hx rfl (hb hby at_55) rfl (l' := #[.val (.int ip0), .val (.int ip1), .val (.int (1 : Int32)), .val (.ref w_SCANNED), .val (.int (0 : Int32)), .val (.int (4 : Int32)), .unset]) rfl k) ?_
          show own_Go _ _ _ _ T21 (mkF m 57 #[.val (.int ip0), .val (.int ip1), .val (.int (1 : Int32)), .val (.ref w_SCANNED), .val (.int (0 : Int32)), .val (.int (4 : Int32)), .unset] [])
          refine own_st (fun t k => XS.iload X21.here hx rfl (hb hby at_57) rfl k) ?_
          show own_Go _ _ _ _ T21 (mkF m 59 #[.val (.int ip0), .val (.int ip1), .val (.int (1 : Int32)), .val (.ref w_SCANNED), .val (.int (0 : Int32)), .val (.int (4 : Int32)), .unset] [(.int (4 : Int32))])
          obtain ⟨_, _, ⟨T35, L35, k35, n35⟩, -, X35, ⟨Lc35, hQ35, l35, y35, z35⟩, st35⟩ := Jvm.LawKit.callS X21 hx (y := (⟨"com/example/bare_container/barecontainer/bench/StartAmongLibrariesPinLaw", "workloadOf", "(I)Lcom/example/bare_container/barecontainer/bench/Workload;"⟩ : MethodName)) hown (mvT hZ (own_w hw 15 rfl)) (mvT hZ (own_w hw 16 rfl)) (mvT hZ (own_w hw 3 rfl)) (mvT hZ (own_w hw 17 rfl)) (by decide) (backOf (W := 0) (own_rm3 l Z a0 hw [] (4 : Int32) w_EMPTY_CALL w_INSERT_CALL w_STARTUP w_STARTUP_SCANNED w_STARTUP_AMONG_LIBRARIES h0 n0 Z0 S_EMPTY_CALL S_INSERT_CALL S_STARTUP S_STARTUP_SCANNED S_STARTUP_AMONG_LIBRARIES) hZ (own_w hw 17 rfl) (own_w hw 3 rfl) (by decide) (by decide)) (g := (mkF m 59 #[.val (.int ip0), .val (.int ip1), .val (.int (1 : Int32)), .val (.ref w_SCANNED), .val (.int (0 : Int32)), .val (.int (4 : Int32)), .unset] [(.int (4 : Int32))])) rfl (by rw [hml]; rfl) (argsL := [(.int (4 : Int32))]) (rest := []) (lenOf own_pd2 rfl) rfl (by show 2 * 0 + _ ≤ _; exact Nat.le_of_eq rfl) (hb hby at_59) (fun _ _ => ⟨rfl, e21, (by decide : 0 + 0 ≤ _), (by decide : 0 + 0 ≤ _)⟩)
          dsimp only [Pt.U, Pt.locs, Pt.cells, Pt.slots] at X35 l35 y35 z35 st35 hQ35
          subst l35 y35 z35
          obtain ⟨N35q, e35, hL35⟩ := hQ35
          have N35 := Fr.app N21 N35q
          rcases hL35 with ⟨rfl, hq35_0_0, -⟩ | ⟨rfl, hq35_1_0, hq35_1_1, -⟩ | ⟨rfl, hq35_2_0, hq35_2_1, hq35_2_2, -⟩ | ⟨rfl, hq35_3_0, hq35_3_1, hq35_3_2, hq35_3_3, -⟩ | ⟨rfl, hq35_4_0, hq35_4_1, hq35_4_2, hq35_4_3, -⟩
          · skip
            exact absurd hq35_0_0 (by decide : ¬ ((4 : Int32) = (0 : Int32)))
          · skip
            exact absurd hq35_1_1 (by decide : ¬ ((4 : Int32) = (1 : Int32)))
          · skip
            exact absurd hq35_2_2 (by decide : ¬ ((4 : Int32) = (2 : Int32)))
          · skip
            exact absurd hq35_3_3 (by decide : ¬ ((4 : Int32) = (3 : Int32)))
          · skip
            refine own_st st35 ?_
            show own_Go _ _ _ _ T35 (mkF m 62 #[.val (.int ip0), .val (.int ip1), .val (.int (1 : Int32)), .val (.ref w_SCANNED), .val (.int (0 : Int32)), .val (.int (4 : Int32)), .unset] [(.ref w_STARTUP_AMONG_LIBRARIES)])
            refine own_st (fun t k => XS.astore X35.here hx rfl (hb hby at_62) rfl rfl (l' := #[.val (.int ip0), .val (.int ip1), .val (.int (1 : Int32)), .val (.ref w_SCANNED), .val (.int (0 : Int32)), .val (.int (4 : Int32)), .val (.ref w_STARTUP_AMONG_LIBRARIES)]) rfl k) ?_
            show own_Go _ _ _ _ T35 (mkF m 64 #[.val (.int ip0), .val (.int ip1), .val (.int (1 : Int32)), .val (.ref w_SCANNED), .val (.int (0 : Int32)), .val (.int (4 : Int32)), .val (.ref w_STARTUP_AMONG_LIBRARIES)] [])
            refine own_st (fun t k => XS.aload X35.here hx rfl (hb hby at_64) rfl rfl k) ?_
            show own_Go _ _ _ _ T35 (mkF m 66 #[.val (.int ip0), .val (.int ip1), .val (.int (1 : Int32)), .val (.ref w_SCANNED), .val (.int (0 : Int32)), .val (.int (4 : Int32)), .val (.ref w_STARTUP_AMONG_LIBRARIES)] [(.ref w_STARTUP_AMONG_LIBRARIES)])
            obtain ⟨cq36, kq36, q36a, q36b, q36c⟩ := isOf hZ e35 E_w_STARTUP_AMONG_LIBRARIES
            obtain ⟨_, _, ⟨T36, L36, k36, n36⟩, -, X36, ⟨Lc36, hQ36, l36, y36, z36⟩, st36⟩ := X35.virtualBack hx (y := (⟨"com/example/bare_container/barecontainer/bench/Workload", "start", "()Lcom/example/bare_container/barecontainer/bench/Workload$Start;"⟩ : MethodName)) (z := (⟨"com/example/bare_container/barecontainer/bench/Workload", "start", "()Lcom/example/bare_container/barecontainer/bench/Workload$Start;"⟩ : MethodName)) hown (mvT hZ (own_w hw 21 rfl)) (mvT hZ (own_w hw 22 rfl)) (notFace_of_selects (args := #[]) (mvT hZ (own_w hw 24 rfl))) (mvT hZ (own_w hw 24 rfl)) (mvT hZ (own_w hw 23 rfl)) (by decide) (backOf (W := 0) (own_rm4 l Z a0 hw [] w_STARTUP_AMONG_LIBRARIES w_SCANNED_AMONG_LIBRARIES h0 n0 Z0 F_start_w_STARTUP_AMONG_LIBRARIES) hZ (own_w hw 25 rfl) (own_w hw 19 rfl) (by decide) (by decide)) q36a q36c (g := (mkF m 66 #[.val (.int ip0), .val (.int ip1), .val (.int (1 : Int32)), .val (.ref w_SCANNED), .val (.int (0 : Int32)), .val (.int (4 : Int32)), .val (.ref w_STARTUP_AMONG_LIBRARIES)] [(.ref w_STARTUP_AMONG_LIBRARIES)])) rfl (by rw [hml]; rfl) (Steps.refl _) (argsL := []) (rest := []) (lenOf own_pd3 rfl) rfl (by show 2 * 0 + _ ≤ _; exact Nat.le_of_eq rfl) (hb hby at_66) (fun _ _ => ⟨rfl, e35, (by decide : 0 + 0 ≤ _), (by decide : 0 + 0 ≤ _)⟩)
            dsimp only [Pt.U, Pt.locs, Pt.cells, Pt.slots] at X36 l36 y36 z36 st36 hQ36
            subst l36 y36 z36
            obtain ⟨N36q, e36, hL36⟩ := hQ36
            have N36 := Fr.app N35 N36q
            rcases hL36 with ⟨rfl, -⟩
            · skip
              refine own_st (fun t k => st36.trans k) ?_
              show own_Go _ _ _ _ T36 (mkF m 69 #[.val (.int ip0), .val (.int ip1), .val (.int (1 : Int32)), .val (.ref w_SCANNED), .val (.int (0 : Int32)), .val (.int (4 : Int32)), .val (.ref w_STARTUP_AMONG_LIBRARIES)] [(.ref w_SCANNED_AMONG_LIBRARIES)])
              obtain ⟨cq37, kq37, q37a, q37b, q37c⟩ := isOf hZ e36 E_w_SCANNED_AMONG_LIBRARIES
              obtain ⟨_, _, ⟨T37, L37, k37, n37⟩, -, X37, ⟨Lc37, hQ37, l37, y37, z37⟩, st37⟩ := X36.virtualBack hx (y := (⟨"com/example/bare_container/barecontainer/bench/Workload$Start", "amongLibraries", "()Z"⟩ : MethodName)) (z := (⟨"com/example/bare_container/barecontainer/bench/Workload$Start", "amongLibraries", "()Z"⟩ : MethodName)) hown (mvT hZ (own_w hw 8 rfl)) (mvT hZ (own_w hw 9 rfl)) (notFace_of_selects (args := #[]) (mvT hZ (own_w hw 11 rfl))) (mvT hZ (own_w hw 11 rfl)) (mvT hZ (own_w hw 10 rfl)) (by decide) (backOf (W := 0) (own_rm2 l Z a0 hw [] w_SCANNED_AMONG_LIBRARIES w_SCANNED_AMONG_LIBRARIES h0 n0 Z0 S_SCANNED_AMONG_LIBRARIES) hZ (own_w hw 12 rfl) (own_w hw 6 rfl) (by decide) (by decide)) q37a q37c (g := (mkF m 69 #[.val (.int ip0), .val (.int ip1), .val (.int (1 : Int32)), .val (.ref w_SCANNED), .val (.int (0 : Int32)), .val (.int (4 : Int32)), .val (.ref w_STARTUP_AMONG_LIBRARIES)] [(.ref w_SCANNED_AMONG_LIBRARIES)])) rfl (by rw [hml]; rfl) (Steps.refl _) (argsL := []) (rest := []) (lenOf own_pd1 rfl) rfl (by show 2 * 0 + _ ≤ _; exact Nat.le_of_eq rfl) (hb hby at_69) (fun _ _ => ⟨rfl, e36, (by decide : 0 + 0 ≤ _), (by decide : 0 + 0 ≤ _)⟩)
              dsimp only [Pt.U, Pt.locs, Pt.cells, Pt.slots] at X37 l37 y37 z37 st37 hQ37
              subst l37 y37 z37
              obtain ⟨N37q, e37, hL37⟩ := hQ37
              have N37 := Fr.app N36 N37q
              rcases hL37 with ⟨rfl, hq37_0_0, -⟩ | ⟨rfl, hq37_1_0, -⟩
              · skip
                refine own_st (fun t k => st37.trans k) ?_
                show own_Go _ _ _ _ T37 (mkF m 72 #[.val (.int ip0), .val (.int ip1), .val (.int (1 : Int32)), .val (.ref w_SCANNED), .val (.int (0 : Int32)), .val (.int (4 : Int32)), .val (.ref w_STARTUP_AMONG_LIBRARIES)] [(.int (1 : Int32))])
                refine own_st (fun t k => XS.iload X37.here hx rfl (hb hby at_72) rfl k) ?_
                show own_Go _ _ _ _ T37 (mkF m 74 #[.val (.int ip0), .val (.int ip1), .val (.int (1 : Int32)), .val (.ref w_SCANNED), .val (.int (0 : Int32)), .val (.int (4 : Int32)), .val (.ref w_STARTUP_AMONG_LIBRARIES)] [(.int (4 : Int32)), (.int (1 : Int32))])
                refine own_st (fun t k => XS.iconst X37.here hx rfl (hb hby at_74) k) ?_
                show own_Go _ _ _ _ T37 (mkF m 75 #[.val (.int ip0), .val (.int ip1), .val (.int (1 : Int32)), .val (.ref w_SCANNED), .val (.int (0 : Int32)), .val (.int (4 : Int32)), .val (.ref w_STARTUP_AMONG_LIBRARIES)] [(.int (4 : Int32)), (.int (4 : Int32)), (.int (1 : Int32))])
                refine own_st (fun t k => XS.icmpNo X37.here hx rfl (hb hby at_75) rfl (teq (by decide : (4 : Int32) = (4 : Int32))).2 k) ?_
                show own_Go _ _ _ _ T37 (mkF m 78 #[.val (.int ip0), .val (.int ip1), .val (.int (1 : Int32)), .val (.ref w_SCANNED), .val (.int (0 : Int32)), .val (.int (4 : Int32)), .val (.ref w_STARTUP_AMONG_LIBRARIES)] [(.int (1 : Int32))])
                refine own_st (fun t k => XS.iconst X37.here hx rfl (hb hby at_78) k) ?_
                show own_Go _ _ _ _ T37 (mkF m 79 #[.val (.int ip0), .val (.int ip1), .val (.int (1 : Int32)), .val (.ref w_SCANNED), .val (.int (0 : Int32)), .val (.int (4 : Int32)), .val (.ref w_STARTUP_AMONG_LIBRARIES)] [(.int (1 : Int32)), (.int (1 : Int32))])
                refine own_st (fun t k => XS.goto X37.here hx rfl (pc0 := 79) (pc' := 83) rfl (hb hby at_79) (by decide) (by decide) k) ?_
                show own_Go _ _ _ _ T37 (mkF m 83 #[.val (.int ip0), .val (.int ip1), .val (.int (1 : Int32)), .val (.ref w_SCANNED), .val (.int (0 : Int32)), .val (.int (4 : Int32)), .val (.ref w_STARTUP_AMONG_LIBRARIES)] [(.int (1 : Int32)), (.int (1 : Int32))])
                refine own_st (fun t k => XS.icmpNo X37.here hx rfl (hb hby at_83) rfl (teq hq20_1_1).2 k) ?_
                show own_Go _ _ _ _ T37 (mkF m 86 #[.val (.int ip0), .val (.int ip1), .val (.int (1 : Int32)), .val (.ref w_SCANNED), .val (.int (0 : Int32)), .val (.int (4 : Int32)), .val (.ref w_STARTUP_AMONG_LIBRARIES)] [])
                refine own_st (fun t k => XS.iconst X37.here hx rfl (hb hby at_86) k) ?_
                show own_Go _ _ _ _ T37 (mkF m 87 #[.val (.int ip0), .val (.int ip1), .val (.int (1 : Int32)), .val (.ref w_SCANNED), .val (.int (0 : Int32)), .val (.int (4 : Int32)), .val (.ref w_STARTUP_AMONG_LIBRARIES)] [(.int (1 : Int32))])
                refine own_st (fun t k => XS.goto X37.here hx rfl (pc0 := 87) (pc' := 91) rfl (hb hby at_87) (by decide) (by decide) k) ?_
                show own_Go _ _ _ _ T37 (mkF m 91 #[.val (.int ip0), .val (.int ip1), .val (.int (1 : Int32)), .val (.ref w_SCANNED), .val (.int (0 : Int32)), .val (.int (4 : Int32)), .val (.ref w_STARTUP_AMONG_LIBRARIES)] [(.int (1 : Int32))])
                exact own_retZ X37 hx hlk (t := .boolean) hret (by simp) (hb hby at_91) (by decide) (by decide) e37 ⟨rfl, N37⟩
              · skip
                exact absurd (rfl : w_SCANNED_AMONG_LIBRARIES = w_SCANNED_AMONG_LIBRARIES) hq37_1_0
    · skip
      exact absurd (by decide : (1 : Int32) = (1 : Int32)) hq20_2_1
  · rw [qr1]
    show own_Go _ _ _ _ s₁ (mkF m 6 #[.val (.int ip0), .val (.int ip1), .unset, .unset, .unset, .unset, .unset] [(.int (2 : Int32))])
    refine own_st (fun t k => XS.istoreN X0.here hx rfl (hb hby at_6) rfl (l' := #[.val (.int ip0), .val (.int ip1), .val (.int (2 : Int32)), .unset, .unset, .unset, .unset]) rfl k) ?_
    show own_Go _ _ _ _ s₁ (mkF m 7 #[.val (.int ip0), .val (.int ip1), .val (.int (2 : Int32)), .unset, .unset, .unset, .unset] [])
    refine own_st (fun t k => XS.iloadN X0.here hx rfl (hb hby at_7) rfl k) ?_
    show own_Go _ _ _ _ s₁ (mkF m 8 #[.val (.int ip0), .val (.int ip1), .val (.int (2 : Int32)), .unset, .unset, .unset, .unset] [(.int (2 : Int32))])
    obtain ⟨_, _, ⟨T38, L38, k38, n38⟩, -, X38, ⟨Lc38, hQ38, l38, y38, z38⟩, st38⟩ := Jvm.LawKit.callS X0 hx (y := (⟨"com/example/bare_container/barecontainer/bench/StartAmongLibrariesPinLaw", "startOf", "(I)Lcom/example/bare_container/barecontainer/bench/Workload$Start;"⟩ : MethodName)) hown (mvT hZ (own_w hw 1 rfl)) (mvT hZ (own_w hw 2 rfl)) (mvT hZ (own_w hw 3 rfl)) (mvT hZ (own_w hw 4 rfl)) (by decide) (backOf (W := 0) (own_rm1 l Z a0 hw [] (2 : Int32) w_NAMED w_SCANNED w_SCANNED_AMONG_LIBRARIES h0 n0 Z0 S_NAMED S_SCANNED S_SCANNED_AMONG_LIBRARIES) hZ (own_w hw 4 rfl) (own_w hw 3 rfl) (by decide) (by decide)) (g := (mkF m 8 #[.val (.int ip0), .val (.int ip1), .val (.int (2 : Int32)), .unset, .unset, .unset, .unset] [(.int (2 : Int32))])) rfl (by rw [hml]; rfl) (argsL := [(.int (2 : Int32))]) (rest := []) (lenOf own_pd0 rfl) rfl (by show 2 * 0 + _ ≤ _; exact Nat.le_of_eq rfl) (hb hby at_8) (fun _ _ => ⟨rfl, e0, (by decide : 0 + 0 ≤ _), (by decide : 0 + 0 ≤ _)⟩)
    dsimp only [Pt.U, Pt.locs, Pt.cells, Pt.slots] at X38 l38 y38 z38 st38 hQ38
    subst l38 y38 z38
    obtain ⟨N38q, e38, hL38⟩ := hQ38
    have N38 := Fr.app N0 N38q
    rcases hL38 with ⟨rfl, hq38_0_0, -⟩ | ⟨rfl, hq38_1_0, hq38_1_1, -⟩ | ⟨rfl, hq38_2_0, hq38_2_1, -⟩
    · skip
      exact absurd hq38_0_0 (by decide : ¬ ((2 : Int32) = (0 : Int32)))
    · skip
      exact absurd hq38_1_1 (by decide : ¬ ((2 : Int32) = (1 : Int32)))
    · skip
      refine own_st st38 ?_
      show own_Go _ _ _ _ T38 (mkF m 11 #[.val (.int ip0), .val (.int ip1), .val (.int (2 : Int32)), .unset, .unset, .unset, .unset] [(.ref w_SCANNED_AMONG_LIBRARIES)])
      refine own_st (fun t k => XS.astoreN X38.here hx rfl (hb hby at_11) rfl rfl (l' := #[.val (.int ip0), .val (.int ip1), .val (.int (2 : Int32)), .val (.ref w_SCANNED_AMONG_LIBRARIES), .unset, .unset, .unset]) rfl k) ?_
      show own_Go _ _ _ _ T38 (mkF m 12 #[.val (.int ip0), .val (.int ip1), .val (.int (2 : Int32)), .val (.ref w_SCANNED_AMONG_LIBRARIES), .unset, .unset, .unset] [])
      refine own_st (fun t k => XS.aloadN X38.here hx rfl (hb hby at_12) rfl rfl k) ?_
      show own_Go _ _ _ _ T38 (mkF m 13 #[.val (.int ip0), .val (.int ip1), .val (.int (2 : Int32)), .val (.ref w_SCANNED_AMONG_LIBRARIES), .unset, .unset, .unset] [(.ref w_SCANNED_AMONG_LIBRARIES)])
      obtain ⟨cq39, kq39, q39a, q39b, q39c⟩ := isOf hZ e38 E_w_SCANNED_AMONG_LIBRARIES
      obtain ⟨_, _, ⟨T39, L39, k39, n39⟩, -, X39, ⟨Lc39, hQ39, l39, y39, z39⟩, st39⟩ := X38.virtualBack hx (y := (⟨"com/example/bare_container/barecontainer/bench/Workload$Start", "amongLibraries", "()Z"⟩ : MethodName)) (z := (⟨"com/example/bare_container/barecontainer/bench/Workload$Start", "amongLibraries", "()Z"⟩ : MethodName)) hown (mvT hZ (own_w hw 8 rfl)) (mvT hZ (own_w hw 9 rfl)) (notFace_of_selects (args := #[]) (mvT hZ (own_w hw 11 rfl))) (mvT hZ (own_w hw 11 rfl)) (mvT hZ (own_w hw 10 rfl)) (by decide) (backOf (W := 0) (own_rm2 l Z a0 hw [] w_SCANNED_AMONG_LIBRARIES w_SCANNED_AMONG_LIBRARIES h0 n0 Z0 S_SCANNED_AMONG_LIBRARIES) hZ (own_w hw 12 rfl) (own_w hw 6 rfl) (by decide) (by decide)) q39a q39c (g := (mkF m 13 #[.val (.int ip0), .val (.int ip1), .val (.int (2 : Int32)), .val (.ref w_SCANNED_AMONG_LIBRARIES), .unset, .unset, .unset] [(.ref w_SCANNED_AMONG_LIBRARIES)])) rfl (by rw [hml]; rfl) (Steps.refl _) (argsL := []) (rest := []) (lenOf own_pd1 rfl) rfl (by show 2 * 0 + _ ≤ _; exact Nat.le_of_eq rfl) (hb hby at_13) (fun _ _ => ⟨rfl, e38, (by decide : 0 + 0 ≤ _), (by decide : 0 + 0 ≤ _)⟩)
      dsimp only [Pt.U, Pt.locs, Pt.cells, Pt.slots] at X39 l39 y39 z39 st39 hQ39
      subst l39 y39 z39
      obtain ⟨N39q, e39, hL39⟩ := hQ39
      have N39 := Fr.app N38 N39q
      rcases hL39 with ⟨rfl, hq39_0_0, -⟩ | ⟨rfl, hq39_1_0, -⟩
      · skip
        refine own_st (fun t k => st39.trans k) ?_
        show own_Go _ _ _ _ T39 (mkF m 16 #[.val (.int ip0), .val (.int ip1), .val (.int (2 : Int32)), .val (.ref w_SCANNED_AMONG_LIBRARIES), .unset, .unset, .unset] [(.int (1 : Int32))])
        refine own_st (fun t k => XS.istore X39.here hx rfl (hb hby at_16) rfl (l' := #[.val (.int ip0), .val (.int ip1), .val (.int (2 : Int32)), .val (.ref w_SCANNED_AMONG_LIBRARIES), .val (.int (1 : Int32)), .unset, .unset]) rfl k) ?_
        show own_Go _ _ _ _ T39 (mkF m 18 #[.val (.int ip0), .val (.int ip1), .val (.int (2 : Int32)), .val (.ref w_SCANNED_AMONG_LIBRARIES), .val (.int (1 : Int32)), .unset, .unset] [])
        refine own_st (fun t k => XS.iload X39.here hx rfl (hb hby at_18) rfl k) ?_
        show own_Go _ _ _ _ T39 (mkF m 20 #[.val (.int ip0), .val (.int ip1), .val (.int (2 : Int32)), .val (.ref w_SCANNED_AMONG_LIBRARIES), .val (.int (1 : Int32)), .unset, .unset] [(.int (1 : Int32))])
        refine own_st (fun t k => XS.iloadN X39.here hx rfl (hb hby at_20) rfl k) ?_
        show own_Go _ _ _ _ T39 (mkF m 21 #[.val (.int ip0), .val (.int ip1), .val (.int (2 : Int32)), .val (.ref w_SCANNED_AMONG_LIBRARIES), .val (.int (1 : Int32)), .unset, .unset] [(.int (2 : Int32)), (.int (1 : Int32))])
        refine own_st (fun t k => XS.iconst X39.here hx rfl (hb hby at_21) k) ?_
        show own_Go _ _ _ _ T39 (mkF m 22 #[.val (.int ip0), .val (.int ip1), .val (.int (2 : Int32)), .val (.ref w_SCANNED_AMONG_LIBRARIES), .val (.int (1 : Int32)), .unset, .unset] [(.int (2 : Int32)), (.int (2 : Int32)), (.int (1 : Int32))])
        refine own_st (fun t k => XS.icmpNo X39.here hx rfl (hb hby at_22) rfl (teq (by decide : (2 : Int32) = (2 : Int32))).2 k) ?_
        show own_Go _ _ _ _ T39 (mkF m 25 #[.val (.int ip0), .val (.int ip1), .val (.int (2 : Int32)), .val (.ref w_SCANNED_AMONG_LIBRARIES), .val (.int (1 : Int32)), .unset, .unset] [(.int (1 : Int32))])
        refine own_st (fun t k => XS.iconst X39.here hx rfl (hb hby at_25) k) ?_
        show own_Go _ _ _ _ T39 (mkF m 26 #[.val (.int ip0), .val (.int ip1), .val (.int (2 : Int32)), .val (.ref w_SCANNED_AMONG_LIBRARIES), .val (.int (1 : Int32)), .unset, .unset] [(.int (1 : Int32)), (.int (1 : Int32))])
        refine own_st (fun t k => XS.goto X39.here hx rfl (pc0 := 26) (pc' := 30) rfl (hb hby at_26) (by decide) (by decide) k) ?_
        show own_Go _ _ _ _ T39 (mkF m 30 #[.val (.int ip0), .val (.int ip1), .val (.int (2 : Int32)), .val (.ref w_SCANNED_AMONG_LIBRARIES), .val (.int (1 : Int32)), .unset, .unset] [(.int (1 : Int32)), (.int (1 : Int32))])
        refine own_st (fun t k => XS.icmpYes X39.here hx rfl (pc0 := 30) (pc' := 35) rfl (hb hby at_30) rfl (teq (by decide : (1 : Int32) = (1 : Int32))).1 (by decide) (by decide) k) ?_
        show own_Go _ _ _ _ T39 (mkF m 35 #[.val (.int ip0), .val (.int ip1), .val (.int (2 : Int32)), .val (.ref w_SCANNED_AMONG_LIBRARIES), .val (.int (1 : Int32)), .unset, .unset] [])
        refine own_st (fun t k => XS.iload X39.here hx rfl (hb hby at_35) rfl k) ?_
        show own_Go _ _ _ _ T39 (mkF m 37 #[.val (.int ip0), .val (.int ip1), .val (.int (2 : Int32)), .val (.ref w_SCANNED_AMONG_LIBRARIES), .val (.int (1 : Int32)), .unset, .unset] [(.int (1 : Int32))])
        refine own_st (fun t k => XS.ifNo X39.here hx rfl (hb hby at_37) rfl ((if0 _ _).trans (feq (by decide : ¬ ((1 : Int32) = (0 : Int32)))).1) k) ?_
        show own_Go _ _ _ _ T39 (mkF m 40 #[.val (.int ip0), .val (.int ip1), .val (.int (2 : Int32)), .val (.ref w_SCANNED_AMONG_LIBRARIES), .val (.int (1 : Int32)), .unset, .unset] [])
        refine own_st (fun t k => XS.aloadN X39.here hx rfl (hb hby at_40) rfl rfl k) ?_
        show own_Go _ _ _ _ T39 (mkF m 41 #[.val (.int ip0), .val (.int ip1), .val (.int (2 : Int32)), .val (.ref w_SCANNED_AMONG_LIBRARIES), .val (.int (1 : Int32)), .unset, .unset] [(.ref w_SCANNED_AMONG_LIBRARIES)])
        obtain ⟨cq40, kq40, q40a, q40b, q40c⟩ := isOf hZ e39 E_w_SCANNED_AMONG_LIBRARIES
        obtain ⟨_, _, ⟨T40, L40, k40, n40⟩, -, X40, ⟨Lc40, hQ40, l40, y40, z40⟩, st40⟩ := X39.virtualBack hx (y := (⟨"com/example/bare_container/barecontainer/bench/Workload$Start", "namesModules", "()Z"⟩ : MethodName)) (z := (⟨"com/example/bare_container/barecontainer/bench/Workload$Start", "namesModules", "()Z"⟩ : MethodName)) hown (mvT hZ (own_w hw 30 rfl)) (mvT hZ (own_w hw 31 rfl)) (notFace_of_selects (args := #[]) (mvT hZ (own_w hw 33 rfl))) (mvT hZ (own_w hw 33 rfl)) (mvT hZ (own_w hw 32 rfl)) (by decide) (backOf (W := 0) (own_rm5 l Z a0 hw [] w_SCANNED_AMONG_LIBRARIES w_NAMED h0 n0 Z0 S_NAMED) hZ (own_w hw 34 rfl) (own_w hw 6 rfl) (by decide) (by decide)) q40a q40c (g := (mkF m 41 #[.val (.int ip0), .val (.int ip1), .val (.int (2 : Int32)), .val (.ref w_SCANNED_AMONG_LIBRARIES), .val (.int (1 : Int32)), .unset, .unset] [(.ref w_SCANNED_AMONG_LIBRARIES)])) rfl (by rw [hml]; rfl) (Steps.refl _) (argsL := []) (rest := []) (lenOf own_pd1 rfl) rfl (by show 2 * 0 + _ ≤ _; exact Nat.le_of_eq rfl) (hb hby at_41) (fun _ _ => ⟨rfl, e39, (by decide : 0 + 0 ≤ _), (by decide : 0 + 0 ≤ _)⟩)
        dsimp only [Pt.U, Pt.locs, Pt.cells, Pt.slots] at X40 l40 y40 z40 st40 hQ40
        subst l40 y40 z40
        obtain ⟨N40q, e40, hL40⟩ := hQ40
        have N40 := Fr.app N39 N40q
        rcases hL40 with ⟨rfl, hq40_0_0, -⟩ | ⟨rfl, hq40_1_0, -⟩
        · skip
          exact absurd hq40_0_0 (Fld.ne F_ordinal_w_SCANNED_AMONG_LIBRARIES F_ordinal_w_NAMED (own_nei (by decide)))
        · skip
          refine own_st (fun t k => st40.trans k) ?_
          show own_Go _ _ _ _ T40 (mkF m 44 #[.val (.int ip0), .val (.int ip1), .val (.int (2 : Int32)), .val (.ref w_SCANNED_AMONG_LIBRARIES), .val (.int (1 : Int32)), .unset, .unset] [(.int (0 : Int32))])
          refine own_st (fun t k => XS.ifYes X40.here hx rfl (pc0 := 44) (pc' := 49) rfl (hb hby at_44) rfl ((if0 _ _).trans (teq (by decide : (0 : Int32) = (0 : Int32))).1) (by decide) (by decide) k) ?_
          show own_Go _ _ _ _ T40 (mkF m 49 #[.val (.int ip0), .val (.int ip1), .val (.int (2 : Int32)), .val (.ref w_SCANNED_AMONG_LIBRARIES), .val (.int (1 : Int32)), .unset, .unset] [])
          refine own_st (fun t k => XS.iloadN X40.here hx rfl (hb hby at_49) rfl k) ?_
          show own_Go _ _ _ _ T40 (mkF m 50 #[.val (.int ip0), .val (.int ip1), .val (.int (2 : Int32)), .val (.ref w_SCANNED_AMONG_LIBRARIES), .val (.int (1 : Int32)), .unset, .unset] [(.int ip1)])
          refine own_st (X40.ldcInt hx hown (mvT hZ (own_w hw 0 rfl)) (g := (mkF m 50 #[.val (.int ip0), .val (.int ip1), .val (.int (2 : Int32)), .val (.ref w_SCANNED_AMONG_LIBRARIES), .val (.int (1 : Int32)), .unset, .unset] [(.int ip1)])) rfl (hb hby at_50)) ?_
          show own_Go _ _ _ _ T40 (mkF m 52 #[.val (.int ip0), .val (.int ip1), .val (.int (2 : Int32)), .val (.ref w_SCANNED_AMONG_LIBRARIES), .val (.int (1 : Int32)), .unset, .unset] [(.int (2147483647 : Int32)), (.int ip1)])
          refine own_st (fun t k => XS.iand X40.here hx rfl (hb hby at_52) rfl k) ?_
          show own_Go _ _ _ _ T40 (mkF m 53 #[.val (.int ip0), .val (.int ip1), .val (.int (2 : Int32)), .val (.ref w_SCANNED_AMONG_LIBRARIES), .val (.int (1 : Int32)), .unset, .unset] [(.int (ip1 &&& (2147483647 : Int32)))])
          refine own_st (fun t k => XS.iconst X40.here hx rfl (hb hby at_53) k) ?_
          show own_Go _ _ _ _ T40 (mkF m 54 #[.val (.int ip0), .val (.int ip1), .val (.int (2 : Int32)), .val (.ref w_SCANNED_AMONG_LIBRARIES), .val (.int (1 : Int32)), .unset, .unset] [(.int (5 : Int32)), (.int (ip1 &&& (2147483647 : Int32)))])
          refine own_st (fun t k => iremM X40 hx rfl (hb hby at_54) rfl (by decide) k) ?_
          show own_Go _ _ _ _ T40 (mkF m 55 #[.val (.int ip0), .val (.int ip1), .val (.int (2 : Int32)), .val (.ref w_SCANNED_AMONG_LIBRARIES), .val (.int (1 : Int32)), .unset, .unset] [(.int ((ip1 &&& (2147483647 : Int32)) % (5 : Int32)))])
          rcases own_rem1 ip1 with qr41 | qr41 | qr41 | qr41 | qr41
          · rw [qr41]
            show own_Go _ _ _ _ T40 (mkF m 55 #[.val (.int ip0), .val (.int ip1), .val (.int (2 : Int32)), .val (.ref w_SCANNED_AMONG_LIBRARIES), .val (.int (1 : Int32)), .unset, .unset] [(.int (0 : Int32))])
            refine own_st (fun t k => XS.istore X40.here hx rfl (hb hby at_55) rfl (l' := #[.val (.int ip0), .val (.int ip1), .val (.int (2 : Int32)), .val (.ref w_SCANNED_AMONG_LIBRARIES), .val (.int (1 : Int32)), .val (.int (0 : Int32)), .unset]) rfl k) ?_
            show own_Go _ _ _ _ T40 (mkF m 57 #[.val (.int ip0), .val (.int ip1), .val (.int (2 : Int32)), .val (.ref w_SCANNED_AMONG_LIBRARIES), .val (.int (1 : Int32)), .val (.int (0 : Int32)), .unset] [])
            refine own_st (fun t k => XS.iload X40.here hx rfl (hb hby at_57) rfl k) ?_
            show own_Go _ _ _ _ T40 (mkF m 59 #[.val (.int ip0), .val (.int ip1), .val (.int (2 : Int32)), .val (.ref w_SCANNED_AMONG_LIBRARIES), .val (.int (1 : Int32)), .val (.int (0 : Int32)), .unset] [(.int (0 : Int32))])
            obtain ⟨_, _, ⟨T42, L42, k42, n42⟩, -, X42, ⟨Lc42, hQ42, l42, y42, z42⟩, st42⟩ := Jvm.LawKit.callS X40 hx (y := (⟨"com/example/bare_container/barecontainer/bench/StartAmongLibrariesPinLaw", "workloadOf", "(I)Lcom/example/bare_container/barecontainer/bench/Workload;"⟩ : MethodName)) hown (mvT hZ (own_w hw 15 rfl)) (mvT hZ (own_w hw 16 rfl)) (mvT hZ (own_w hw 3 rfl)) (mvT hZ (own_w hw 17 rfl)) (by decide) (backOf (W := 0) (own_rm3 l Z a0 hw [] (0 : Int32) w_EMPTY_CALL w_INSERT_CALL w_STARTUP w_STARTUP_SCANNED w_STARTUP_AMONG_LIBRARIES h0 n0 Z0 S_EMPTY_CALL S_INSERT_CALL S_STARTUP S_STARTUP_SCANNED S_STARTUP_AMONG_LIBRARIES) hZ (own_w hw 17 rfl) (own_w hw 3 rfl) (by decide) (by decide)) (g := (mkF m 59 #[.val (.int ip0), .val (.int ip1), .val (.int (2 : Int32)), .val (.ref w_SCANNED_AMONG_LIBRARIES), .val (.int (1 : Int32)), .val (.int (0 : Int32)), .unset] [(.int (0 : Int32))])) rfl (by rw [hml]; rfl) (argsL := [(.int (0 : Int32))]) (rest := []) (lenOf own_pd2 rfl) rfl (by show 2 * 0 + _ ≤ _; exact Nat.le_of_eq rfl) (hb hby at_59) (fun _ _ => ⟨rfl, e40, (by decide : 0 + 0 ≤ _), (by decide : 0 + 0 ≤ _)⟩)
            dsimp only [Pt.U, Pt.locs, Pt.cells, Pt.slots] at X42 l42 y42 z42 st42 hQ42
            subst l42 y42 z42
            obtain ⟨N42q, e42, hL42⟩ := hQ42
            have N42 := Fr.app N40 N42q
            rcases hL42 with ⟨rfl, hq42_0_0, -⟩ | ⟨rfl, hq42_1_0, hq42_1_1, -⟩ | ⟨rfl, hq42_2_0, hq42_2_1, hq42_2_2, -⟩ | ⟨rfl, hq42_3_0, hq42_3_1, hq42_3_2, hq42_3_3, -⟩ | ⟨rfl, hq42_4_0, hq42_4_1, hq42_4_2, hq42_4_3, -⟩
            · skip
              refine own_st st42 ?_
              show own_Go _ _ _ _ T42 (mkF m 62 #[.val (.int ip0), .val (.int ip1), .val (.int (2 : Int32)), .val (.ref w_SCANNED_AMONG_LIBRARIES), .val (.int (1 : Int32)), .val (.int (0 : Int32)), .unset] [(.ref w_EMPTY_CALL)])
              refine own_st (fun t k => XS.astore X42.here hx rfl (hb hby at_62) rfl rfl (l' := #[.val (.int ip0), .val (.int ip1), .val (.int (2 : Int32)), .val (.ref w_SCANNED_AMONG_LIBRARIES), .val (.int (1 : Int32)), .val (.int (0 : Int32)), .val (.ref w_EMPTY_CALL)]) rfl k) ?_
              show own_Go _ _ _ _ T42 (mkF m 64 #[.val (.int ip0), .val (.int ip1), .val (.int (2 : Int32)), .val (.ref w_SCANNED_AMONG_LIBRARIES), .val (.int (1 : Int32)), .val (.int (0 : Int32)), .val (.ref w_EMPTY_CALL)] [])
              refine own_st (fun t k => XS.aload X42.here hx rfl (hb hby at_64) rfl rfl k) ?_
              show own_Go _ _ _ _ T42 (mkF m 66 #[.val (.int ip0), .val (.int ip1), .val (.int (2 : Int32)), .val (.ref w_SCANNED_AMONG_LIBRARIES), .val (.int (1 : Int32)), .val (.int (0 : Int32)), .val (.ref w_EMPTY_CALL)] [(.ref w_EMPTY_CALL)])
              obtain ⟨cq43, kq43, q43a, q43b, q43c⟩ := isOf hZ e42 E_w_EMPTY_CALL
              obtain ⟨_, _, ⟨T43, L43, k43, n43⟩, -, X43, ⟨Lc43, hQ43, l43, y43, z43⟩, st43⟩ := X42.virtualBack hx (y := (⟨"com/example/bare_container/barecontainer/bench/Workload", "start", "()Lcom/example/bare_container/barecontainer/bench/Workload$Start;"⟩ : MethodName)) (z := (⟨"com/example/bare_container/barecontainer/bench/Workload", "start", "()Lcom/example/bare_container/barecontainer/bench/Workload$Start;"⟩ : MethodName)) hown (mvT hZ (own_w hw 21 rfl)) (mvT hZ (own_w hw 22 rfl)) (notFace_of_selects (args := #[]) (mvT hZ (own_w hw 24 rfl))) (mvT hZ (own_w hw 24 rfl)) (mvT hZ (own_w hw 23 rfl)) (by decide) (backOf (W := 0) (own_rm4 l Z a0 hw [] w_EMPTY_CALL w_NAMED h0 n0 Z0 F_start_w_EMPTY_CALL) hZ (own_w hw 25 rfl) (own_w hw 19 rfl) (by decide) (by decide)) q43a q43c (g := (mkF m 66 #[.val (.int ip0), .val (.int ip1), .val (.int (2 : Int32)), .val (.ref w_SCANNED_AMONG_LIBRARIES), .val (.int (1 : Int32)), .val (.int (0 : Int32)), .val (.ref w_EMPTY_CALL)] [(.ref w_EMPTY_CALL)])) rfl (by rw [hml]; rfl) (Steps.refl _) (argsL := []) (rest := []) (lenOf own_pd3 rfl) rfl (by show 2 * 0 + _ ≤ _; exact Nat.le_of_eq rfl) (hb hby at_66) (fun _ _ => ⟨rfl, e42, (by decide : 0 + 0 ≤ _), (by decide : 0 + 0 ≤ _)⟩)
              dsimp only [Pt.U, Pt.locs, Pt.cells, Pt.slots] at X43 l43 y43 z43 st43 hQ43
              subst l43 y43 z43
              obtain ⟨N43q, e43, hL43⟩ := hQ43
              have N43 := Fr.app N42 N43q
              rcases hL43 with ⟨rfl, -⟩
              · skip
                refine own_st (fun t k => st43.trans k) ?_
                show own_Go _ _ _ _ T43 (mkF m 69 #[.val (.int ip0), .val (.int ip1), .val (.int (2 : Int32)), .val (.ref w_SCANNED_AMONG_LIBRARIES), .val (.int (1 : Int32)), .val (.int (0 : Int32)), .val (.ref w_EMPTY_CALL)] [(.ref w_NAMED)])
                obtain ⟨cq44, kq44, q44a, q44b, q44c⟩ := isOf hZ e43 E_w_NAMED
                obtain ⟨_, _, ⟨T44, L44, k44, n44⟩, -, X44, ⟨Lc44, hQ44, l44, y44, z44⟩, st44⟩ := X43.virtualBack hx (y := (⟨"com/example/bare_container/barecontainer/bench/Workload$Start", "amongLibraries", "()Z"⟩ : MethodName)) (z := (⟨"com/example/bare_container/barecontainer/bench/Workload$Start", "amongLibraries", "()Z"⟩ : MethodName)) hown (mvT hZ (own_w hw 8 rfl)) (mvT hZ (own_w hw 9 rfl)) (notFace_of_selects (args := #[]) (mvT hZ (own_w hw 11 rfl))) (mvT hZ (own_w hw 11 rfl)) (mvT hZ (own_w hw 10 rfl)) (by decide) (backOf (W := 0) (own_rm2 l Z a0 hw [] w_NAMED w_SCANNED_AMONG_LIBRARIES h0 n0 Z0 S_SCANNED_AMONG_LIBRARIES) hZ (own_w hw 12 rfl) (own_w hw 6 rfl) (by decide) (by decide)) q44a q44c (g := (mkF m 69 #[.val (.int ip0), .val (.int ip1), .val (.int (2 : Int32)), .val (.ref w_SCANNED_AMONG_LIBRARIES), .val (.int (1 : Int32)), .val (.int (0 : Int32)), .val (.ref w_EMPTY_CALL)] [(.ref w_NAMED)])) rfl (by rw [hml]; rfl) (Steps.refl _) (argsL := []) (rest := []) (lenOf own_pd1 rfl) rfl (by show 2 * 0 + _ ≤ _; exact Nat.le_of_eq rfl) (hb hby at_69) (fun _ _ => ⟨rfl, e43, (by decide : 0 + 0 ≤ _), (by decide : 0 + 0 ≤ _)⟩)
                dsimp only [Pt.U, Pt.locs, Pt.cells, Pt.slots] at X44 l44 y44 z44 st44 hQ44
                subst l44 y44 z44
                obtain ⟨N44q, e44, hL44⟩ := hQ44
                have N44 := Fr.app N43 N44q
                rcases hL44 with ⟨rfl, hq44_0_0, -⟩ | ⟨rfl, hq44_1_0, -⟩
                · skip
                  exact absurd hq44_0_0 (Ne.symm hq40_1_0)
                · skip
                  refine own_st (fun t k => st44.trans k) ?_
                  show own_Go _ _ _ _ T44 (mkF m 72 #[.val (.int ip0), .val (.int ip1), .val (.int (2 : Int32)), .val (.ref w_SCANNED_AMONG_LIBRARIES), .val (.int (1 : Int32)), .val (.int (0 : Int32)), .val (.ref w_EMPTY_CALL)] [(.int (0 : Int32))])
                  refine own_st (fun t k => XS.iload X44.here hx rfl (hb hby at_72) rfl k) ?_
                  show own_Go _ _ _ _ T44 (mkF m 74 #[.val (.int ip0), .val (.int ip1), .val (.int (2 : Int32)), .val (.ref w_SCANNED_AMONG_LIBRARIES), .val (.int (1 : Int32)), .val (.int (0 : Int32)), .val (.ref w_EMPTY_CALL)] [(.int (0 : Int32)), (.int (0 : Int32))])
                  refine own_st (fun t k => XS.iconst X44.here hx rfl (hb hby at_74) k) ?_
                  show own_Go _ _ _ _ T44 (mkF m 75 #[.val (.int ip0), .val (.int ip1), .val (.int (2 : Int32)), .val (.ref w_SCANNED_AMONG_LIBRARIES), .val (.int (1 : Int32)), .val (.int (0 : Int32)), .val (.ref w_EMPTY_CALL)] [(.int (4 : Int32)), (.int (0 : Int32)), (.int (0 : Int32))])
                  refine own_st (fun t k => XS.icmpYes X44.here hx rfl (pc0 := 75) (pc' := 82) rfl (hb hby at_75) rfl (feq (by decide : ¬ ((0 : Int32) = (4 : Int32)))).2 (by decide) (by decide) k) ?_
                  show own_Go _ _ _ _ T44 (mkF m 82 #[.val (.int ip0), .val (.int ip1), .val (.int (2 : Int32)), .val (.ref w_SCANNED_AMONG_LIBRARIES), .val (.int (1 : Int32)), .val (.int (0 : Int32)), .val (.ref w_EMPTY_CALL)] [(.int (0 : Int32))])
                  refine own_st (fun t k => XS.iconst X44.here hx rfl (hb hby at_82) k) ?_
                  show own_Go _ _ _ _ T44 (mkF m 83 #[.val (.int ip0), .val (.int ip1), .val (.int (2 : Int32)), .val (.ref w_SCANNED_AMONG_LIBRARIES), .val (.int (1 : Int32)), .val (.int (0 : Int32)), .val (.ref w_EMPTY_CALL)] [(.int (0 : Int32)), (.int (0 : Int32))])
                  refine own_st (fun t k => XS.icmpNo X44.here hx rfl (hb hby at_83) rfl (teq hq42_0_0).2 k) ?_
                  show own_Go _ _ _ _ T44 (mkF m 86 #[.val (.int ip0), .val (.int ip1), .val (.int (2 : Int32)), .val (.ref w_SCANNED_AMONG_LIBRARIES), .val (.int (1 : Int32)), .val (.int (0 : Int32)), .val (.ref w_EMPTY_CALL)] [])
                  refine own_st (fun t k => XS.iconst X44.here hx rfl (hb hby at_86) k) ?_
                  show own_Go _ _ _ _ T44 (mkF m 87 #[.val (.int ip0), .val (.int ip1), .val (.int (2 : Int32)), .val (.ref w_SCANNED_AMONG_LIBRARIES), .val (.int (1 : Int32)), .val (.int (0 : Int32)), .val (.ref w_EMPTY_CALL)] [(.int (1 : Int32))])
                  refine own_st (fun t k => XS.goto X44.here hx rfl (pc0 := 87) (pc' := 91) rfl (hb hby at_87) (by decide) (by decide) k) ?_
                  show own_Go _ _ _ _ T44 (mkF m 91 #[.val (.int ip0), .val (.int ip1), .val (.int (2 : Int32)), .val (.ref w_SCANNED_AMONG_LIBRARIES), .val (.int (1 : Int32)), .val (.int (0 : Int32)), .val (.ref w_EMPTY_CALL)] [(.int (1 : Int32))])
                  exact own_retZ X44 hx hlk (t := .boolean) hret (by simp) (hb hby at_91) (by decide) (by decide) e44 ⟨rfl, N44⟩
            · skip
              exact absurd (by decide : (0 : Int32) = (0 : Int32)) hq42_1_0
            · skip
              exact absurd (by decide : (0 : Int32) = (0 : Int32)) hq42_2_0
            · skip
              exact absurd (by decide : (0 : Int32) = (0 : Int32)) hq42_3_0
            · skip
              exact absurd (by decide : (0 : Int32) = (0 : Int32)) hq42_4_0
          · rw [qr41]
            show own_Go _ _ _ _ T40 (mkF m 55 #[.val (.int ip0), .val (.int ip1), .val (.int (2 : Int32)), .val (.ref w_SCANNED_AMONG_LIBRARIES), .val (.int (1 : Int32)), .unset, .unset] [(.int (1 : Int32))])
            refine own_st (fun t k => XS.istore X40.here hx rfl (hb hby at_55) rfl (l' := #[.val (.int ip0), .val (.int ip1), .val (.int (2 : Int32)), .val (.ref w_SCANNED_AMONG_LIBRARIES), .val (.int (1 : Int32)), .val (.int (1 : Int32)), .unset]) rfl k) ?_
            show own_Go _ _ _ _ T40 (mkF m 57 #[.val (.int ip0), .val (.int ip1), .val (.int (2 : Int32)), .val (.ref w_SCANNED_AMONG_LIBRARIES), .val (.int (1 : Int32)), .val (.int (1 : Int32)), .unset] [])
            refine own_st (fun t k => XS.iload X40.here hx rfl (hb hby at_57) rfl k) ?_
            show own_Go _ _ _ _ T40 (mkF m 59 #[.val (.int ip0), .val (.int ip1), .val (.int (2 : Int32)), .val (.ref w_SCANNED_AMONG_LIBRARIES), .val (.int (1 : Int32)), .val (.int (1 : Int32)), .unset] [(.int (1 : Int32))])
            obtain ⟨_, _, ⟨T45, L45, k45, n45⟩, -, X45, ⟨Lc45, hQ45, l45, y45, z45⟩, st45⟩ := Jvm.LawKit.callS X40 hx (y := (⟨"com/example/bare_container/barecontainer/bench/StartAmongLibrariesPinLaw", "workloadOf", "(I)Lcom/example/bare_container/barecontainer/bench/Workload;"⟩ : MethodName)) hown (mvT hZ (own_w hw 15 rfl)) (mvT hZ (own_w hw 16 rfl)) (mvT hZ (own_w hw 3 rfl)) (mvT hZ (own_w hw 17 rfl)) (by decide) (backOf (W := 0) (own_rm3 l Z a0 hw [] (1 : Int32) w_EMPTY_CALL w_INSERT_CALL w_STARTUP w_STARTUP_SCANNED w_STARTUP_AMONG_LIBRARIES h0 n0 Z0 S_EMPTY_CALL S_INSERT_CALL S_STARTUP S_STARTUP_SCANNED S_STARTUP_AMONG_LIBRARIES) hZ (own_w hw 17 rfl) (own_w hw 3 rfl) (by decide) (by decide)) (g := (mkF m 59 #[.val (.int ip0), .val (.int ip1), .val (.int (2 : Int32)), .val (.ref w_SCANNED_AMONG_LIBRARIES), .val (.int (1 : Int32)), .val (.int (1 : Int32)), .unset] [(.int (1 : Int32))])) rfl (by rw [hml]; rfl) (argsL := [(.int (1 : Int32))]) (rest := []) (lenOf own_pd2 rfl) rfl (by show 2 * 0 + _ ≤ _; exact Nat.le_of_eq rfl) (hb hby at_59) (fun _ _ => ⟨rfl, e40, (by decide : 0 + 0 ≤ _), (by decide : 0 + 0 ≤ _)⟩)
            dsimp only [Pt.U, Pt.locs, Pt.cells, Pt.slots] at X45 l45 y45 z45 st45 hQ45
            subst l45 y45 z45
            obtain ⟨N45q, e45, hL45⟩ := hQ45
            have N45 := Fr.app N40 N45q
            rcases hL45 with ⟨rfl, hq45_0_0, -⟩ | ⟨rfl, hq45_1_0, hq45_1_1, -⟩ | ⟨rfl, hq45_2_0, hq45_2_1, hq45_2_2, -⟩ | ⟨rfl, hq45_3_0, hq45_3_1, hq45_3_2, hq45_3_3, -⟩ | ⟨rfl, hq45_4_0, hq45_4_1, hq45_4_2, hq45_4_3, -⟩
            · skip
              exact absurd hq45_0_0 (by decide : ¬ ((1 : Int32) = (0 : Int32)))
            · skip
              refine own_st st45 ?_
              show own_Go _ _ _ _ T45 (mkF m 62 #[.val (.int ip0), .val (.int ip1), .val (.int (2 : Int32)), .val (.ref w_SCANNED_AMONG_LIBRARIES), .val (.int (1 : Int32)), .val (.int (1 : Int32)), .unset] [(.ref w_INSERT_CALL)])
              refine own_st (fun t k => XS.astore X45.here hx rfl (hb hby at_62) rfl rfl (l' := #[.val (.int ip0), .val (.int ip1), .val (.int (2 : Int32)), .val (.ref w_SCANNED_AMONG_LIBRARIES), .val (.int (1 : Int32)), .val (.int (1 : Int32)), .val (.ref w_INSERT_CALL)]) rfl k) ?_
              show own_Go _ _ _ _ T45 (mkF m 64 #[.val (.int ip0), .val (.int ip1), .val (.int (2 : Int32)), .val (.ref w_SCANNED_AMONG_LIBRARIES), .val (.int (1 : Int32)), .val (.int (1 : Int32)), .val (.ref w_INSERT_CALL)] [])
              refine own_st (fun t k => XS.aload X45.here hx rfl (hb hby at_64) rfl rfl k) ?_
              show own_Go _ _ _ _ T45 (mkF m 66 #[.val (.int ip0), .val (.int ip1), .val (.int (2 : Int32)), .val (.ref w_SCANNED_AMONG_LIBRARIES), .val (.int (1 : Int32)), .val (.int (1 : Int32)), .val (.ref w_INSERT_CALL)] [(.ref w_INSERT_CALL)])
              obtain ⟨cq46, kq46, q46a, q46b, q46c⟩ := isOf hZ e45 E_w_INSERT_CALL
              obtain ⟨_, _, ⟨T46, L46, k46, n46⟩, -, X46, ⟨Lc46, hQ46, l46, y46, z46⟩, st46⟩ := X45.virtualBack hx (y := (⟨"com/example/bare_container/barecontainer/bench/Workload", "start", "()Lcom/example/bare_container/barecontainer/bench/Workload$Start;"⟩ : MethodName)) (z := (⟨"com/example/bare_container/barecontainer/bench/Workload", "start", "()Lcom/example/bare_container/barecontainer/bench/Workload$Start;"⟩ : MethodName)) hown (mvT hZ (own_w hw 21 rfl)) (mvT hZ (own_w hw 22 rfl)) (notFace_of_selects (args := #[]) (mvT hZ (own_w hw 24 rfl))) (mvT hZ (own_w hw 24 rfl)) (mvT hZ (own_w hw 23 rfl)) (by decide) (backOf (W := 0) (own_rm4 l Z a0 hw [] w_INSERT_CALL w_NAMED h0 n0 Z0 F_start_w_INSERT_CALL) hZ (own_w hw 25 rfl) (own_w hw 19 rfl) (by decide) (by decide)) q46a q46c (g := (mkF m 66 #[.val (.int ip0), .val (.int ip1), .val (.int (2 : Int32)), .val (.ref w_SCANNED_AMONG_LIBRARIES), .val (.int (1 : Int32)), .val (.int (1 : Int32)), .val (.ref w_INSERT_CALL)] [(.ref w_INSERT_CALL)])) rfl (by rw [hml]; rfl) (Steps.refl _) (argsL := []) (rest := []) (lenOf own_pd3 rfl) rfl (by show 2 * 0 + _ ≤ _; exact Nat.le_of_eq rfl) (hb hby at_66) (fun _ _ => ⟨rfl, e45, (by decide : 0 + 0 ≤ _), (by decide : 0 + 0 ≤ _)⟩)
              dsimp only [Pt.U, Pt.locs, Pt.cells, Pt.slots] at X46 l46 y46 z46 st46 hQ46
              subst l46 y46 z46
              obtain ⟨N46q, e46, hL46⟩ := hQ46
              have N46 := Fr.app N45 N46q
              rcases hL46 with ⟨rfl, -⟩
              · skip
                refine own_st (fun t k => st46.trans k) ?_
                show own_Go _ _ _ _ T46 (mkF m 69 #[.val (.int ip0), .val (.int ip1), .val (.int (2 : Int32)), .val (.ref w_SCANNED_AMONG_LIBRARIES), .val (.int (1 : Int32)), .val (.int (1 : Int32)), .val (.ref w_INSERT_CALL)] [(.ref w_NAMED)])
                obtain ⟨cq47, kq47, q47a, q47b, q47c⟩ := isOf hZ e46 E_w_NAMED
                obtain ⟨_, _, ⟨T47, L47, k47, n47⟩, -, X47, ⟨Lc47, hQ47, l47, y47, z47⟩, st47⟩ := X46.virtualBack hx (y := (⟨"com/example/bare_container/barecontainer/bench/Workload$Start", "amongLibraries", "()Z"⟩ : MethodName)) (z := (⟨"com/example/bare_container/barecontainer/bench/Workload$Start", "amongLibraries", "()Z"⟩ : MethodName)) hown (mvT hZ (own_w hw 8 rfl)) (mvT hZ (own_w hw 9 rfl)) (notFace_of_selects (args := #[]) (mvT hZ (own_w hw 11 rfl))) (mvT hZ (own_w hw 11 rfl)) (mvT hZ (own_w hw 10 rfl)) (by decide) (backOf (W := 0) (own_rm2 l Z a0 hw [] w_NAMED w_SCANNED_AMONG_LIBRARIES h0 n0 Z0 S_SCANNED_AMONG_LIBRARIES) hZ (own_w hw 12 rfl) (own_w hw 6 rfl) (by decide) (by decide)) q47a q47c (g := (mkF m 69 #[.val (.int ip0), .val (.int ip1), .val (.int (2 : Int32)), .val (.ref w_SCANNED_AMONG_LIBRARIES), .val (.int (1 : Int32)), .val (.int (1 : Int32)), .val (.ref w_INSERT_CALL)] [(.ref w_NAMED)])) rfl (by rw [hml]; rfl) (Steps.refl _) (argsL := []) (rest := []) (lenOf own_pd1 rfl) rfl (by show 2 * 0 + _ ≤ _; exact Nat.le_of_eq rfl) (hb hby at_69) (fun _ _ => ⟨rfl, e46, (by decide : 0 + 0 ≤ _), (by decide : 0 + 0 ≤ _)⟩)
                dsimp only [Pt.U, Pt.locs, Pt.cells, Pt.slots] at X47 l47 y47 z47 st47 hQ47
                subst l47 y47 z47
                obtain ⟨N47q, e47, hL47⟩ := hQ47
                have N47 := Fr.app N46 N47q
                rcases hL47 with ⟨rfl, hq47_0_0, -⟩ | ⟨rfl, hq47_1_0, -⟩
                · skip
                  exact absurd hq47_0_0 (Ne.symm hq40_1_0)
                · skip
                  refine own_st (fun t k => st47.trans k) ?_
                  show own_Go _ _ _ _ T47 (mkF m 72 #[.val (.int ip0), .val (.int ip1), .val (.int (2 : Int32)), .val (.ref w_SCANNED_AMONG_LIBRARIES), .val (.int (1 : Int32)), .val (.int (1 : Int32)), .val (.ref w_INSERT_CALL)] [(.int (0 : Int32))])
                  refine own_st (fun t k => XS.iload X47.here hx rfl (hb hby at_72) rfl k) ?_
                  show own_Go _ _ _ _ T47 (mkF m 74 #[.val (.int ip0), .val (.int ip1), .val (.int (2 : Int32)), .val (.ref w_SCANNED_AMONG_LIBRARIES), .val (.int (1 : Int32)), .val (.int (1 : Int32)), .val (.ref w_INSERT_CALL)] [(.int (1 : Int32)), (.int (0 : Int32))])
                  refine own_st (fun t k => XS.iconst X47.here hx rfl (hb hby at_74) k) ?_
                  show own_Go _ _ _ _ T47 (mkF m 75 #[.val (.int ip0), .val (.int ip1), .val (.int (2 : Int32)), .val (.ref w_SCANNED_AMONG_LIBRARIES), .val (.int (1 : Int32)), .val (.int (1 : Int32)), .val (.ref w_INSERT_CALL)] [(.int (4 : Int32)), (.int (1 : Int32)), (.int (0 : Int32))])
                  refine own_st (fun t k => XS.icmpYes X47.here hx rfl (pc0 := 75) (pc' := 82) rfl (hb hby at_75) rfl (feq (by decide : ¬ ((1 : Int32) = (4 : Int32)))).2 (by decide) (by decide) k) ?_
                  show own_Go _ _ _ _ T47 (mkF m 82 #[.val (.int ip0), .val (.int ip1), .val (.int (2 : Int32)), .val (.ref w_SCANNED_AMONG_LIBRARIES), .val (.int (1 : Int32)), .val (.int (1 : Int32)), .val (.ref w_INSERT_CALL)] [(.int (0 : Int32))])
                  refine own_st (fun t k => XS.iconst X47.here hx rfl (hb hby at_82) k) ?_
                  show own_Go _ _ _ _ T47 (mkF m 83 #[.val (.int ip0), .val (.int ip1), .val (.int (2 : Int32)), .val (.ref w_SCANNED_AMONG_LIBRARIES), .val (.int (1 : Int32)), .val (.int (1 : Int32)), .val (.ref w_INSERT_CALL)] [(.int (0 : Int32)), (.int (0 : Int32))])
                  refine own_st (fun t k => XS.icmpNo X47.here hx rfl (hb hby at_83) rfl (teq (by decide : (0 : Int32) = (0 : Int32))).2 k) ?_
                  show own_Go _ _ _ _ T47 (mkF m 86 #[.val (.int ip0), .val (.int ip1), .val (.int (2 : Int32)), .val (.ref w_SCANNED_AMONG_LIBRARIES), .val (.int (1 : Int32)), .val (.int (1 : Int32)), .val (.ref w_INSERT_CALL)] [])
                  refine own_st (fun t k => XS.iconst X47.here hx rfl (hb hby at_86) k) ?_
                  show own_Go _ _ _ _ T47 (mkF m 87 #[.val (.int ip0), .val (.int ip1), .val (.int (2 : Int32)), .val (.ref w_SCANNED_AMONG_LIBRARIES), .val (.int (1 : Int32)), .val (.int (1 : Int32)), .val (.ref w_INSERT_CALL)] [(.int (1 : Int32))])
                  refine own_st (fun t k => XS.goto X47.here hx rfl (pc0 := 87) (pc' := 91) rfl (hb hby at_87) (by decide) (by decide) k) ?_
                  show own_Go _ _ _ _ T47 (mkF m 91 #[.val (.int ip0), .val (.int ip1), .val (.int (2 : Int32)), .val (.ref w_SCANNED_AMONG_LIBRARIES), .val (.int (1 : Int32)), .val (.int (1 : Int32)), .val (.ref w_INSERT_CALL)] [(.int (1 : Int32))])
                  exact own_retZ X47 hx hlk (t := .boolean) hret (by simp) (hb hby at_91) (by decide) (by decide) e47 ⟨rfl, N47⟩
            · skip
              exact absurd (by decide : (1 : Int32) = (1 : Int32)) hq45_2_1
            · skip
              exact absurd (by decide : (1 : Int32) = (1 : Int32)) hq45_3_1
            · skip
              exact absurd (by decide : (1 : Int32) = (1 : Int32)) hq45_4_1
          · rw [qr41]
            show own_Go _ _ _ _ T40 (mkF m 55 #[.val (.int ip0), .val (.int ip1), .val (.int (2 : Int32)), .val (.ref w_SCANNED_AMONG_LIBRARIES), .val (.int (1 : Int32)), .unset, .unset] [(.int (2 : Int32))])
            refine own_st (fun t k => XS.istore X40.here hx rfl (hb hby at_55) rfl (l' := #[.val (.int ip0), .val (.int ip1), .val (.int (2 : Int32)), .val (.ref w_SCANNED_AMONG_LIBRARIES), .val (.int (1 : Int32)), .val (.int (2 : Int32)), .unset]) rfl k) ?_
            show own_Go _ _ _ _ T40 (mkF m 57 #[.val (.int ip0), .val (.int ip1), .val (.int (2 : Int32)), .val (.ref w_SCANNED_AMONG_LIBRARIES), .val (.int (1 : Int32)), .val (.int (2 : Int32)), .unset] [])
            refine own_st (fun t k => XS.iload X40.here hx rfl (hb hby at_57) rfl k) ?_
            show own_Go _ _ _ _ T40 (mkF m 59 #[.val (.int ip0), .val (.int ip1), .val (.int (2 : Int32)), .val (.ref w_SCANNED_AMONG_LIBRARIES), .val (.int (1 : Int32)), .val (.int (2 : Int32)), .unset] [(.int (2 : Int32))])
            obtain ⟨_, _, ⟨T48, L48, k48, n48⟩, -, X48, ⟨Lc48, hQ48, l48, y48, z48⟩, st48⟩ := Jvm.LawKit.callS X40 hx (y := (⟨"com/example/bare_container/barecontainer/bench/StartAmongLibrariesPinLaw", "workloadOf", "(I)Lcom/example/bare_container/barecontainer/bench/Workload;"⟩ : MethodName)) hown (mvT hZ (own_w hw 15 rfl)) (mvT hZ (own_w hw 16 rfl)) (mvT hZ (own_w hw 3 rfl)) (mvT hZ (own_w hw 17 rfl)) (by decide) (backOf (W := 0) (own_rm3 l Z a0 hw [] (2 : Int32) w_EMPTY_CALL w_INSERT_CALL w_STARTUP w_STARTUP_SCANNED w_STARTUP_AMONG_LIBRARIES h0 n0 Z0 S_EMPTY_CALL S_INSERT_CALL S_STARTUP S_STARTUP_SCANNED S_STARTUP_AMONG_LIBRARIES) hZ (own_w hw 17 rfl) (own_w hw 3 rfl) (by decide) (by decide)) (g := (mkF m 59 #[.val (.int ip0), .val (.int ip1), .val (.int (2 : Int32)), .val (.ref w_SCANNED_AMONG_LIBRARIES), .val (.int (1 : Int32)), .val (.int (2 : Int32)), .unset] [(.int (2 : Int32))])) rfl (by rw [hml]; rfl) (argsL := [(.int (2 : Int32))]) (rest := []) (lenOf own_pd2 rfl) rfl (by show 2 * 0 + _ ≤ _; exact Nat.le_of_eq rfl) (hb hby at_59) (fun _ _ => ⟨rfl, e40, (by decide : 0 + 0 ≤ _), (by decide : 0 + 0 ≤ _)⟩)
            dsimp only [Pt.U, Pt.locs, Pt.cells, Pt.slots] at X48 l48 y48 z48 st48 hQ48
            subst l48 y48 z48
            obtain ⟨N48q, e48, hL48⟩ := hQ48
            have N48 := Fr.app N40 N48q
            rcases hL48 with ⟨rfl, hq48_0_0, -⟩ | ⟨rfl, hq48_1_0, hq48_1_1, -⟩ | ⟨rfl, hq48_2_0, hq48_2_1, hq48_2_2, -⟩ | ⟨rfl, hq48_3_0, hq48_3_1, hq48_3_2, hq48_3_3, -⟩ | ⟨rfl, hq48_4_0, hq48_4_1, hq48_4_2, hq48_4_3, -⟩
            · skip
              exact absurd hq48_0_0 hq38_2_0
            · skip
              exact absurd hq48_1_1 hq38_2_1
            · skip
              refine own_st st48 ?_
              show own_Go _ _ _ _ T48 (mkF m 62 #[.val (.int ip0), .val (.int ip1), .val (.int (2 : Int32)), .val (.ref w_SCANNED_AMONG_LIBRARIES), .val (.int (1 : Int32)), .val (.int (2 : Int32)), .unset] [(.ref w_STARTUP)])
              refine own_st (fun t k => XS.astore X48.here hx rfl (hb hby at_62) rfl rfl (l' := #[.val (.int ip0), .val (.int ip1), .val (.int (2 : Int32)), .val (.ref w_SCANNED_AMONG_LIBRARIES), .val (.int (1 : Int32)), .val (.int (2 : Int32)), .val (.ref w_STARTUP)]) rfl k) ?_
              show own_Go _ _ _ _ T48 (mkF m 64 #[.val (.int ip0), .val (.int ip1), .val (.int (2 : Int32)), .val (.ref w_SCANNED_AMONG_LIBRARIES), .val (.int (1 : Int32)), .val (.int (2 : Int32)), .val (.ref w_STARTUP)] [])
              refine own_st (fun t k => XS.aload X48.here hx rfl (hb hby at_64) rfl rfl k) ?_
              show own_Go _ _ _ _ T48 (mkF m 66 #[.val (.int ip0), .val (.int ip1), .val (.int (2 : Int32)), .val (.ref w_SCANNED_AMONG_LIBRARIES), .val (.int (1 : Int32)), .val (.int (2 : Int32)), .val (.ref w_STARTUP)] [(.ref w_STARTUP)])
              obtain ⟨cq49, kq49, q49a, q49b, q49c⟩ := isOf hZ e48 E_w_STARTUP
              obtain ⟨_, _, ⟨T49, L49, k49, n49⟩, -, X49, ⟨Lc49, hQ49, l49, y49, z49⟩, st49⟩ := X48.virtualBack hx (y := (⟨"com/example/bare_container/barecontainer/bench/Workload", "start", "()Lcom/example/bare_container/barecontainer/bench/Workload$Start;"⟩ : MethodName)) (z := (⟨"com/example/bare_container/barecontainer/bench/Workload", "start", "()Lcom/example/bare_container/barecontainer/bench/Workload$Start;"⟩ : MethodName)) hown (mvT hZ (own_w hw 21 rfl)) (mvT hZ (own_w hw 22 rfl)) (notFace_of_selects (args := #[]) (mvT hZ (own_w hw 24 rfl))) (mvT hZ (own_w hw 24 rfl)) (mvT hZ (own_w hw 23 rfl)) (by decide) (backOf (W := 0) (own_rm4 l Z a0 hw [] w_STARTUP w_NAMED h0 n0 Z0 F_start_w_STARTUP) hZ (own_w hw 25 rfl) (own_w hw 19 rfl) (by decide) (by decide)) q49a q49c (g := (mkF m 66 #[.val (.int ip0), .val (.int ip1), .val (.int (2 : Int32)), .val (.ref w_SCANNED_AMONG_LIBRARIES), .val (.int (1 : Int32)), .val (.int (2 : Int32)), .val (.ref w_STARTUP)] [(.ref w_STARTUP)])) rfl (by rw [hml]; rfl) (Steps.refl _) (argsL := []) (rest := []) (lenOf own_pd3 rfl) rfl (by show 2 * 0 + _ ≤ _; exact Nat.le_of_eq rfl) (hb hby at_66) (fun _ _ => ⟨rfl, e48, (by decide : 0 + 0 ≤ _), (by decide : 0 + 0 ≤ _)⟩)
              dsimp only [Pt.U, Pt.locs, Pt.cells, Pt.slots] at X49 l49 y49 z49 st49 hQ49
              subst l49 y49 z49
              obtain ⟨N49q, e49, hL49⟩ := hQ49
              have N49 := Fr.app N48 N49q
              rcases hL49 with ⟨rfl, -⟩
              · skip
                refine own_st (fun t k => st49.trans k) ?_
                show own_Go _ _ _ _ T49 (mkF m 69 #[.val (.int ip0), .val (.int ip1), .val (.int (2 : Int32)), .val (.ref w_SCANNED_AMONG_LIBRARIES), .val (.int (1 : Int32)), .val (.int (2 : Int32)), .val (.ref w_STARTUP)] [(.ref w_NAMED)])
                obtain ⟨cq50, kq50, q50a, q50b, q50c⟩ := isOf hZ e49 E_w_NAMED
                obtain ⟨_, _, ⟨T50, L50, k50, n50⟩, -, X50, ⟨Lc50, hQ50, l50, y50, z50⟩, st50⟩ := X49.virtualBack hx (y := (⟨"com/example/bare_container/barecontainer/bench/Workload$Start", "amongLibraries", "()Z"⟩ : MethodName)) (z := (⟨"com/example/bare_container/barecontainer/bench/Workload$Start", "amongLibraries", "()Z"⟩ : MethodName)) hown (mvT hZ (own_w hw 8 rfl)) (mvT hZ (own_w hw 9 rfl)) (notFace_of_selects (args := #[]) (mvT hZ (own_w hw 11 rfl))) (mvT hZ (own_w hw 11 rfl)) (mvT hZ (own_w hw 10 rfl)) (by decide) (backOf (W := 0) (own_rm2 l Z a0 hw [] w_NAMED w_SCANNED_AMONG_LIBRARIES h0 n0 Z0 S_SCANNED_AMONG_LIBRARIES) hZ (own_w hw 12 rfl) (own_w hw 6 rfl) (by decide) (by decide)) q50a q50c (g := (mkF m 69 #[.val (.int ip0), .val (.int ip1), .val (.int (2 : Int32)), .val (.ref w_SCANNED_AMONG_LIBRARIES), .val (.int (1 : Int32)), .val (.int (2 : Int32)), .val (.ref w_STARTUP)] [(.ref w_NAMED)])) rfl (by rw [hml]; rfl) (Steps.refl _) (argsL := []) (rest := []) (lenOf own_pd1 rfl) rfl (by show 2 * 0 + _ ≤ _; exact Nat.le_of_eq rfl) (hb hby at_69) (fun _ _ => ⟨rfl, e49, (by decide : 0 + 0 ≤ _), (by decide : 0 + 0 ≤ _)⟩)
                dsimp only [Pt.U, Pt.locs, Pt.cells, Pt.slots] at X50 l50 y50 z50 st50 hQ50
                subst l50 y50 z50
                obtain ⟨N50q, e50, hL50⟩ := hQ50
                have N50 := Fr.app N49 N50q
                rcases hL50 with ⟨rfl, hq50_0_0, -⟩ | ⟨rfl, hq50_1_0, -⟩
                · skip
                  exact absurd hq50_0_0 (Ne.symm hq40_1_0)
                · skip
                  refine own_st (fun t k => st50.trans k) ?_
                  show own_Go _ _ _ _ T50 (mkF m 72 #[.val (.int ip0), .val (.int ip1), .val (.int (2 : Int32)), .val (.ref w_SCANNED_AMONG_LIBRARIES), .val (.int (1 : Int32)), .val (.int (2 : Int32)), .val (.ref w_STARTUP)] [(.int (0 : Int32))])
                  refine own_st (fun t k => XS.iload X50.here hx rfl (hb hby at_72) rfl k) ?_
                  show own_Go _ _ _ _ T50 (mkF m 74 #[.val (.int ip0), .val (.int ip1), .val (.int (2 : Int32)), .val (.ref w_SCANNED_AMONG_LIBRARIES), .val (.int (1 : Int32)), .val (.int (2 : Int32)), .val (.ref w_STARTUP)] [(.int (2 : Int32)), (.int (0 : Int32))])
                  refine own_st (fun t k => XS.iconst X50.here hx rfl (hb hby at_74) k) ?_
                  show own_Go _ _ _ _ T50 (mkF m 75 #[.val (.int ip0), .val (.int ip1), .val (.int (2 : Int32)), .val (.ref w_SCANNED_AMONG_LIBRARIES), .val (.int (1 : Int32)), .val (.int (2 : Int32)), .val (.ref w_STARTUP)] [(.int (4 : Int32)), (.int (2 : Int32)), (.int (0 : Int32))])
                  refine own_st (fun t k => XS.icmpYes X50.here hx rfl (pc0 := 75) (pc' := 82) rfl (hb hby at_75) rfl (feq (by decide : ¬ ((2 : Int32) = (4 : Int32)))).2 (by decide) (by decide) k) ?_
                  show own_Go _ _ _ _ T50 (mkF m 82 #[.val (.int ip0), .val (.int ip1), .val (.int (2 : Int32)), .val (.ref w_SCANNED_AMONG_LIBRARIES), .val (.int (1 : Int32)), .val (.int (2 : Int32)), .val (.ref w_STARTUP)] [(.int (0 : Int32))])
                  refine own_st (fun t k => XS.iconst X50.here hx rfl (hb hby at_82) k) ?_
                  show own_Go _ _ _ _ T50 (mkF m 83 #[.val (.int ip0), .val (.int ip1), .val (.int (2 : Int32)), .val (.ref w_SCANNED_AMONG_LIBRARIES), .val (.int (1 : Int32)), .val (.int (2 : Int32)), .val (.ref w_STARTUP)] [(.int (0 : Int32)), (.int (0 : Int32))])
                  refine own_st (fun t k => XS.icmpNo X50.here hx rfl (hb hby at_83) rfl (teq (by decide : (0 : Int32) = (0 : Int32))).2 k) ?_
                  show own_Go _ _ _ _ T50 (mkF m 86 #[.val (.int ip0), .val (.int ip1), .val (.int (2 : Int32)), .val (.ref w_SCANNED_AMONG_LIBRARIES), .val (.int (1 : Int32)), .val (.int (2 : Int32)), .val (.ref w_STARTUP)] [])
                  refine own_st (fun t k => XS.iconst X50.here hx rfl (hb hby at_86) k) ?_
                  show own_Go _ _ _ _ T50 (mkF m 87 #[.val (.int ip0), .val (.int ip1), .val (.int (2 : Int32)), .val (.ref w_SCANNED_AMONG_LIBRARIES), .val (.int (1 : Int32)), .val (.int (2 : Int32)), .val (.ref w_STARTUP)] [(.int (1 : Int32))])
                  refine own_st (fun t k => XS.goto X50.here hx rfl (pc0 := 87) (pc' := 91) rfl (hb hby at_87) (by decide) (by decide) k) ?_
                  show own_Go _ _ _ _ T50 (mkF m 91 #[.val (.int ip0), .val (.int ip1), .val (.int (2 : Int32)), .val (.ref w_SCANNED_AMONG_LIBRARIES), .val (.int (1 : Int32)), .val (.int (2 : Int32)), .val (.ref w_STARTUP)] [(.int (1 : Int32))])
                  exact own_retZ X50 hx hlk (t := .boolean) hret (by simp) (hb hby at_91) (by decide) (by decide) e50 ⟨rfl, N50⟩
            · skip
              exact absurd (by decide : (2 : Int32) = (2 : Int32)) hq48_3_2
            · skip
              exact absurd (by decide : (2 : Int32) = (2 : Int32)) hq48_4_2
          · rw [qr41]
            show own_Go _ _ _ _ T40 (mkF m 55 #[.val (.int ip0), .val (.int ip1), .val (.int (2 : Int32)), .val (.ref w_SCANNED_AMONG_LIBRARIES), .val (.int (1 : Int32)), .unset, .unset] [(.int (3 : Int32))])
            refine own_st (fun t k => XS.istore X40.here hx rfl (hb hby at_55) rfl (l' := #[.val (.int ip0), .val (.int ip1), .val (.int (2 : Int32)), .val (.ref w_SCANNED_AMONG_LIBRARIES), .val (.int (1 : Int32)), .val (.int (3 : Int32)), .unset]) rfl k) ?_
            show own_Go _ _ _ _ T40 (mkF m 57 #[.val (.int ip0), .val (.int ip1), .val (.int (2 : Int32)), .val (.ref w_SCANNED_AMONG_LIBRARIES), .val (.int (1 : Int32)), .val (.int (3 : Int32)), .unset] [])
            refine own_st (fun t k => XS.iload X40.here hx rfl (hb hby at_57) rfl k) ?_
            show own_Go _ _ _ _ T40 (mkF m 59 #[.val (.int ip0), .val (.int ip1), .val (.int (2 : Int32)), .val (.ref w_SCANNED_AMONG_LIBRARIES), .val (.int (1 : Int32)), .val (.int (3 : Int32)), .unset] [(.int (3 : Int32))])
            obtain ⟨_, _, ⟨T51, L51, k51, n51⟩, -, X51, ⟨Lc51, hQ51, l51, y51, z51⟩, st51⟩ := Jvm.LawKit.callS X40 hx (y := (⟨"com/example/bare_container/barecontainer/bench/StartAmongLibrariesPinLaw", "workloadOf", "(I)Lcom/example/bare_container/barecontainer/bench/Workload;"⟩ : MethodName)) hown (mvT hZ (own_w hw 15 rfl)) (mvT hZ (own_w hw 16 rfl)) (mvT hZ (own_w hw 3 rfl)) (mvT hZ (own_w hw 17 rfl)) (by decide) (backOf (W := 0) (own_rm3 l Z a0 hw [] (3 : Int32) w_EMPTY_CALL w_INSERT_CALL w_STARTUP w_STARTUP_SCANNED w_STARTUP_AMONG_LIBRARIES h0 n0 Z0 S_EMPTY_CALL S_INSERT_CALL S_STARTUP S_STARTUP_SCANNED S_STARTUP_AMONG_LIBRARIES) hZ (own_w hw 17 rfl) (own_w hw 3 rfl) (by decide) (by decide)) (g := (mkF m 59 #[.val (.int ip0), .val (.int ip1), .val (.int (2 : Int32)), .val (.ref w_SCANNED_AMONG_LIBRARIES), .val (.int (1 : Int32)), .val (.int (3 : Int32)), .unset] [(.int (3 : Int32))])) rfl (by rw [hml]; rfl) (argsL := [(.int (3 : Int32))]) (rest := []) (lenOf own_pd2 rfl) rfl (by show 2 * 0 + _ ≤ _; exact Nat.le_of_eq rfl) (hb hby at_59) (fun _ _ => ⟨rfl, e40, (by decide : 0 + 0 ≤ _), (by decide : 0 + 0 ≤ _)⟩)
            dsimp only [Pt.U, Pt.locs, Pt.cells, Pt.slots] at X51 l51 y51 z51 st51 hQ51
            subst l51 y51 z51
            obtain ⟨N51q, e51, hL51⟩ := hQ51
            have N51 := Fr.app N40 N51q
            rcases hL51 with ⟨rfl, hq51_0_0, -⟩ | ⟨rfl, hq51_1_0, hq51_1_1, -⟩ | ⟨rfl, hq51_2_0, hq51_2_1, hq51_2_2, -⟩ | ⟨rfl, hq51_3_0, hq51_3_1, hq51_3_2, hq51_3_3, -⟩ | ⟨rfl, hq51_4_0, hq51_4_1, hq51_4_2, hq51_4_3, -⟩
            · skip
              exact absurd hq51_0_0 (by decide : ¬ ((3 : Int32) = (0 : Int32)))
            · skip
              exact absurd hq51_1_1 (by decide : ¬ ((3 : Int32) = (1 : Int32)))
            · skip
              exact absurd hq51_2_2 (by decide : ¬ ((3 : Int32) = (2 : Int32)))
            · skip
              refine own_st st51 ?_
              show own_Go _ _ _ _ T51 (mkF m 62 #[.val (.int ip0), .val (.int ip1), .val (.int (2 : Int32)), .val (.ref w_SCANNED_AMONG_LIBRARIES), .val (.int (1 : Int32)), .val (.int (3 : Int32)), .unset] [(.ref w_STARTUP_SCANNED)])
              refine own_st (fun t k => XS.astore X51.here hx rfl (hb hby at_62) rfl rfl (l' := #[.val (.int ip0), .val (.int ip1), .val (.int (2 : Int32)), .val (.ref w_SCANNED_AMONG_LIBRARIES), .val (.int (1 : Int32)), .val (.int (3 : Int32)), .val (.ref w_STARTUP_SCANNED)]) rfl k) ?_
              show own_Go _ _ _ _ T51 (mkF m 64 #[.val (.int ip0), .val (.int ip1), .val (.int (2 : Int32)), .val (.ref w_SCANNED_AMONG_LIBRARIES), .val (.int (1 : Int32)), .val (.int (3 : Int32)), .val (.ref w_STARTUP_SCANNED)] [])
              refine own_st (fun t k => XS.aload X51.here hx rfl (hb hby at_64) rfl rfl k) ?_
              show own_Go _ _ _ _ T51 (mkF m 66 #[.val (.int ip0), .val (.int ip1), .val (.int (2 : Int32)), .val (.ref w_SCANNED_AMONG_LIBRARIES), .val (.int (1 : Int32)), .val (.int (3 : Int32)), .val (.ref w_STARTUP_SCANNED)] [(.ref w_STARTUP_SCANNED)])
              obtain ⟨cq52, kq52, q52a, q52b, q52c⟩ := isOf hZ e51 E_w_STARTUP_SCANNED
              obtain ⟨_, _, ⟨T52, L52, k52, n52⟩, -, X52, ⟨Lc52, hQ52, l52, y52, z52⟩, st52⟩ := X51.virtualBack hx (y := (⟨"com/example/bare_container/barecontainer/bench/Workload", "start", "()Lcom/example/bare_container/barecontainer/bench/Workload$Start;"⟩ : MethodName)) (z := (⟨"com/example/bare_container/barecontainer/bench/Workload", "start", "()Lcom/example/bare_container/barecontainer/bench/Workload$Start;"⟩ : MethodName)) hown (mvT hZ (own_w hw 21 rfl)) (mvT hZ (own_w hw 22 rfl)) (notFace_of_selects (args := #[]) (mvT hZ (own_w hw 24 rfl))) (mvT hZ (own_w hw 24 rfl)) (mvT hZ (own_w hw 23 rfl)) (by decide) (backOf (W := 0) (own_rm4 l Z a0 hw [] w_STARTUP_SCANNED w_SCANNED h0 n0 Z0 F_start_w_STARTUP_SCANNED) hZ (own_w hw 25 rfl) (own_w hw 19 rfl) (by decide) (by decide)) q52a q52c (g := (mkF m 66 #[.val (.int ip0), .val (.int ip1), .val (.int (2 : Int32)), .val (.ref w_SCANNED_AMONG_LIBRARIES), .val (.int (1 : Int32)), .val (.int (3 : Int32)), .val (.ref w_STARTUP_SCANNED)] [(.ref w_STARTUP_SCANNED)])) rfl (by rw [hml]; rfl) (Steps.refl _) (argsL := []) (rest := []) (lenOf own_pd3 rfl) rfl (by show 2 * 0 + _ ≤ _; exact Nat.le_of_eq rfl) (hb hby at_66) (fun _ _ => ⟨rfl, e51, (by decide : 0 + 0 ≤ _), (by decide : 0 + 0 ≤ _)⟩)
              dsimp only [Pt.U, Pt.locs, Pt.cells, Pt.slots] at X52 l52 y52 z52 st52 hQ52
              subst l52 y52 z52
              obtain ⟨N52q, e52, hL52⟩ := hQ52
              have N52 := Fr.app N51 N52q
              rcases hL52 with ⟨rfl, -⟩
              · skip
                refine own_st (fun t k => st52.trans k) ?_
                show own_Go _ _ _ _ T52 (mkF m 69 #[.val (.int ip0), .val (.int ip1), .val (.int (2 : Int32)), .val (.ref w_SCANNED_AMONG_LIBRARIES), .val (.int (1 : Int32)), .val (.int (3 : Int32)), .val (.ref w_STARTUP_SCANNED)] [(.ref w_SCANNED)])
                obtain ⟨cq53, kq53, q53a, q53b, q53c⟩ := isOf hZ e52 E_w_SCANNED
                obtain ⟨_, _, ⟨T53, L53, k53, n53⟩, -, X53, ⟨Lc53, hQ53, l53, y53, z53⟩, st53⟩ := X52.virtualBack hx (y := (⟨"com/example/bare_container/barecontainer/bench/Workload$Start", "amongLibraries", "()Z"⟩ : MethodName)) (z := (⟨"com/example/bare_container/barecontainer/bench/Workload$Start", "amongLibraries", "()Z"⟩ : MethodName)) hown (mvT hZ (own_w hw 8 rfl)) (mvT hZ (own_w hw 9 rfl)) (notFace_of_selects (args := #[]) (mvT hZ (own_w hw 11 rfl))) (mvT hZ (own_w hw 11 rfl)) (mvT hZ (own_w hw 10 rfl)) (by decide) (backOf (W := 0) (own_rm2 l Z a0 hw [] w_SCANNED w_SCANNED_AMONG_LIBRARIES h0 n0 Z0 S_SCANNED_AMONG_LIBRARIES) hZ (own_w hw 12 rfl) (own_w hw 6 rfl) (by decide) (by decide)) q53a q53c (g := (mkF m 69 #[.val (.int ip0), .val (.int ip1), .val (.int (2 : Int32)), .val (.ref w_SCANNED_AMONG_LIBRARIES), .val (.int (1 : Int32)), .val (.int (3 : Int32)), .val (.ref w_STARTUP_SCANNED)] [(.ref w_SCANNED)])) rfl (by rw [hml]; rfl) (Steps.refl _) (argsL := []) (rest := []) (lenOf own_pd1 rfl) rfl (by show 2 * 0 + _ ≤ _; exact Nat.le_of_eq rfl) (hb hby at_69) (fun _ _ => ⟨rfl, e52, (by decide : 0 + 0 ≤ _), (by decide : 0 + 0 ≤ _)⟩)
                dsimp only [Pt.U, Pt.locs, Pt.cells, Pt.slots] at X53 l53 y53 z53 st53 hQ53
                subst l53 y53 z53
                obtain ⟨N53q, e53, hL53⟩ := hQ53
                have N53 := Fr.app N52 N53q
                rcases hL53 with ⟨rfl, hq53_0_0, -⟩ | ⟨rfl, hq53_1_0, -⟩
                · skip
                  exact absurd hq53_0_0 (Fld.ne F_ordinal_w_SCANNED F_ordinal_w_SCANNED_AMONG_LIBRARIES (own_nei (by decide)))
                · skip
                  refine own_st (fun t k => st53.trans k) ?_
                  show own_Go _ _ _ _ T53 (mkF m 72 #[.val (.int ip0), .val (.int ip1), .val (.int (2 : Int32)), .val (.ref w_SCANNED_AMONG_LIBRARIES), .val (.int (1 : Int32)), .val (.int (3 : Int32)), .val (.ref w_STARTUP_SCANNED)] [(.int (0 : Int32))])
                  refine own_st (fun t k => XS.iload X53.here hx rfl (hb hby at_72) rfl k) ?_
                  show own_Go _ _ _ _ T53 (mkF m 74 #[.val (.int ip0), .val (.int ip1), .val (.int (2 : Int32)), .val (.ref w_SCANNED_AMONG_LIBRARIES), .val (.int (1 : Int32)), .val (.int (3 : Int32)), .val (.ref w_STARTUP_SCANNED)] [(.int (3 : Int32)), (.int (0 : Int32))])
                  refine own_st (fun t k => XS.iconst X53.here hx rfl (hb hby at_74) k) ?_
                  show own_Go _ _ _ _ T53 (mkF m 75 #[.val (.int ip0), .val (.int ip1), .val (.int (2 : Int32)), .val (.ref w_SCANNED_AMONG_LIBRARIES), .val (.int (1 : Int32)), .val (.int (3 : Int32)), .val (.ref w_STARTUP_SCANNED)] [(.int (4 : Int32)), (.int (3 : Int32)), (.int (0 : Int32))])
                  refine own_st (fun t k => XS.icmpYes X53.here hx rfl (pc0 := 75) (pc' := 82) rfl (hb hby at_75) rfl (feq (by decide : ¬ ((3 : Int32) = (4 : Int32)))).2 (by decide) (by decide) k) ?_
                  show own_Go _ _ _ _ T53 (mkF m 82 #[.val (.int ip0), .val (.int ip1), .val (.int (2 : Int32)), .val (.ref w_SCANNED_AMONG_LIBRARIES), .val (.int (1 : Int32)), .val (.int (3 : Int32)), .val (.ref w_STARTUP_SCANNED)] [(.int (0 : Int32))])
                  refine own_st (fun t k => XS.iconst X53.here hx rfl (hb hby at_82) k) ?_
                  show own_Go _ _ _ _ T53 (mkF m 83 #[.val (.int ip0), .val (.int ip1), .val (.int (2 : Int32)), .val (.ref w_SCANNED_AMONG_LIBRARIES), .val (.int (1 : Int32)), .val (.int (3 : Int32)), .val (.ref w_STARTUP_SCANNED)] [(.int (0 : Int32)), (.int (0 : Int32))])
                  refine own_st (fun t k => XS.icmpNo X53.here hx rfl (hb hby at_83) rfl (teq (by decide : (0 : Int32) = (0 : Int32))).2 k) ?_
                  show own_Go _ _ _ _ T53 (mkF m 86 #[.val (.int ip0), .val (.int ip1), .val (.int (2 : Int32)), .val (.ref w_SCANNED_AMONG_LIBRARIES), .val (.int (1 : Int32)), .val (.int (3 : Int32)), .val (.ref w_STARTUP_SCANNED)] [])
                  refine own_st (fun t k => XS.iconst X53.here hx rfl (hb hby at_86) k) ?_
                  show own_Go _ _ _ _ T53 (mkF m 87 #[.val (.int ip0), .val (.int ip1), .val (.int (2 : Int32)), .val (.ref w_SCANNED_AMONG_LIBRARIES), .val (.int (1 : Int32)), .val (.int (3 : Int32)), .val (.ref w_STARTUP_SCANNED)] [(.int (1 : Int32))])
                  refine own_st (fun t k => XS.goto X53.here hx rfl (pc0 := 87) (pc' := 91) rfl (hb hby at_87) (by decide) (by decide) k) ?_
                  show own_Go _ _ _ _ T53 (mkF m 91 #[.val (.int ip0), .val (.int ip1), .val (.int (2 : Int32)), .val (.ref w_SCANNED_AMONG_LIBRARIES), .val (.int (1 : Int32)), .val (.int (3 : Int32)), .val (.ref w_STARTUP_SCANNED)] [(.int (1 : Int32))])
                  exact own_retZ X53 hx hlk (t := .boolean) hret (by simp) (hb hby at_91) (by decide) (by decide) e53 ⟨rfl, N53⟩
            · skip
              exact absurd (by decide : (3 : Int32) = (3 : Int32)) hq51_4_3
          · rw [qr41]
            show own_Go _ _ _ _ T40 (mkF m 55 #[.val (.int ip0), .val (.int ip1), .val (.int (2 : Int32)), .val (.ref w_SCANNED_AMONG_LIBRARIES), .val (.int (1 : Int32)), .unset, .unset] [(.int (4 : Int32))])
            refine own_st (fun t k => XS.istore X40.here hx rfl (hb hby at_55) rfl (l' := #[.val (.int ip0), .val (.int ip1), .val (.int (2 : Int32)), .val (.ref w_SCANNED_AMONG_LIBRARIES), .val (.int (1 : Int32)), .val (.int (4 : Int32)), .unset]) rfl k) ?_
            show own_Go _ _ _ _ T40 (mkF m 57 #[.val (.int ip0), .val (.int ip1), .val (.int (2 : Int32)), .val (.ref w_SCANNED_AMONG_LIBRARIES), .val (.int (1 : Int32)), .val (.int (4 : Int32)), .unset] [])
            refine own_st (fun t k => XS.iload X40.here hx rfl (hb hby at_57) rfl k) ?_
            show own_Go _ _ _ _ T40 (mkF m 59 #[.val (.int ip0), .val (.int ip1), .val (.int (2 : Int32)), .val (.ref w_SCANNED_AMONG_LIBRARIES), .val (.int (1 : Int32)), .val (.int (4 : Int32)), .unset] [(.int (4 : Int32))])
            obtain ⟨_, _, ⟨T54, L54, k54, n54⟩, -, X54, ⟨Lc54, hQ54, l54, y54, z54⟩, st54⟩ := Jvm.LawKit.callS X40 hx (y := (⟨"com/example/bare_container/barecontainer/bench/StartAmongLibrariesPinLaw", "workloadOf", "(I)Lcom/example/bare_container/barecontainer/bench/Workload;"⟩ : MethodName)) hown (mvT hZ (own_w hw 15 rfl)) (mvT hZ (own_w hw 16 rfl)) (mvT hZ (own_w hw 3 rfl)) (mvT hZ (own_w hw 17 rfl)) (by decide) (backOf (W := 0) (own_rm3 l Z a0 hw [] (4 : Int32) w_EMPTY_CALL w_INSERT_CALL w_STARTUP w_STARTUP_SCANNED w_STARTUP_AMONG_LIBRARIES h0 n0 Z0 S_EMPTY_CALL S_INSERT_CALL S_STARTUP S_STARTUP_SCANNED S_STARTUP_AMONG_LIBRARIES) hZ (own_w hw 17 rfl) (own_w hw 3 rfl) (by decide) (by decide)) (g := (mkF m 59 #[.val (.int ip0), .val (.int ip1), .val (.int (2 : Int32)), .val (.ref w_SCANNED_AMONG_LIBRARIES), .val (.int (1 : Int32)), .val (.int (4 : Int32)), .unset] [(.int (4 : Int32))])) rfl (by rw [hml]; rfl) (argsL := [(.int (4 : Int32))]) (rest := []) (lenOf own_pd2 rfl) rfl (by show 2 * 0 + _ ≤ _; exact Nat.le_of_eq rfl) (hb hby at_59) (fun _ _ => ⟨rfl, e40, (by decide : 0 + 0 ≤ _), (by decide : 0 + 0 ≤ _)⟩)
            dsimp only [Pt.U, Pt.locs, Pt.cells, Pt.slots] at X54 l54 y54 z54 st54 hQ54
            subst l54 y54 z54
            obtain ⟨N54q, e54, hL54⟩ := hQ54
            have N54 := Fr.app N40 N54q
            rcases hL54 with ⟨rfl, hq54_0_0, -⟩ | ⟨rfl, hq54_1_0, hq54_1_1, -⟩ | ⟨rfl, hq54_2_0, hq54_2_1, hq54_2_2, -⟩ | ⟨rfl, hq54_3_0, hq54_3_1, hq54_3_2, hq54_3_3, -⟩ | ⟨rfl, hq54_4_0, hq54_4_1, hq54_4_2, hq54_4_3, -⟩
            · skip
              exact absurd hq54_0_0 (by decide : ¬ ((4 : Int32) = (0 : Int32)))
            · skip
              exact absurd hq54_1_1 (by decide : ¬ ((4 : Int32) = (1 : Int32)))
            · skip
              exact absurd hq54_2_2 (by decide : ¬ ((4 : Int32) = (2 : Int32)))
            · skip
              exact absurd hq54_3_3 (by decide : ¬ ((4 : Int32) = (3 : Int32)))
            · skip
              refine own_st st54 ?_
              show own_Go _ _ _ _ T54 (mkF m 62 #[.val (.int ip0), .val (.int ip1), .val (.int (2 : Int32)), .val (.ref w_SCANNED_AMONG_LIBRARIES), .val (.int (1 : Int32)), .val (.int (4 : Int32)), .unset] [(.ref w_STARTUP_AMONG_LIBRARIES)])
              refine own_st (fun t k => XS.astore X54.here hx rfl (hb hby at_62) rfl rfl (l' := #[.val (.int ip0), .val (.int ip1), .val (.int (2 : Int32)), .val (.ref w_SCANNED_AMONG_LIBRARIES), .val (.int (1 : Int32)), .val (.int (4 : Int32)), .val (.ref w_STARTUP_AMONG_LIBRARIES)]) rfl k) ?_
              show own_Go _ _ _ _ T54 (mkF m 64 #[.val (.int ip0), .val (.int ip1), .val (.int (2 : Int32)), .val (.ref w_SCANNED_AMONG_LIBRARIES), .val (.int (1 : Int32)), .val (.int (4 : Int32)), .val (.ref w_STARTUP_AMONG_LIBRARIES)] [])
              refine own_st (fun t k => XS.aload X54.here hx rfl (hb hby at_64) rfl rfl k) ?_
              show own_Go _ _ _ _ T54 (mkF m 66 #[.val (.int ip0), .val (.int ip1), .val (.int (2 : Int32)), .val (.ref w_SCANNED_AMONG_LIBRARIES), .val (.int (1 : Int32)), .val (.int (4 : Int32)), .val (.ref w_STARTUP_AMONG_LIBRARIES)] [(.ref w_STARTUP_AMONG_LIBRARIES)])
              obtain ⟨cq55, kq55, q55a, q55b, q55c⟩ := isOf hZ e54 E_w_STARTUP_AMONG_LIBRARIES
              obtain ⟨_, _, ⟨T55, L55, k55, n55⟩, -, X55, ⟨Lc55, hQ55, l55, y55, z55⟩, st55⟩ := X54.virtualBack hx (y := (⟨"com/example/bare_container/barecontainer/bench/Workload", "start", "()Lcom/example/bare_container/barecontainer/bench/Workload$Start;"⟩ : MethodName)) (z := (⟨"com/example/bare_container/barecontainer/bench/Workload", "start", "()Lcom/example/bare_container/barecontainer/bench/Workload$Start;"⟩ : MethodName)) hown (mvT hZ (own_w hw 21 rfl)) (mvT hZ (own_w hw 22 rfl)) (notFace_of_selects (args := #[]) (mvT hZ (own_w hw 24 rfl))) (mvT hZ (own_w hw 24 rfl)) (mvT hZ (own_w hw 23 rfl)) (by decide) (backOf (W := 0) (own_rm4 l Z a0 hw [] w_STARTUP_AMONG_LIBRARIES w_SCANNED_AMONG_LIBRARIES h0 n0 Z0 F_start_w_STARTUP_AMONG_LIBRARIES) hZ (own_w hw 25 rfl) (own_w hw 19 rfl) (by decide) (by decide)) q55a q55c (g := (mkF m 66 #[.val (.int ip0), .val (.int ip1), .val (.int (2 : Int32)), .val (.ref w_SCANNED_AMONG_LIBRARIES), .val (.int (1 : Int32)), .val (.int (4 : Int32)), .val (.ref w_STARTUP_AMONG_LIBRARIES)] [(.ref w_STARTUP_AMONG_LIBRARIES)])) rfl (by rw [hml]; rfl) (Steps.refl _) (argsL := []) (rest := []) (lenOf own_pd3 rfl) rfl (by show 2 * 0 + _ ≤ _; exact Nat.le_of_eq rfl) (hb hby at_66) (fun _ _ => ⟨rfl, e54, (by decide : 0 + 0 ≤ _), (by decide : 0 + 0 ≤ _)⟩)
              dsimp only [Pt.U, Pt.locs, Pt.cells, Pt.slots] at X55 l55 y55 z55 st55 hQ55
              subst l55 y55 z55
              obtain ⟨N55q, e55, hL55⟩ := hQ55
              have N55 := Fr.app N54 N55q
              rcases hL55 with ⟨rfl, -⟩
              · skip
                refine own_st (fun t k => st55.trans k) ?_
                show own_Go _ _ _ _ T55 (mkF m 69 #[.val (.int ip0), .val (.int ip1), .val (.int (2 : Int32)), .val (.ref w_SCANNED_AMONG_LIBRARIES), .val (.int (1 : Int32)), .val (.int (4 : Int32)), .val (.ref w_STARTUP_AMONG_LIBRARIES)] [(.ref w_SCANNED_AMONG_LIBRARIES)])
                obtain ⟨cq56, kq56, q56a, q56b, q56c⟩ := isOf hZ e55 E_w_SCANNED_AMONG_LIBRARIES
                obtain ⟨_, _, ⟨T56, L56, k56, n56⟩, -, X56, ⟨Lc56, hQ56, l56, y56, z56⟩, st56⟩ := X55.virtualBack hx (y := (⟨"com/example/bare_container/barecontainer/bench/Workload$Start", "amongLibraries", "()Z"⟩ : MethodName)) (z := (⟨"com/example/bare_container/barecontainer/bench/Workload$Start", "amongLibraries", "()Z"⟩ : MethodName)) hown (mvT hZ (own_w hw 8 rfl)) (mvT hZ (own_w hw 9 rfl)) (notFace_of_selects (args := #[]) (mvT hZ (own_w hw 11 rfl))) (mvT hZ (own_w hw 11 rfl)) (mvT hZ (own_w hw 10 rfl)) (by decide) (backOf (W := 0) (own_rm2 l Z a0 hw [] w_SCANNED_AMONG_LIBRARIES w_SCANNED_AMONG_LIBRARIES h0 n0 Z0 S_SCANNED_AMONG_LIBRARIES) hZ (own_w hw 12 rfl) (own_w hw 6 rfl) (by decide) (by decide)) q56a q56c (g := (mkF m 69 #[.val (.int ip0), .val (.int ip1), .val (.int (2 : Int32)), .val (.ref w_SCANNED_AMONG_LIBRARIES), .val (.int (1 : Int32)), .val (.int (4 : Int32)), .val (.ref w_STARTUP_AMONG_LIBRARIES)] [(.ref w_SCANNED_AMONG_LIBRARIES)])) rfl (by rw [hml]; rfl) (Steps.refl _) (argsL := []) (rest := []) (lenOf own_pd1 rfl) rfl (by show 2 * 0 + _ ≤ _; exact Nat.le_of_eq rfl) (hb hby at_69) (fun _ _ => ⟨rfl, e55, (by decide : 0 + 0 ≤ _), (by decide : 0 + 0 ≤ _)⟩)
                dsimp only [Pt.U, Pt.locs, Pt.cells, Pt.slots] at X56 l56 y56 z56 st56 hQ56
                subst l56 y56 z56
                obtain ⟨N56q, e56, hL56⟩ := hQ56
                have N56 := Fr.app N55 N56q
                rcases hL56 with ⟨rfl, hq56_0_0, -⟩ | ⟨rfl, hq56_1_0, -⟩
                · skip
                  refine own_st (fun t k => st56.trans k) ?_
                  show own_Go _ _ _ _ T56 (mkF m 72 #[.val (.int ip0), .val (.int ip1), .val (.int (2 : Int32)), .val (.ref w_SCANNED_AMONG_LIBRARIES), .val (.int (1 : Int32)), .val (.int (4 : Int32)), .val (.ref w_STARTUP_AMONG_LIBRARIES)] [(.int (1 : Int32))])
                  refine own_st (fun t k => XS.iload X56.here hx rfl (hb hby at_72) rfl k) ?_
                  show own_Go _ _ _ _ T56 (mkF m 74 #[.val (.int ip0), .val (.int ip1), .val (.int (2 : Int32)), .val (.ref w_SCANNED_AMONG_LIBRARIES), .val (.int (1 : Int32)), .val (.int (4 : Int32)), .val (.ref w_STARTUP_AMONG_LIBRARIES)] [(.int (4 : Int32)), (.int (1 : Int32))])
                  refine own_st (fun t k => XS.iconst X56.here hx rfl (hb hby at_74) k) ?_
                  show own_Go _ _ _ _ T56 (mkF m 75 #[.val (.int ip0), .val (.int ip1), .val (.int (2 : Int32)), .val (.ref w_SCANNED_AMONG_LIBRARIES), .val (.int (1 : Int32)), .val (.int (4 : Int32)), .val (.ref w_STARTUP_AMONG_LIBRARIES)] [(.int (4 : Int32)), (.int (4 : Int32)), (.int (1 : Int32))])
                  refine own_st (fun t k => XS.icmpNo X56.here hx rfl (hb hby at_75) rfl (teq (by decide : (4 : Int32) = (4 : Int32))).2 k) ?_
                  show own_Go _ _ _ _ T56 (mkF m 78 #[.val (.int ip0), .val (.int ip1), .val (.int (2 : Int32)), .val (.ref w_SCANNED_AMONG_LIBRARIES), .val (.int (1 : Int32)), .val (.int (4 : Int32)), .val (.ref w_STARTUP_AMONG_LIBRARIES)] [(.int (1 : Int32))])
                  refine own_st (fun t k => XS.iconst X56.here hx rfl (hb hby at_78) k) ?_
                  show own_Go _ _ _ _ T56 (mkF m 79 #[.val (.int ip0), .val (.int ip1), .val (.int (2 : Int32)), .val (.ref w_SCANNED_AMONG_LIBRARIES), .val (.int (1 : Int32)), .val (.int (4 : Int32)), .val (.ref w_STARTUP_AMONG_LIBRARIES)] [(.int (1 : Int32)), (.int (1 : Int32))])
                  refine own_st (fun t k => XS.goto X56.here hx rfl (pc0 := 79) (pc' := 83) rfl (hb hby at_79) (by decide) (by decide) k) ?_
                  show own_Go _ _ _ _ T56 (mkF m 83 #[.val (.int ip0), .val (.int ip1), .val (.int (2 : Int32)), .val (.ref w_SCANNED_AMONG_LIBRARIES), .val (.int (1 : Int32)), .val (.int (4 : Int32)), .val (.ref w_STARTUP_AMONG_LIBRARIES)] [(.int (1 : Int32)), (.int (1 : Int32))])
                  refine own_st (fun t k => XS.icmpNo X56.here hx rfl (hb hby at_83) rfl (teq (by decide : (1 : Int32) = (1 : Int32))).2 k) ?_
                  show own_Go _ _ _ _ T56 (mkF m 86 #[.val (.int ip0), .val (.int ip1), .val (.int (2 : Int32)), .val (.ref w_SCANNED_AMONG_LIBRARIES), .val (.int (1 : Int32)), .val (.int (4 : Int32)), .val (.ref w_STARTUP_AMONG_LIBRARIES)] [])
                  refine own_st (fun t k => XS.iconst X56.here hx rfl (hb hby at_86) k) ?_
                  show own_Go _ _ _ _ T56 (mkF m 87 #[.val (.int ip0), .val (.int ip1), .val (.int (2 : Int32)), .val (.ref w_SCANNED_AMONG_LIBRARIES), .val (.int (1 : Int32)), .val (.int (4 : Int32)), .val (.ref w_STARTUP_AMONG_LIBRARIES)] [(.int (1 : Int32))])
                  refine own_st (fun t k => XS.goto X56.here hx rfl (pc0 := 87) (pc' := 91) rfl (hb hby at_87) (by decide) (by decide) k) ?_
                  show own_Go _ _ _ _ T56 (mkF m 91 #[.val (.int ip0), .val (.int ip1), .val (.int (2 : Int32)), .val (.ref w_SCANNED_AMONG_LIBRARIES), .val (.int (1 : Int32)), .val (.int (4 : Int32)), .val (.ref w_STARTUP_AMONG_LIBRARIES)] [(.int (1 : Int32))])
                  exact own_retZ X56 hx hlk (t := .boolean) hret (by simp) (hb hby at_91) (by decide) (by decide) e56 ⟨rfl, N56⟩
                · skip
                  exact absurd hq39_0_0 hq56_1_0
      · skip
        exact absurd (rfl : w_SCANNED_AMONG_LIBRARIES = w_SCANNED_AMONG_LIBRARIES) hq39_1_0
set_option maxRecDepth 65536 in
set_option maxHeartbeats 40000000 in
theorem own_comes {Post : Tables → Env → Array Value → State → Outcome → State → Prop} (hpost : ∀ tb e args s v u, (limb_1_1.after args s (.returned v) u = true ∧ limb_1_2.after args s (.returned v) u = true ∧ True) → FrameEnd s (.returned v) u (Jvm.fieldLocs frame_1_writes args s ++ Jvm.arrayLocs frame_1_arrays args s ++ Jvm.staticLocs frame_1_statics s) 0 0 → Post tb e args s (.returned v) u) :
    ArmFor flags0 classFile x code maxLocals ret World_1 tables_1 room_1 Calls_1 rest_1 Pre_1 Post := by
  intro l hfl _ _ p e ha hc hk s m args below hf hA hF happ hP
  obtain ⟨hcalls, hrest, hpre⟩ := hP
  obtain ⟨-, -, -, hnamed, -, -, -, hat⟩ := (Spec.applies_iff hf).mp happ
  obtain ⟨hg, hn⟩ := and_e (Cond.before_iff.mp (show (Jvm.Cond.and given_1 narrow_1).before args s = true from hpre))
  obtain ⟨g31, g32⟩ := and_e hg
  obtain ⟨g33, g34⟩ := and_e g32
  obtain ⟨w0, w1, rfl⟩ : ∃ w0 w1 : Value, args = #[w0, w1] := by
    have hs : args.size = 2 := by simpa [Cond.value, given_1] using g31
    obtain ⟨L⟩ := args
    match L, hs with
    | [w0, w1], _ => exact ⟨w0, w1, rfl⟩
  have hw := fun d (hd : d ∈ tables_1) => atoms_spec (ws := Jvm.Cond.code x code maxLocals ret :: tables_1) hat d (List.mem_cons_of_mem _ hd)
  obtain ⟨i0, ei0⟩ := is_v g33
  obtain rfl : w0 = (.int i0) := Option.some.inj ei0
  obtain ⟨i1, ei1⟩ := is_v g34
  obtain rfl : w1 = (.int i1) := Option.some.inj ei1
  have hfit : Fit s := fun {y c} hc i hi => by
    obtain ⟨ha, rfl⟩ := Array.getElem?_eq_some_iff.mp hc
    have q := List.all_eq_true.mp ((Array.all_eq_true_iff_forall_mem.mp hF) _ (Array.getElem_mem ha)) i (List.mem_range.mpr hi)
    simpa [Array.getElem?_eq_getElem hi] using q
  obtain ⟨g1, g2⟩ := and_e hn
  obtain ⟨g3, g4⟩ := and_e g2
  obtain ⟨g5, g6⟩ := and_e g4
  obtain ⟨g7, g8⟩ := and_e g6
  obtain ⟨g9, g10⟩ := and_e g8
  obtain ⟨g11, g12⟩ := and_e g10
  obtain ⟨g13, g14⟩ := and_e g12
  obtain ⟨g15, g16⟩ := and_e g14
  obtain ⟨g17, g18⟩ := and_e g16
  obtain ⟨g19, g20⟩ := and_e g18
  obtain ⟨g21, g22⟩ := and_e g20
  obtain ⟨g23, g24⟩ := and_e g22
  obtain ⟨g25, g26⟩ := and_e g24
  obtain ⟨g27, g28⟩ := and_e g26
  obtain ⟨g29, g30⟩ := and_e g28
  obtain ⟨w_NAMED, ev_w_NAMED⟩ := exa_v g1
  have S_NAMED := Sta.start ev_w_NAMED (Or.inr ⟨(own_w hw 6 rfl), (own_w hw 7 rfl)⟩)
  have E_w_NAMED := Exa.start ev_w_NAMED g1
  obtain ⟨w_SCANNED_AMONG_LIBRARIES, ev_w_SCANNED_AMONG_LIBRARIES⟩ := exa_v g3
  have S_SCANNED_AMONG_LIBRARIES := Sta.start ev_w_SCANNED_AMONG_LIBRARIES (Or.inr ⟨(own_w hw 6 rfl), (own_w hw 14 rfl)⟩)
  have E_w_SCANNED_AMONG_LIBRARIES := Exa.start ev_w_SCANNED_AMONG_LIBRARIES g3
  obtain ⟨w_STARTUP_SCANNED, ev_w_STARTUP_SCANNED⟩ := exa_v g9
  have S_STARTUP_SCANNED := Sta.start ev_w_STARTUP_SCANNED (Or.inr ⟨(own_w hw 19 rfl), (own_w hw 20 rfl)⟩)
  have E_w_STARTUP_SCANNED := Exa.start ev_w_STARTUP_SCANNED g9
  obtain ⟨w_SCANNED, ev_w_SCANNED⟩ := exa_v g11
  have S_SCANNED := Sta.start ev_w_SCANNED (Or.inr ⟨(own_w hw 6 rfl), (own_w hw 28 rfl)⟩)
  have E_w_SCANNED := Exa.start ev_w_SCANNED g11
  obtain ⟨w_INSERT_CALL, ev_w_INSERT_CALL⟩ := exa_v g17
  have S_INSERT_CALL := Sta.start ev_w_INSERT_CALL (Or.inr ⟨(own_w hw 19 rfl), (own_w hw 37 rfl)⟩)
  have E_w_INSERT_CALL := Exa.start ev_w_INSERT_CALL g17
  obtain ⟨w_EMPTY_CALL, ev_w_EMPTY_CALL⟩ := exa_v g21
  have S_EMPTY_CALL := Sta.start ev_w_EMPTY_CALL (Or.inr ⟨(own_w hw 19 rfl), (own_w hw 40 rfl)⟩)
  have E_w_EMPTY_CALL := Exa.start ev_w_EMPTY_CALL g21
  obtain ⟨w_STARTUP, ev_w_STARTUP⟩ := exa_v g25
  have S_STARTUP := Sta.start ev_w_STARTUP (Or.inr ⟨(own_w hw 19 rfl), (own_w hw 42 rfl)⟩)
  have E_w_STARTUP := Exa.start ev_w_STARTUP g25
  obtain ⟨w_STARTUP_AMONG_LIBRARIES, ev_w_STARTUP_AMONG_LIBRARIES⟩ := exa_v g29
  have S_STARTUP_AMONG_LIBRARIES := Sta.start ev_w_STARTUP_AMONG_LIBRARIES (Or.inr ⟨(own_w hw 19 rfl), (own_w hw 44 rfl)⟩)
  have E_w_STARTUP_AMONG_LIBRARIES := Exa.start ev_w_STARTUP_AMONG_LIBRARIES g29
  have F_ordinal_w_NAMED := Fld.start ((fld_at ev_w_NAMED).symm.trans (own_eqI g5 (Term.int_eval _)))
  have F_ordinal_w_SCANNED_AMONG_LIBRARIES := Fld.start ((fld_at ev_w_SCANNED_AMONG_LIBRARIES).symm.trans (own_eqI g7 (Term.int_eval _)))
  have F_start_w_STARTUP_SCANNED := Fld.start ((fld_at ev_w_STARTUP_SCANNED).symm.trans (own_eqR g13 ev_w_SCANNED))
  have F_ordinal_w_SCANNED := Fld.start ((fld_at ev_w_SCANNED).symm.trans (own_eqI g15 (Term.int_eval _)))
  have F_start_w_INSERT_CALL := Fld.start ((fld_at ev_w_INSERT_CALL).symm.trans (own_eqR g19 ev_w_NAMED))
  have F_start_w_EMPTY_CALL := Fld.start ((fld_at ev_w_EMPTY_CALL).symm.trans (own_eqR g23 ev_w_NAMED))
  have F_start_w_STARTUP := Fld.start ((fld_at ev_w_STARTUP).symm.trans (own_eqR g27 ev_w_NAMED))
  have F_start_w_STARTUP_AMONG_LIBRARIES := Fld.start ((fld_at ev_w_STARTUP_AMONG_LIBRARIES).symm.trans (own_eqR g30 ev_w_SCANNED_AMONG_LIBRARIES))
  obtain ⟨n, o, h1, h2, h3, _, L, rfl, ⟨rfl, N⟩, hq⟩ := own_rm0 l s _ hw tables_1 i0 i1 w_NAMED w_SCANNED_AMONG_LIBRARIES w_STARTUP_SCANNED w_SCANNED w_INSERT_CALL w_EMPTY_CALL w_STARTUP w_STARTUP_AMONG_LIBRARIES s.heap s.heap.size (Nat.le_refl _) S_NAMED E_w_NAMED S_SCANNED_AMONG_LIBRARIES E_w_SCANNED_AMONG_LIBRARIES S_STARTUP_SCANNED E_w_STARTUP_SCANNED S_SCANNED E_w_SCANNED S_INSERT_CALL E_w_INSERT_CALL S_EMPTY_CALL E_w_EMPTY_CALL S_STARTUP E_w_STARTUP S_STARTUP_AMONG_LIBRARIES E_w_STARTUP_AMONG_LIBRARIES F_ordinal_w_NAMED F_ordinal_w_SCANNED_AMONG_LIBRARIES F_start_w_STARTUP_SCANNED F_ordinal_w_SCANNED F_start_w_INSERT_CALL F_start_w_EMPTY_CALL F_start_w_STARTUP F_start_w_STARTUP_AMONG_LIBRARIES p e ha hc hk s m _ below hf ((Spec.applies_iff_loose hf).mp happ).1 ⟨rfl, State.Warmed39.refl s, rfl⟩ trivial
  exact ⟨n, _, h1, h2, h3, hpost _ _ _ _ _ _ ⟨Cond.after_iff.mpr rfl, Cond.after_iff.mpr (eq_i res_at (Term.int_eval (1)) rfl), trivial⟩ ⟨hq.1, hq.2.1, (hq.2.2.sift fun y hy => Or.inr (N y hy)).mono (by decide) (by decide)⟩⟩
theorem main_1_1 : Claimed_1_1 := own_comes fun _ _ _ _ _ _ h hF => ⟨h.1, hF⟩
theorem main_1_2 : Claimed_1_2 := own_comes fun _ _ _ _ _ _ h hF => ⟨h.2.1, hF⟩
end Jvm.Pilot.@@N@@
namespace Jvm.Pilot.@@N@@
open Jvm Jvm.ClassFile Sem Op Lib Jvm.Free Jvm.Stand Jvm.Pilot.@@N@@.Jvm.D
/-! MADE BY PROGRAM (witnessworld.py) out of the Statement's table words and the real class files: 13 classes; the members and pool entries that the words name. The judged class is class 1, her method 3. -/
namespace start1
open Jvm.ClassFile
def u (s : String) : CpInfo := .utf8 (stringToUtf16 s)
/-- a pool by its gaps: so many unusable entries, then the entry; so many at the end -/
def gap : Nat → List CpInfo → List CpInfo
  | 0, r => r
  | n + 1, r => .unusable :: gap n r
def poolList (es : List (Nat × CpInfo)) (last : Nat) : List CpInfo := es.foldr (fun e r => gap e.1 (e.2 :: r)) (gap last [])
def pool (es : List (Nat × CpInfo)) (last : Nat) : Array CpInfo := ⟨poolList es last⟩
def fileOf (pool : Array CpInfo) (this : Nat) (attrs : Array Attribute := #[]) (ms : Array MethodInfo := #[]) (fl : Nat := 33) (sup : Nat := 0) (ifs : Array Nat := #[]) (fds : Array FieldInfo := #[]) : ClassFile where
  minorVersion := 0
  majorVersion := 65
  constantPool := pool
  accessFlags := fl
  thisClass := this
  superClass := sup
  interfaces := ifs
  fields := fds
  methods := ms
  attributes := attrs
def plain (name : String) (sup : Option ClassId) : Class where
  name := name
  kind := .ordinary
  loader := none
  accessFlags := 33
  super := sup
  interfaces := #[]
  cf := none
  fields := #[]
  methods := #[]
  instanceTypes := #[]
  staticTypes := #[]
  resolved := #[]
  callSites := []
  init := .initialized
  statics := none
  mirror := none

def pool0 : Array CpInfo := pool [(5, u "<init>"), (0, u "()V"), (1, .class_ 10), (1, u "java/lang/Object")] 113

def k0m0 : Method := { name := "<init>", desc := "()V", sig := { parameters := [], returnType := none }, accessFlags := 1, code := none }
/-- java/lang/Object -/
def k0 : Class := { plain "java/lang/Object" none with
  accessFlags := 33
  interfaces := #[]
  cf := some (fileOf pool0 8 #[] #[{ accessFlags := 1, nameIndex := 5, descriptorIndex := 6, attributes := #[] }] 33 0 #[] #[])
  fields := #[]
  methods := #[k0m0]
  instanceTypes := #[]
  staticTypes := #[]
  resolved := Array.replicate 124 none
  statics := none }

def pool1 : Array CpInfo := pool [(2, .class_ 4), (1, u "java/lang/Object"), (0, u "<init>"), (0, u "()V"), (0, .fieldref 8 9), (0, .class_ 10), (0, .nameAndType 11 12), (0, u "com/example/bare_container/barecontainer/bench/Workload$Start"), (0, u "NAMED"), (0, u "Lcom/example/bare_container/barecontainer/bench/Workload$Start;"), (0, .fieldref 8 14), (0, .nameAndType 15 12), (0, u "SCANNED"), (0, .fieldref 8 17), (0, .nameAndType 18 12), (0, u "SCANNED_AMONG_LIBRARIES"), (0, .fieldref 20 21), (0, .class_ 22), (0, .nameAndType 23 24), (0, u "com/example/bare_container/barecontainer/bench/Workload"), (0, u "EMPTY_CALL"), (0, u "Lcom/example/bare_container/barecontainer/bench/Workload;"), (0, .fieldref 20 26), (0, .nameAndType 27 24), (0, u "INSERT_CALL"), (0, .fieldref 20 29), (0, .nameAndType 30 24), (0, u "STARTUP"), (0, .fieldref 20 32), (0, .nameAndType 33 24), (0, u "STARTUP_SCANNED"), (0, .fieldref 20 35), (0, .nameAndType 36 24), (0, u "STARTUP_AMONG_LIBRARIES"), (0, .integer 2147483647), (0, .methodref 39 40), (0, .class_ 41), (0, .nameAndType 42 43), (0, u "com/example/bare_container/barecontainer/bench/StartAmongLibrariesPinLaw"), (0, u "startOf"), (0, u "(I)Lcom/example/bare_container/barecontainer/bench/Workload$Start;"), (0, .methodref 8 45), (0, .nameAndType 46 47), (0, u "amongLibraries"), (0, u "()Z"), (0, .methodref 8 49), (0, .nameAndType 50 47), (0, u "namesModules"), (0, .methodref 39 52), (0, .nameAndType 53 54), (0, u "workloadOf"), (0, u "(I)Lcom/example/bare_container/barecontainer/bench/Workload;"), (0, .methodref 20 56), (0, .nameAndType 57 58), (0, u "start"), (0, u "()Lcom/example/bare_container/barecontainer/bench/Workload$Start;"), (3, u "law"), (0, u "(II)Z")] 4

def k1m0 : Method := { name := "<init>", desc := "()V", sig := { parameters := [], returnType := none }, accessFlags := 1, code := none }
def k1c1 : Code := { maxStack := 2, maxLocals := 1, code := method_2_code, exceptionTable := #[], attributes := #[] }
def k1m1 : Method := { name := "startOf", desc := "(I)Lcom/example/bare_container/barecontainer/bench/Workload$Start;", sig := { parameters := [.int], returnType := some (.object "com/example/bare_container/barecontainer/bench/Workload$Start") }, accessFlags := 10, code := some k1c1 }
def k1c2 : Code := { maxStack := 2, maxLocals := 1, code := method_3_code, exceptionTable := #[], attributes := #[] }
def k1m2 : Method := { name := "workloadOf", desc := "(I)Lcom/example/bare_container/barecontainer/bench/Workload;", sig := { parameters := [.int], returnType := some (.object "com/example/bare_container/barecontainer/bench/Workload") }, accessFlags := 10, code := some k1c2 }
def k1c3 : Code := { maxStack := 3, maxLocals := 7, code := code, exceptionTable := #[], attributes := #[] }
def k1m3 : Method := { name := "law", desc := "(II)Z", sig := { parameters := [.int, .int], returnType := some .boolean }, accessFlags := 9, code := some k1c3 }
/-- com/example/bare_container/barecontainer/bench/StartAmongLibrariesPinLaw -/
def k1 : Class := { plain "com/example/bare_container/barecontainer/bench/StartAmongLibrariesPinLaw" (some 0) with
  accessFlags := 49
  interfaces := #[]
  cf := some (fileOf pool1 39 #[] #[{ accessFlags := 1, nameIndex := 5, descriptorIndex := 6, attributes := #[] }, { accessFlags := 10, nameIndex := 42, descriptorIndex := 43, attributes := #[] }, { accessFlags := 10, nameIndex := 53, descriptorIndex := 54, attributes := #[] }, { accessFlags := 9, nameIndex := 62, descriptorIndex := 63, attributes := #[] }] 49 2 #[] #[])
  fields := #[]
  methods := #[k1m0, k1m1, k1m2, k1m3]
  instanceTypes := #[]
  staticTypes := #[]
  resolved := Array.replicate 68 none
  statics := none }

def pool2 : Array CpInfo := pool [(1, .class_ 2), (0, u "java/lang/constant/Constable"), (0, .class_ 4), (0, u "java/lang/Object")] 6

/-- java/lang/constant/Constable -/
def k2 : Class := { plain "java/lang/constant/Constable" (some 0) with
  accessFlags := 1537
  interfaces := #[]
  cf := some (fileOf pool2 1 #[] #[] 1537 3 #[] #[])
  fields := #[]
  methods := #[]
  instanceTypes := #[]
  staticTypes := #[]
  resolved := Array.replicate 11 none
  statics := none }

def pool3 : Array CpInfo := pool [(1, .class_ 2), (0, u "java/lang/Comparable"), (0, .class_ 4), (0, u "java/lang/Object")] 7

/-- java/lang/Comparable -/
def k3 : Class := { plain "java/lang/Comparable" (some 0) with
  accessFlags := 1537
  interfaces := #[]
  cf := some (fileOf pool3 1 #[] #[] 1537 3 #[] #[])
  fields := #[]
  methods := #[]
  instanceTypes := #[]
  staticTypes := #[]
  resolved := Array.replicate 12 none
  statics := none }

def pool4 : Array CpInfo := pool [(1, .class_ 2), (0, u "java/io/Serializable"), (0, .class_ 4), (0, u "java/lang/Object")] 2

/-- java/io/Serializable -/
def k4 : Class := { plain "java/io/Serializable" (some 0) with
  accessFlags := 1537
  interfaces := #[]
  cf := some (fileOf pool4 1 #[] #[] 1537 3 #[] #[])
  fields := #[]
  methods := #[]
  instanceTypes := #[]
  staticTypes := #[]
  resolved := Array.replicate 7 none
  statics := none }

def pool5 : Array CpInfo := pool [(2, .class_ 4), (1, u "java/lang/Enum"), (0, u "name"), (0, u "Ljava/lang/String;"), (2, u "ordinal"), (0, u "I"), (1, .class_ 14), (1, u "java/lang/Object"), (4, u "hash"), (86, .class_ 108), (1, u "java/lang/Enum$EnumDesc"), (2, .class_ 112), (0, u "java/lang/constant/Constable"), (0, .class_ 114), (0, u "java/lang/Comparable"), (0, .class_ 116), (0, u "java/io/Serializable")] 87

/-- java/lang/Enum -/
def k5 : Class := { plain "java/lang/Enum" (some 0) with
  accessFlags := 1057
  interfaces := #[2, 3, 4]
  cf := some (fileOf pool5 2 #[.nestMembers #[106]] #[] 1057 12 #[111, 113, 115] #[{ accessFlags := 18, nameIndex := 5, descriptorIndex := 6, attributes := #[] }, { accessFlags := 18, nameIndex := 9, descriptorIndex := 10, attributes := #[] }, { accessFlags := 2, nameIndex := 19, descriptorIndex := 10, attributes := #[] }])
  fields := #[{ name := "name", type := (.object "java/lang/String"), accessFlags := 18, slot := 0, constantValue := 0 }, { name := "ordinal", type := .int, accessFlags := 18, slot := 1, constantValue := 0 }, { name := "hash", type := .int, accessFlags := 2, slot := 2, constantValue := 0 }]
  methods := #[]
  instanceTypes := #[(.object "java/lang/String"), .int, .int]
  staticTypes := #[]
  resolved := Array.replicate 204 none
  statics := none }

def pool6 : Array CpInfo := pool [(1, .class_ 2), (0, u "com/example/bare_container/barecontainer/bench/Workload$Start"), (0, .fieldref 1 4), (0, .nameAndType 5 6), (0, u "NAMED"), (0, u "Lcom/example/bare_container/barecontainer/bench/Workload$Start;"), (2, u "SCANNED"), (0, .fieldref 1 11), (0, .nameAndType 12 6), (0, u "SCANNED_AMONG_LIBRARIES"), (2, u "$VALUES"), (0, u "[Lcom/example/bare_container/barecontainer/bench/Workload$Start;"), (6, .class_ 25), (1, u "java/lang/Enum"), (21, u "namesModules"), (0, u "()Z"), (1, u "amongLibraries"), (5, .class_ 57), (0, u "com/example/bare_container/barecontainer/bench/Workload")] 2

def k6c0 : Code := { maxStack := 2, maxLocals := 1, code := prog_25_method_4_code, exceptionTable := #[], attributes := #[] }
def k6m0 : Method := { name := "namesModules", desc := "()Z", sig := { parameters := [], returnType := some .boolean }, accessFlags := 1, code := some k6c0 }
def k6c1 : Code := { maxStack := 2, maxLocals := 1, code := prog_25_method_5_code, exceptionTable := #[], attributes := #[] }
def k6m1 : Method := { name := "amongLibraries", desc := "()Z", sig := { parameters := [], returnType := some .boolean }, accessFlags := 1, code := some k6c1 }
/-- com/example/bare_container/barecontainer/bench/Workload$Start -/
def k6 : Class := { plain "com/example/bare_container/barecontainer/bench/Workload$Start" (some 5) with
  accessFlags := 16433
  interfaces := #[]
  cf := some (fileOf pool6 1 #[.nestHost 56] #[{ accessFlags := 1, nameIndex := 47, descriptorIndex := 48, attributes := #[] }, { accessFlags := 1, nameIndex := 50, descriptorIndex := 48, attributes := #[] }] 16433 23 #[] #[{ accessFlags := 16409, nameIndex := 5, descriptorIndex := 6, attributes := #[] }, { accessFlags := 16409, nameIndex := 9, descriptorIndex := 6, attributes := #[] }, { accessFlags := 16409, nameIndex := 12, descriptorIndex := 6, attributes := #[] }, { accessFlags := 4122, nameIndex := 15, descriptorIndex := 16, attributes := #[] }])
  fields := #[{ name := "NAMED", type := (.object "com/example/bare_container/barecontainer/bench/Workload$Start"), accessFlags := 16409, slot := 0, constantValue := 0 }, { name := "SCANNED", type := (.object "com/example/bare_container/barecontainer/bench/Workload$Start"), accessFlags := 16409, slot := 1, constantValue := 0 }, { name := "SCANNED_AMONG_LIBRARIES", type := (.object "com/example/bare_container/barecontainer/bench/Workload$Start"), accessFlags := 16409, slot := 2, constantValue := 0 }, { name := "$VALUES", type := (.array (.object "com/example/bare_container/barecontainer/bench/Workload$Start")), accessFlags := 4122, slot := 3, constantValue := 0 }]
  methods := #[k6m0, k6m1]
  instanceTypes := #[(.object "java/lang/String"), .int, .int]
  staticTypes := #[(.object "com/example/bare_container/barecontainer/bench/Workload$Start"), (.object "com/example/bare_container/barecontainer/bench/Workload$Start"), (.object "com/example/bare_container/barecontainer/bench/Workload$Start"), (.array (.object "com/example/bare_container/barecontainer/bench/Workload$Start"))]
  resolved := Array.replicate 60 none
  statics := some 0 }

def pool7 : Array CpInfo := pool [(1, .class_ 2), (0, u "com/example/bare_container/barecontainer/bench/Workload"), (2, u "EMPTY_CALL"), (0, u "Lcom/example/bare_container/barecontainer/bench/Workload;"), (2, u "INSERT_CALL"), (2, u "STARTUP"), (2, u "STARTUP_SCANNED"), (2, u "STARTUP_AMONG_LIBRARIES"), (2, u "$VALUES"), (0, u "[Lcom/example/bare_container/barecontainer/bench/Workload;"), (6, .class_ 31), (1, u "java/lang/Enum"), (8, u "label"), (0, u "Ljava/lang/String;"), (2, u "perCall"), (0, u "Z"), (0, .fieldref 1 47), (0, .nameAndType 48 49), (0, u "start"), (0, u "Lcom/example/bare_container/barecontainer/bench/Workload$Start;"), (6, u "unit"), (2, u "target"), (0, u "D"), (15, u "jvmOptions"), (0, u "Ljava/util/List;"), (25, .class_ 105), (1, u "com/example/bare_container/barecontainer/bench/Workload$Start"), (27, u "PER_CALL_HEAP"), (14, u "()Lcom/example/bare_container/barecontainer/bench/Workload$Start;")] 24

def k7c0 : Code := { maxStack := 1, maxLocals := 1, code := prog_24_method_7_code, exceptionTable := #[], attributes := #[] }
def k7m0 : Method := { name := "start", desc := "()Lcom/example/bare_container/barecontainer/bench/Workload$Start;", sig := { parameters := [], returnType := some (.object "com/example/bare_container/barecontainer/bench/Workload$Start") }, accessFlags := 1, code := some k7c0 }
/-- com/example/bare_container/barecontainer/bench/Workload -/
def k7 : Class := { plain "com/example/bare_container/barecontainer/bench/Workload" (some 5) with
  accessFlags := 16433
  interfaces := #[]
  cf := some (fileOf pool7 1 #[.nestMembers #[103]] #[{ accessFlags := 1, nameIndex := 48, descriptorIndex := 148, attributes := #[] }] 16433 29 #[] #[{ accessFlags := 16409, nameIndex := 5, descriptorIndex := 6, attributes := #[] }, { accessFlags := 16409, nameIndex := 9, descriptorIndex := 6, attributes := #[] }, { accessFlags := 16409, nameIndex := 12, descriptorIndex := 6, attributes := #[] }, { accessFlags := 16409, nameIndex := 15, descriptorIndex := 6, attributes := #[] }, { accessFlags := 16409, nameIndex := 18, descriptorIndex := 6, attributes := #[] }, { accessFlags := 26, nameIndex := 133, descriptorIndex := 41, attributes := #[] }, { accessFlags := 18, nameIndex := 40, descriptorIndex := 41, attributes := #[] }, { accessFlags := 18, nameIndex := 44, descriptorIndex := 45, attributes := #[] }, { accessFlags := 18, nameIndex := 48, descriptorIndex := 49, attributes := #[] }, { accessFlags := 18, nameIndex := 56, descriptorIndex := 41, attributes := #[] }, { accessFlags := 18, nameIndex := 59, descriptorIndex := 60, attributes := #[] }, { accessFlags := 18, nameIndex := 76, descriptorIndex := 77, attributes := #[] }, { accessFlags := 4122, nameIndex := 21, descriptorIndex := 22, attributes := #[] }])
  fields := #[{ name := "EMPTY_CALL", type := (.object "com/example/bare_container/barecontainer/bench/Workload"), accessFlags := 16409, slot := 0, constantValue := 0 }, { name := "INSERT_CALL", type := (.object "com/example/bare_container/barecontainer/bench/Workload"), accessFlags := 16409, slot := 1, constantValue := 0 }, { name := "STARTUP", type := (.object "com/example/bare_container/barecontainer/bench/Workload"), accessFlags := 16409, slot := 2, constantValue := 0 }, { name := "STARTUP_SCANNED", type := (.object "com/example/bare_container/barecontainer/bench/Workload"), accessFlags := 16409, slot := 3, constantValue := 0 }, { name := "STARTUP_AMONG_LIBRARIES", type := (.object "com/example/bare_container/barecontainer/bench/Workload"), accessFlags := 16409, slot := 4, constantValue := 0 }, { name := "PER_CALL_HEAP", type := (.object "java/lang/String"), accessFlags := 26, slot := 5, constantValue := 0 }, { name := "label", type := (.object "java/lang/String"), accessFlags := 18, slot := 3, constantValue := 0 }, { name := "perCall", type := .boolean, accessFlags := 18, slot := 4, constantValue := 0 }, { name := "start", type := (.object "com/example/bare_container/barecontainer/bench/Workload$Start"), accessFlags := 18, slot := 5, constantValue := 0 }, { name := "unit", type := (.object "java/lang/String"), accessFlags := 18, slot := 6, constantValue := 0 }, { name := "target", type := .double, accessFlags := 18, slot := 7, constantValue := 0 }, { name := "jvmOptions", type := (.object "java/util/List"), accessFlags := 18, slot := 8, constantValue := 0 }, { name := "$VALUES", type := (.array (.object "com/example/bare_container/barecontainer/bench/Workload")), accessFlags := 4122, slot := 6, constantValue := 0 }]
  methods := #[k7m0]
  instanceTypes := #[(.object "java/lang/String"), .int, .int, (.object "java/lang/String"), .boolean, (.object "com/example/bare_container/barecontainer/bench/Workload$Start"), (.object "java/lang/String"), .double, (.object "java/util/List")]
  staticTypes := #[(.object "com/example/bare_container/barecontainer/bench/Workload"), (.object "com/example/bare_container/barecontainer/bench/Workload"), (.object "com/example/bare_container/barecontainer/bench/Workload"), (.object "com/example/bare_container/barecontainer/bench/Workload"), (.object "com/example/bare_container/barecontainer/bench/Workload"), (.object "java/lang/String"), (.array (.object "com/example/bare_container/barecontainer/bench/Workload"))]
  resolved := Array.replicate 173 none
  statics := some 1 }

def pool8 : Array CpInfo := pool [(1, u "java/lang/Cloneable"), (0, .class_ 1), (0, u "java/lang/Object"), (0, .class_ 3)] 3

/-- java/lang/Cloneable -/
def k8 : Class := { plain "java/lang/Cloneable" (some 0) with
  accessFlags := 1537
  interfaces := #[]
  cf := some (fileOf pool8 2 #[] #[] 1537 4 #[] #[])
  fields := #[]
  methods := #[]
  instanceTypes := #[]
  staticTypes := #[]
  resolved := Array.replicate 8 none
  statics := none }

/-- the primitive byte -/
def k9 : Class := { plain "byte" none with kind := .primitive 'B', accessFlags := 0x411 }
/-- [B -/
def k10 : Class := { plain "[B" (some 0) with kind := .array 9 .byte, interfaces := #[8, 4], accessFlags := 1041 }

/-- the primitive int -/
def k11 : Class := { plain "int" none with kind := .primitive 'I', accessFlags := 0x411 }
/-- [I -/
def k12 : Class := { plain "[I" (some 0) with kind := .array 11 .int, interfaces := #[8, 4], accessFlags := 1041 }

def heap : Heap := #[{ cls := 6, slots := #[.ref 2, .ref 5, .ref 3, .null], vm := .statics 6 },
  { cls := 7, slots := #[.ref 7, .ref 6, .ref 8, .ref 4, .ref 9, .null, .null], vm := .statics 7 },
  { cls := 6, slots := #[.null, .int 0, .int 0], vm := .none },
  { cls := 6, slots := #[.null, .int 2, .int 0], vm := .none },
  { cls := 7, slots := #[.null, .int 0, .int 0, .null, .int 0, .ref 5, .null, .double 0, .null], vm := .none },
  { cls := 6, slots := #[.null, .int 1, .int 0], vm := .none },
  { cls := 7, slots := #[.null, .int 0, .int 0, .null, .int 0, .ref 2, .null, .double 0, .null], vm := .none },
  { cls := 7, slots := #[.null, .int 0, .int 0, .null, .int 0, .ref 2, .null, .double 0, .null], vm := .none },
  { cls := 7, slots := #[.null, .int 0, .int 0, .null, .int 0, .ref 2, .null, .double 0, .null], vm := .none },
  { cls := 7, slots := #[.null, .int 0, .int 0, .null, .int 0, .ref 3, .null, .double 0, .null], vm := .none }]
def classes : Array Class := #[k0, k1, k2, k3, k4, k5, k6, k7, k8, k9, k10, k11, k12]
def interned : List (Array UInt16 × Addr) := []
def slotsUsed : Nat := 65
def theMethod : MethodId := ⟨1, 3⟩
def args0 : Array Value := #[.int 5, .int 7]
def aboutOver (below : List Frame) : State where
  vm := { classes := classes, interned := interned.toArray }
  heap := heap
  slotsUsed := slotsUsed
  threads := #[{ frames := .invoking theMethod args0 :: below }]
def below0 : List Frame := [.native { method := ⟨0, 0⟩, args := #[] }]
def about1 : State := aboutOver below0
def p0 : Program := .bare "" "" ""
def e0 : Env := launch0.env 0 0 0
theorem w_frames : about1.frames = Frame.invoking theMethod args0 :: below0 := rfl
set_option maxRecDepth 65536 in
theorem w_args : argsFit about1.vm theMethod args0 = true := by decide +kernel
set_option maxRecDepth 65536 in
theorem w_heap : heapFits about1 = true := by decide +kernel
set_option maxRecDepth 65536 in
theorem w_runnable : about1.curStatus? = some .runnable := by decide +kernel
set_option maxRecDepth 65536 in
theorem w_alone : about1.alone = true := by decide +kernel
set_option maxRecDepth 65536 in
theorem w_named : about1.methodNamed? x = some theMethod := by decide +kernel
set_option maxRecDepth 65536 in
theorem w_hears : about1.hears theMethod below0 = true := by decide +kernel
set_option maxRecDepth 65536 in
theorem w_ripe : about1.ripe theMethod args0 below0 = true := by decide +kernel
theorem w_running : about1.status = .running := rfl
set_option maxRecDepth 65536 in
theorem w_room : about1.hasRoom e0.platform room_1 = true :=
  launch0.hasRoom_least _ room_1 (by decide +kernel) (by decide +kernel) (by decide +kernel) (by decide +kernel) (by decide +kernel) (by decide +kernel)
theorem allAtoms_all (ts : List Jvm.Cond) (a : Array Jvm.Value) (st : Jvm.State) : (allAtoms ts).before a st = ts.all (fun c => c.before a st) := by
  induction ts with
  | nil => rfl
  | cons c t ih =>
    show (Jvm.Cond.and c (allAtoms t)).before a st = _
    rw [Jvm.Cond.before_and, ih, List.all_cons]
def words1 : List Jvm.Cond := Jvm.Cond.code x code maxLocals ret :: tables_1
/-- a 'code' word, met by the world's own term for the bytes: nothing is compared byte by byte -/
theorem code_word {y : MethodName} {bytes : ByteArray} {mx : Nat} {rt : Option FieldType} {a : Array Value} {s : State} {m : MethodId} {meth : Method} {c : Code} (h1 : s.methodNamed? y = some m) (h2 : s.vm.method? m = some meth) (h3 : meth.code = some c) (h4 : c.code = bytes)
    (h5 : (c.maxLocals == mx && c.exceptionTable.isEmpty && decide (c.maxStack ≤ mostOperands) && decide (meth.sig.returnType = rt) && !meth.locks && decide (parseMethodDescriptor y.desc = some meth.sig)) = true) : (Jvm.Cond.code y bytes mx rt).before a s = true := by
  simp only [Bool.and_eq_true, beq_iff_eq, Bool.not_eq_true', decide_eq_true_eq] at h5
  obtain ⟨⟨⟨⟨⟨g1, g2⟩, g3⟩, g4⟩, g5⟩, g6⟩ := h5
  simp [Cond.before, Cond.holds, Cond.value, h1, h2, h3, h4, g1, g2, g3, g4, g5, g6]
def isCode : Jvm.Cond → Bool
  | .code _ _ _ _ => true
  | _ => false
theorem all_split {L : List Jvm.Cond} {P : Jvm.Cond → Bool} (h1 : L.all (fun c => isCode c || P c) = true) (h2 : ∀ c ∈ L.filter isCode, P c = true) : L.all P = true := by
  refine List.all_eq_true.mpr fun c hc => ?_
  have h := List.all_eq_true.mp h1 c hc
  rcases Bool.eq_false_or_eq_true (isCode c) with hi | hi
  · exact h2 c (List.mem_filter.mpr ⟨hc, hi⟩)
  · simpa [hi] using h
set_option maxRecDepth 65536 in
theorem w_c0 : (Jvm.Cond.code x code maxLocals ret).before args0 about1 = true := code_word (m := ⟨1, 3⟩) (meth := k1m3) (c := k1c3) (by decide +kernel) rfl rfl rfl (by decide +kernel)
set_option maxRecDepth 65536 in
theorem w_c1 : (Jvm.Cond.code ({ cls := "com/example/bare_container/barecontainer/bench/StartAmongLibrariesPinLaw", name := "startOf", desc := "(I)Lcom/example/bare_container/barecontainer/bench/Workload$Start;" } : Jvm.MethodName) method_2_code (1 : Nat) (Option.some (Jvm.ClassFile.FieldType.object "com/example/bare_container/barecontainer/bench/Workload$Start"))).before args0 about1 = true := code_word (m := ⟨1, 1⟩) (meth := k1m1) (c := k1c1) (by decide +kernel) rfl rfl rfl (by decide +kernel)
set_option maxRecDepth 65536 in
theorem w_c2 : (Jvm.Cond.code ({ cls := "com/example/bare_container/barecontainer/bench/Workload$Start", name := "amongLibraries", desc := "()Z" } : Jvm.MethodName) prog_25_method_5_code (1 : Nat) (Option.some Jvm.ClassFile.FieldType.boolean)).before args0 about1 = true := code_word (m := ⟨6, 1⟩) (meth := k6m1) (c := k6c1) (by decide +kernel) rfl rfl rfl (by decide +kernel)
set_option maxRecDepth 65536 in
theorem w_c3 : (Jvm.Cond.code ({ cls := "com/example/bare_container/barecontainer/bench/StartAmongLibrariesPinLaw", name := "workloadOf", desc := "(I)Lcom/example/bare_container/barecontainer/bench/Workload;" } : Jvm.MethodName) method_3_code (1 : Nat) (Option.some (Jvm.ClassFile.FieldType.object "com/example/bare_container/barecontainer/bench/Workload"))).before args0 about1 = true := code_word (m := ⟨1, 2⟩) (meth := k1m2) (c := k1c2) (by decide +kernel) rfl rfl rfl (by decide +kernel)
set_option maxRecDepth 65536 in
theorem w_c4 : (Jvm.Cond.code ({ cls := "com/example/bare_container/barecontainer/bench/Workload", name := "start", desc := "()Lcom/example/bare_container/barecontainer/bench/Workload$Start;" } : Jvm.MethodName) prog_24_method_7_code (1 : Nat) (Option.some (Jvm.ClassFile.FieldType.object "com/example/bare_container/barecontainer/bench/Workload$Start"))).before args0 about1 = true := code_word (m := ⟨7, 0⟩) (meth := k7m0) (c := k7c0) (by decide +kernel) rfl rfl rfl (by decide +kernel)
set_option maxRecDepth 65536 in
theorem w_c5 : (Jvm.Cond.code ({ cls := "com/example/bare_container/barecontainer/bench/Workload$Start", name := "namesModules", desc := "()Z" } : Jvm.MethodName) prog_25_method_4_code (1 : Nat) (Option.some Jvm.ClassFile.FieldType.boolean)).before args0 about1 = true := code_word (m := ⟨6, 0⟩) (meth := k6m0) (c := k6c0) (by decide +kernel) rfl rfl rfl (by decide +kernel)
def codes1 : List Jvm.Cond := [Jvm.Cond.code x code maxLocals ret, Jvm.Cond.code ({ cls := "com/example/bare_container/barecontainer/bench/StartAmongLibrariesPinLaw", name := "startOf", desc := "(I)Lcom/example/bare_container/barecontainer/bench/Workload$Start;" } : Jvm.MethodName) method_2_code (1 : Nat) (Option.some (Jvm.ClassFile.FieldType.object "com/example/bare_container/barecontainer/bench/Workload$Start")), Jvm.Cond.code ({ cls := "com/example/bare_container/barecontainer/bench/Workload$Start", name := "amongLibraries", desc := "()Z" } : Jvm.MethodName) prog_25_method_5_code (1 : Nat) (Option.some Jvm.ClassFile.FieldType.boolean), Jvm.Cond.code ({ cls := "com/example/bare_container/barecontainer/bench/StartAmongLibrariesPinLaw", name := "workloadOf", desc := "(I)Lcom/example/bare_container/barecontainer/bench/Workload;" } : Jvm.MethodName) method_3_code (1 : Nat) (Option.some (Jvm.ClassFile.FieldType.object "com/example/bare_container/barecontainer/bench/Workload")), Jvm.Cond.code ({ cls := "com/example/bare_container/barecontainer/bench/Workload", name := "start", desc := "()Lcom/example/bare_container/barecontainer/bench/Workload$Start;" } : Jvm.MethodName) prog_24_method_7_code (1 : Nat) (Option.some (Jvm.ClassFile.FieldType.object "com/example/bare_container/barecontainer/bench/Workload$Start")), Jvm.Cond.code ({ cls := "com/example/bare_container/barecontainer/bench/Workload$Start", name := "namesModules", desc := "()Z" } : Jvm.MethodName) prog_25_method_4_code (1 : Nat) (Option.some Jvm.ClassFile.FieldType.boolean)]
set_option maxRecDepth 65536 in
theorem codes_eq : words1.filter isCode = codes1 := rfl
theorem w_codes : ∀ c ∈ words1.filter isCode, c.before args0 about1 = true := by
  rw [codes_eq]
  intro c hc
  simp only [codes1, List.mem_cons, List.not_mem_nil, or_false] at hc
  rcases hc with rfl | rfl | rfl | rfl | rfl | rfl
  · exact w_c0
  · exact w_c1
  · exact w_c2
  · exact w_c3
  · exact w_c4
  · exact w_c5
set_option maxRecDepth 65536 in
theorem w_t1 : (words1.take 24).all (fun c => isCode c || c.before args0 about1) = true := by decide +kernel
set_option maxRecDepth 65536 in
theorem w_t2 : (words1.drop 24).all (fun c => isCode c || c.before args0 about1) = true := by decide +kernel
theorem w_tables : (allAtoms (Jvm.Cond.code x code maxLocals ret :: tables_1)).before args0 about1 = true := by
  rw [allAtoms_all]
  show words1.all (fun c => c.before args0 about1) = true
  refine all_split ?_ w_codes
  rw [← List.take_append_drop 24 words1, List.all_append, w_t1, w_t2]
  rfl
set_option maxRecDepth 65536 in
theorem w_case : (Jvm.Cond.and given_1 narrow_1).before args0 about1 = true := by decide +kernel
theorem w_applies : (headSpec (Jvm.Cond.code x code maxLocals ret :: tables_1) room_1).applies x e0.platform about1 = true :=
  (Spec.applies_iff w_frames).mpr ⟨w_running, w_runnable, w_alone, w_named, w_hears, w_ripe, w_room, w_tables⟩
theorem atStart : AtStart classFile x code maxLocals ret World_1 tables_1 room_1 Calls_1 rest_1 Pre_1 launch0 p0 e0 about1 theMethod args0 below0 :=
  ⟨lists_1, trivial, launch0.admits_env _ _ _, launch0.least_env, fairChoices_fair.cas, fairChoices_fair.clock, w_frames, w_args, w_heap, w_applies, trivial, trivial, w_case⟩
end start1
theorem witness_1 : WitnessClaimed_1 := ⟨start1.p0, start1.e0, start1.about1, start1.theMethod, start1.args0, start1.below0, start1.atStart⟩
end Jvm.Pilot.@@N@@
