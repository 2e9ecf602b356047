import JvmDerived
import JvmDerived.Pilot.@@N@@Statement
import JvmDerived.Pilot.@@N@@Code
set_option linter.unusedVariables false
set_option linter.unusedSimpArgs false
@@BLOCK:NumsL.lean.txt@@
namespace Jvm.Pilot.@@N@@
open Jvm Jvm.ClassFile Sem Op Lib Jvm.Free Jvm.Stand Jvm.LawKit Jvm.RoadKit Bundle Jvm.Pilot.@@N@@.Jvm.D
theorem own_w {ws : List Jvm.Cond} {a0 : Array Value} {Z : State} (hw : ∀ d ∈ ws, d.before a0 Z = true) (i : Nat) {d : Jvm.Cond} (h : ws[i]? = some d) : d.before a0 Z = true := hw d (List.mem_of_getElem? h)
/-! the run from a frame comes to an end of which A holds: one walk a body, branches by cases -/
def own_Go (tb : Tables) (e : Env) (below : List Frame) (A : State → Prop) (T : State) (g : JFrame) : Prop := ∃ t, Steps tb e below (T.setTop g) t ∧ A t
theorem own_st {tb : Tables} {e : Env} {below : List Frame} {A : State → Prop} {T T1 : State} {g g1 : JFrame} (k : ∀ t, Steps tb e below (T1.setTop g1) t → Steps tb e below (T.setTop g) t) (h : own_Go tb e below A T1 g1) : own_Go tb e below A T g := by
  obtain ⟨t, a, b⟩ := h
  exact ⟨t, k t a, b⟩
def own_End (s : State) (below : List Frame) (Q : Option Value → Heap → List Loc → Prop) (k n : Nat) (t : State) : Prop := ∃ o, t.status = .running ∧ Ended t below o ∧ ∃ v L, o = .returned v ∧ Q v t.heap L ∧ FrameEnd s o t L k n
theorem own_open {tb : Tables} {e : Env} {below : List Frame} {s₁ s : State} {g g' : JFrame} {Q : Option Value → Heap → List Loc → Prop} {k n : Nat} (hg : g = g') (h : own_Go tb e below (own_End s below Q k n) s₁ g') : ∃ s₂ o, Steps tb e below (s₁.setTop g) s₂ ∧ s₂.status = .running ∧ Ended s₂ below o ∧ ∃ v L, o = .returned v ∧ Q v s₂.heap L ∧ FrameEnd s o s₂ L k n := by
  subst hg
  obtain ⟨t, a, o, b, c, d⟩ := h
  exact ⟨t, o, a, b, c, d⟩
theorem own_nar {t : FieldType} {w : Value} (hw : w.isRef = true) : narrow t w = w := by cases w <;> first | (cases t <;> rfl) | simp [Value.isRef] at hw
section OwnEnds
variable {p : Program} {l : Launch} {e : Env} {R : Room} {s : State} {m : MethodId} {args : Array Value} {below : List Frame} {meth : Method} {c : Code} {T : State} {locs : List Loc} {cells slots : Nat} {Q : Option Value → Heap → List Loc → Prop} {k n : Nat} {h : Heap}
theorem own_end (X : Stand p l e R s m args below meth c T locs cells slots) (hlk : meth.locks = false) (v : Option Value) (hv : meth.sig.returnType = none → v = none) (hk : cells ≤ k) (hn : slots ≤ n) (eT : T.heap = h) (hq : Q v h locs) {g : JFrame}
    (hs : ∀ fs, (∀ (f : JFrame) (acts : List Action), f.method = m → f.locked = none → f.entered = [] → (doReturn e (T.setTop f) acts v).1 = T.setFrames fs) → Steps p.tables e below (T.setTop g) (T.setFrames fs)) : own_Go p.tables e below (own_End s below Q k n) T g := by
  obtain ⟨fs, hr, hrun, hended, hW, hsame⟩ := X.leave (v := v) hv
  exact ⟨_, hs fs hr, _, hrun, hended, v, locs, rfl, (by show Q v T.heap locs; rw [eT]; exact hq), ⟨_, rfl⟩, hW, hsame.mono hk hn⟩
theorem own_retZ (X : Stand p l e R s m args below meth c T locs cells slots) (hx : p.tables.exec = Jvm.exec) (hlk : meth.locks = false) {pc : Nat} {Ls : Array Slot} {z : Int32} {rest : List Value} {t : FieldType} (hret : meth.sig.returnType = some t) (ht : t = .boolean ∨ t = .byte ∨ t = .char ∨ t = .short) (hd : decode c.code pc = .ok (.ireturn, 1)) (hk : cells ≤ k) (hn : slots ≤ n) (eT : T.heap = h) (hq : Q (some (.int (nar t z))) h locs) :
    own_Go p.tables e below (own_End s below Q k n) T (mkF m pc Ls (.int z :: rest)) :=
  own_end X hlk _ (fun q => by rw [hret] at q; cases q) hk hn eT hq (fun fs hr => retN X hx hret ht hd hr)
theorem own_retI (X : Stand p l e R s m args below meth c T locs cells slots) (hx : p.tables.exec = Jvm.exec) (hlk : meth.locks = false) {pc : Nat} {Ls : Array Slot} {z : Int32} {rest : List Value} (hret : meth.sig.returnType = some .int) (hd : decode c.code pc = .ok (.ireturn, 1)) (hk : cells ≤ k) (hn : slots ≤ n) (eT : T.heap = h) (hq : Q (some (.int z)) h locs) :
    own_Go p.tables e below (own_End s below Q k n) T (mkF m pc Ls (.int z :: rest)) :=
  own_end X hlk _ (fun q => by rw [hret] at q; cases q) hk hn eT hq (fun fs hr => retOut X hx hret rfl (Or.inl ⟨rfl, Or.inl rfl, z, rfl⟩) hd hr)
theorem own_retJ (X : Stand p l e R s m args below meth c T locs cells slots) (hx : p.tables.exec = Jvm.exec) (hlk : meth.locks = false) {pc : Nat} {Ls : Array Slot} {z : Int64} {rest : List Value} (hret : meth.sig.returnType = some .long) (hd : decode c.code pc = .ok (.lreturn, 1)) (hk : cells ≤ k) (hn : slots ≤ n) (eT : T.heap = h) (hq : Q (some (.long z)) h locs) :
    own_Go p.tables e below (own_End s below Q k n) T (mkF m pc Ls (.long z :: rest)) :=
  own_end X hlk _ (fun q => by rw [hret] at q; cases q) hk hn eT hq (fun fs hr => retOut X hx hret rfl (Or.inr (Or.inl ⟨rfl, rfl, z, rfl⟩)) hd hr)
theorem own_retA (X : Stand p l e R s m args below meth c T locs cells slots) (hx : p.tables.exec = Jvm.exec) (hlk : meth.locks = false) {pc : Nat} {Ls : Array Slot} {w : Value} {rest : List Value} {t : FieldType} (hret : meth.sig.returnType = some t) (ht : t.isReference = true) (hw : w.isRef = true) (hd : decode c.code pc = .ok (.areturn, 1)) (hk : cells ≤ k) (hn : slots ≤ n) (eT : T.heap = h) (hq : Q (some w) h locs) :
    own_Go p.tables e below (own_End s below Q k n) T (mkF m pc Ls (w :: rest)) :=
  own_end X hlk _ (fun q => by rw [hret] at q; cases q) hk hn eT hq (fun fs hr => retOut X hx hret (own_nar hw) (Or.inr (Or.inr (Or.inr (Or.inr ⟨rfl, ht, hw⟩)))) hd hr)
theorem own_retV (X : Stand p l e R s m args below meth c T locs cells slots) (hx : p.tables.exec = Jvm.exec) (hlk : meth.locks = false) {pc : Nat} {Ls : Array Slot} (hret : meth.sig.returnType = none) (hd : decode c.code pc = .ok (.return_, 1)) (hk : cells ≤ k) (hn : slots ≤ n) (eT : T.heap = h) (hq : Q none h locs) :
    own_Go p.tables e below (own_End s below Q k n) T (mkF m pc Ls []) :=
  own_end X hlk _ (fun _ => rfl) hk hn eT hq (fun fs hr => X.returnOut hx hret hd hr)
end OwnEnds
section OwnWords
variable {args : Array Value} {first s : State} {o : Option Outcome} {idx : List Nat} {a b : Jvm.Term}
theorem own_eqI {k : Int32} (h : (Jvm.Cond.eq a b).value args first o s idx = some true) (hb : b.eval args first o idx s = some (.int k)) : a.eval args first o idx s = some (.int k) := by
  cases ha : a.eval args first o idx s with
  | none => simp [Cond.value, ha] at h
  | some x => cases x <;> simp [Cond.value, ha, hb] at h ⊢; exact h
theorem own_eqR {y : Addr} (h : (Jvm.Cond.eq a b).value args first o s idx = some true) (hb : b.eval args first o idx s = some (.ref y)) : a.eval args first o idx s = some (.ref y) := by
  cases ha : a.eval args first o idx s with
  | none => simp [Cond.value, ha] at h
  | some x => cases x <;> simp [Cond.value, ha, hb] at h ⊢; exact h
end OwnWords
theorem own_nei {i j : Int32} (h : i ≠ j) : Value.int i ≠ Value.int j := fun q => h (Value.int.inj q)
theorem own_plE {Z : State} {h : Heap} {a : Addr} {C : String} (F : Exa Z h a C) : ∃ c : Cell, h[a]? = some c ∧ c.vm.isStatics = false := by
  obtain ⟨c, -, h1, -, -, h2, -⟩ := F
  exact ⟨c, h1, h2⟩
theorem own_plV {Z : State} {h : Heap} {a : Addr} {k : ClassId} {ty : FieldType} {n : Int32} {vs : List Value} {d : Value} (F : Arv Z h a k ty n vs d) : ∃ c : Cell, h[a]? = some c ∧ c.vm.isStatics = false := by
  obtain ⟨c, A, -⟩ := F
  exact ⟨c, A.1, A.plain⟩
theorem own_stak {Z : State} {h h' : Heap} {C n d : String} {v : Value} {ws : List Addr} (F : Sta Z h C n d v) (K : Keep h h' ws) (q : ∀ x ∈ ws, ∃ c : Cell, h[x]? = some c ∧ c.vm.isStatics = false) : Sta Z h' C n d v := by
  obtain ⟨cf, i, k, f, st, cell, h1, h2, h3, h4, h5, h6, h7⟩ := F
  refine ⟨cf, i, k, f, st, cell, h1, h2, h3, h4, K.2.1 _ _ h5 (fun m => ?_), h6, h7⟩
  obtain ⟨c, e1, e2⟩ := q _ m
  cases h5.symm.trans e1
  rw [h6] at e2; cases e2
theorem own_nev {Z : State} {h : Heap} {a b : Addr} {C : String} {k : ClassId} {ty : FieldType} {n : Int32} {vs : List Value} {d : Value} {a0 : Array Value} {kk : Nat} (F : Exa Z h a C) (wi : (Jvm.Cond.instantiable C kk).before a0 Z = true) (G : Arv Z h b k ty n vs d) : a ≠ b := by
  obtain ⟨c, A, -⟩ := G
  exact ne_arr F wi A
section OwnArrays
variable {p : Program} {l : Launch} {e : Env} {R : Room} {s : State} {m : MethodId} {args : Array Value} {below : List Frame} {meth : Method} {c : Code} {T : State} {locs : List Loc} {cells slots : Nat} {Z : State} {h : Heap} {a : Addr} {k : ClassId} {ty : FieldType} {n j : Int32} {vs : List Value} {d v : Value} {rest : List Value}
theorem own_aaload (X : Stand p l e R s m args below meth c T locs cells slots) (hx : p.tables.exec = Jvm.exec) (hZ : Z.Warmed39 s.vm) (eT : T.heap = h) (F : Arv Z h a k ty n vs d) (hty : ty.isReference = true) (hj : ¬ j < 0 ∧ j < n) (hv : vs.getD j.toNatClampNeg d = v) {g : JFrame} (hg : g.method = m) (hs : g.stack = .int j :: .ref a :: rest) (hd : decode c.code g.pc = .ok (.aaload, 1)) :
    ∀ target, Steps p.tables e below (T.setTop { g with pc := g.pc + 1, stack := v :: rest }) target → Steps p.tables e below (T.setTop g) target := by
  obtain ⟨cl, A, -, S, -, H, -⟩ := F
  exact X.aaload hx (by rw [eT]; exact A.1) (State.isArrayOf_alike hZ.alike A.2.1) hty A.2.2 (inb_of S hj) (H.at (inb_of S hj) hv) hg hs hd
theorem own_iaload (X : Stand p l e R s m args below meth c T locs cells slots) (hx : p.tables.exec = Jvm.exec) (hZ : Z.Warmed39 s.vm) (eT : T.heap = h) (F : Arv Z h a k .int n vs d) (hj : ¬ j < 0 ∧ j < n) (hv : vs.getD j.toNatClampNeg d = v) {g : JFrame} (hg : g.method = m) (hs : g.stack = .int j :: .ref a :: rest) (hd : decode c.code g.pc = .ok (.iaload, 1)) :
    ∀ target, Steps p.tables e below (T.setTop { g with pc := g.pc + 1, stack := v :: rest }) target → Steps p.tables e below (T.setTop g) target := by
  obtain ⟨cl, A, -, S, -, H, -⟩ := F
  exact X.iaload hx (by rw [eT]; exact A.1) (State.isArrayOf_alike hZ.alike A.2.1) A.2.2 (inb_of S hj) (H.at (inb_of S hj) hv) hg hs hd
theorem own_laload (X : Stand p l e R s m args below meth c T locs cells slots) (hx : p.tables.exec = Jvm.exec) (hZ : Z.Warmed39 s.vm) (eT : T.heap = h) (F : Arv Z h a k .long n vs d) (hj : ¬ j < 0 ∧ j < n) (hv : vs.getD j.toNatClampNeg d = v) {g : JFrame} (hg : g.method = m) (hs : g.stack = .int j :: .ref a :: rest) (hd : decode c.code g.pc = .ok (.laload, 1)) :
    ∀ target, Steps p.tables e below (T.setTop { g with pc := g.pc + 1, stack := v :: rest }) target → Steps p.tables e below (T.setTop g) target := by
  obtain ⟨cl, A, -, S, -, H, -⟩ := F
  exact X.laload hx (by rw [eT]; exact A.1) (State.isArrayOf_alike hZ.alike A.2.1) A.2.2 (inb_of S hj) (H.at (inb_of S hj) hv) hg hs hd
theorem own_baloadB (X : Stand p l e R s m args below meth c T locs cells slots) (hx : p.tables.exec = Jvm.exec) (hZ : Z.Warmed39 s.vm) (eT : T.heap = h) (F : Arv Z h a k .byte n vs d) (hj : ¬ j < 0 ∧ j < n) (hv : vs.getD j.toNatClampNeg d = v) {g : JFrame} (hg : g.method = m) (hs : g.stack = .int j :: .ref a :: rest) (hd : decode c.code g.pc = .ok (.baload, 1)) :
    ∀ target, Steps p.tables e below (T.setTop { g with pc := g.pc + 1, stack := v :: rest }) target → Steps p.tables e below (T.setTop g) target := by
  obtain ⟨cl, A, -, S, -, H, -⟩ := F
  exact X.baloadBytes hx (by rw [eT]; exact A.1) (State.isArrayOf_alike hZ.alike A.2.1) A.2.2 (inb_of S hj) (H.at (inb_of S hj) hv) hg hs hd
theorem own_baloadZ (X : Stand p l e R s m args below meth c T locs cells slots) (hx : p.tables.exec = Jvm.exec) (hZ : Z.Warmed39 s.vm) (eT : T.heap = h) (F : Arv Z h a k .boolean n vs d) (hj : ¬ j < 0 ∧ j < n) (hv : vs.getD j.toNatClampNeg d = v) {g : JFrame} (hg : g.method = m) (hs : g.stack = .int j :: .ref a :: rest) (hd : decode c.code g.pc = .ok (.baload, 1)) :
    ∀ target, Steps p.tables e below (T.setTop { g with pc := g.pc + 1, stack := v :: rest }) target → Steps p.tables e below (T.setTop g) target := by
  obtain ⟨cl, A, -, S, -, H, -⟩ := F
  exact X.baloadBooleans hx (by rw [eT]; exact A.1) (State.isArrayOf_alike hZ.alike A.2.1) A.2.2 (inb_of S hj) (H.at (inb_of S hj) hv) hg hs hd
theorem own_alen (X : Stand p l e R s m args below meth c T locs cells slots) (hx : p.tables.exec = Jvm.exec) (hZ : Z.Warmed39 s.vm) (eT : T.heap = h) (F : Arv Z h a k ty n vs d) {g : JFrame} (hg : g.method = m) (hs : g.stack = .ref a :: rest) (hd : decode c.code g.pc = .ok (.arraylength, 1)) :
    ∀ target, Steps p.tables e below (T.setTop { g with pc := g.pc + 1, stack := .int n :: rest }) target → Steps p.tables e below (T.setTop g) target := by
  obtain ⟨cl, A, -, S, N, -, -⟩ := F
  have q := X.arraylength hx (by rw [eT]; exact A.1) (State.isArrayOf_alike hZ.alike A.2.1) hg hs hd
  rw [len_of S N] at q
  exact q
end OwnArrays
theorem own_psel {Z s : State} {a0 args : Array Value} {y : MethodName} {n : Nat} (hZ : Z.Warmed39 s.vm) (wi : (Jvm.Cond.instantiable y.cls n).before a0 Z = true) (wp : (Jvm.Cond.privateMethod y).before a0 Z = true) (wm : (Jvm.Cond.instanceMethod y).before a0 Z = true) (hy : y.cls ≠ "java/lang/invoke/MethodHandle" ∧ y.cls ≠ "java/lang/invoke/VarHandle") : (Jvm.Cond.selects y.cls y y).before args s = true := by
  have wi' : (Jvm.Cond.instantiable y.cls n).before args s = true := mvT hZ wi
  obtain ⟨c2, k2, i1, i2, -, i4, -⟩ := Cond.instantiable_spec wi'
  simp only [Bool.or_eq_false_iff] at i4
  exact selects_self_of_private i1 i2 i4.1 (Cond.privateMethod_at (mvP hZ wp (args := args))) (mvT hZ wm) hy
section OwnMore
variable {args : Array Value} {s : State} {t u : Jvm.Term} {x y : Addr} {cl : Cell} {ty : FieldType} {n j : Int32}
theorem own_len (h : (Jvm.Cond.eq (Jvm.Term.length t) (Jvm.Term.int n)).value args s none s [] = some true) (ht : t.eval args s none [] s = some (.ref x)) (A : Jvm.RoadKit.Arr s s.heap x cl ty) : cl.slots.size < 2 ^ 31 ∧ cl.slots.size.toInt32 = n := by
  have e := own_eqI h (Term.int_eval _)
  have ha : s.arrayAt? x = some cl := A.fin (Vm.Alike.refl _)
  by_cases hl : cl.slots.size < 2 ^ 31
  · refine ⟨hl, ?_⟩
    rw [len_f ht ha hl] at e
    exact Value.int.inj (Option.some.inj e)
  · simp [Term.eval, ht, ha, hl] at e
theorem own_elem (h : (Jvm.Cond.eq (Jvm.Term.elem t (Jvm.Term.int j)) u).value args s none s [] = some true) (hu : u.eval args s none [] s = some (.ref y)) (ht : t.eval args s none [] s = some (.ref x)) (A : Jvm.RoadKit.Arr s s.heap x cl ty) : cl.slots[j.toNatClampNeg]? = some (.ref y) :=
  (elem_in (own_eqR h hu) ht (Term.int_eval _) A.1).2
end OwnMore
theorem own_sto {Z : State} {h : Heap} {a y : Addr} {k : ClassId} {ty : FieldType} {n : Int32} {vs : List Value} {d : Value} {C : String} (F : Arv Z h a k ty n vs d) (O : Ovr Z k C) (I : Ins Z h y C true) : Sto Z h a (.ref y) := by
  obtain ⟨c, A, q, -⟩ := F
  exact Sto.ofV A q O I
theorem own_cp0 {p : Program} {l : Launch} {e : Env} {R : Room} {s : State} {m : MethodId} {args : Array Value} {below : List Frame} {meth : Method} {c : Code} {T : State} {locs : List Loc} {cells slots : Nat} {Z : State} {h : Heap} {a b : Addr} {k k' : ClassId} {ty ty' : FieldType} {z z' : Int32} {vs vd : List Value} {dv dd : Value}
    (X : Stand p l e R s m args below meth c T locs cells slots) (hx : p.tables.exec = Jvm.exec) (hZ : Z.Warmed39 s.vm) {a0 : Array Value} {own : String} {index : Nat} (hown : s.vm.findClass own = some m.cls)
    (w1 : (Jvm.Cond.methodLink own index Jvm.Stand.acN).before a0 Z = true) (w2 : (Jvm.Cond.native Jvm.Stand.acN).before a0 Z = true) (w3 : (Jvm.Cond.static Jvm.Stand.acN).before a0 Z = true) (w4 : (Jvm.Cond.initialized "java/lang/System").before a0 Z = true) (eT : T.heap = h)
    {sp dp nn : Int32} (A : Arv Z h a k ty z vs dv) (B : Arv Z h b k' ty' z' vd dd) (h0 : nn = 0) (hty : (ty = ty' ∧ refKind ty = false) ∨ (refKind ty = true ∧ refKind ty' = true))
    (h1 : ¬ sp < 0) (h2 : ¬ dp < 0) (h4 : sp.toNatClampNeg ≤ z.toNatClampNeg) (h5 : dp.toNatClampNeg ≤ z'.toNatClampNeg)
    {g : JFrame} (hg : g.method = m) (hsize : g.locals.size = c.maxLocals) {rest : List Value} (hs : g.stack = .int nn :: .int dp :: .ref b :: .int sp :: .ref a :: rest) (hd : decode c.code g.pc = .ok (.invokestatic index, 3))
    (hf : 1 ≤ R.frames) {W : Nat} (hW : 2 * g.monitorRoom + (rest.map fun v => v.category).sum ≤ W) (hlo : W + (nativeFrameWords "java/lang/System" "arraycopy" 5 + 11) ≤ R.locals) :
    ∃ T', Stand p l e R s m args below meth c T' locs cells slots ∧ T'.heap = h ∧ ∀ target, Steps p.tables e below (T'.setTop { g with pc := g.pc + 3, stack := rest }) target → Steps p.tables e below (T.setTop g) target := by
  subst h0
  obtain ⟨cs, As, -, Ss, -, Hs, Gs⟩ := A
  obtain ⟨cd, Ad, qd, Sd, Nd, Hd, Gd⟩ := B
  obtain ⟨os, ks, hks, sc, hsk⟩ := State.isArrayOf_alike hZ.alike As.2.1
  obtain ⟨od, kd, hkd, dc, hdk⟩ := State.isArrayOf_alike hZ.alike Ad.2.1
  have nat : ∀ {x : Int32}, ¬ x < 0 → x.toInt = x.toNatClampNeg := fun {x} q => by
    rw [Int32.lt_iff_toInt_lt] at q; have : (0 : Int32).toInt = 0 := rfl
    simp only [Int32.toNatClampNeg]; omega
  have z0 : (0 : Int32).toInt = 0 := rfl
  obtain ⟨vm₁, hW₁, X', st⟩ := X.arraycopyK (srcPos := sp) (destPos := dp) (n := 0) hx hown (mvT hZ w1) (mvT hZ w2) (mvT hZ w3) (mvT hZ w4) (by rw [eT]; exact As.1) (by rw [eT]; exact Ad.1) os od As.2.2 Ad.2.2 hks hkd hsk hdk
    (by rcases hty with ⟨rfl, r⟩ | ⟨r1, r2⟩; simp [r]; simp [r1, r2]) h1 h2 (by decide) (by rw [nat h1, z0, Ss]; omega) (by rw [nat h2, z0, Sd]; omega) (fun vm₁ hw i hi => absurd hi (Nat.not_lt_zero i)) hg hsize hs hd hf (by omega)
  have ec : copied cs cd sp dp 0 = cd := rfl
  have el : locs ++ copyLocs b dp.toNatClampNeg (0 : Int32).toNatClampNeg = locs := List.append_nil _
  rw [ec] at X' st
  rw [el] at X'
  refine ⟨_, X', ?_, st⟩
  show T.heap.setIfInBounds b cd = h
  rw [eT]
  have hb : b < h.size := Ad.lt
  have hg2 := Ad.1
  apply Array.ext_getElem?
  intro i
  by_cases hi : b = i
  · subst hi; rw [Array.getElem?_setIfInBounds_self_of_lt hb, hg2]
  · rw [Array.getElem?_setIfInBounds_ne hi]
theorem own_nb (x : Int32) : nar .byte (x.toInt8.toInt32) = x.toInt8.toInt32 := by simp [nar]
theorem own_clone {p : Program} {l : Launch} {e : Env} {R : Room} {s : State} {m : MethodId} {args : Array Value} {below : List Frame} {meth : Method} {c : Code} {T : State} {locs : List Loc} {cells slots : Nat} {Z : State} {h : Heap} {a : Addr} {ty : FieldType}
    (X : Stand p l e R s m args below meth c T locs cells slots) (hx : p.tables.exec = Jvm.exec) (hZ : Z.Warmed39 s.vm) {a0 : Array Value} {own ad : String} {index : Nat} (hown : s.vm.findClass own = some m.cls)
    (w1 : (Jvm.Cond.methodLink own index ⟨ad, "clone", "()Ljava/lang/Object;"⟩).before a0 Z = true) (w2 : (Jvm.Cond.sameMethod ad "java/lang/Object" "clone" "()Ljava/lang/Object;").before a0 Z = true) (w3 : (Jvm.Cond.native ⟨"java/lang/Object", "clone", "()Ljava/lang/Object;"⟩).before a0 Z = true)
    (w4 : (Jvm.Cond.instanceMethod ⟨"java/lang/Object", "clone", "()Ljava/lang/Object;"⟩).before a0 Z = true) (w5 : (Jvm.Cond.selects ad ⟨ad, "clone", "()Ljava/lang/Object;"⟩ ⟨"java/lang/Object", "clone", "()Ljava/lang/Object;"⟩).before a0 Z = true) (w6 : (Jvm.Cond.castable ad "java/lang/Cloneable").before a0 Z = true)
    (eT : T.heap = h) {k : ClassId} {z : Int32} {vs : List Value} {dv : Value} (F : Arv Z h a k ty z vs dv) (E : Exa Z h a ad) {g : JFrame} (hg : g.method = m) (hsize : g.locals.size = c.maxLocals) {rest : List Value} (hst : g.stack = .ref a :: rest) (hd : decode c.code g.pc = .ok (.invokevirtual index, 3))
    (hf : 1 ≤ R.frames) {W cap : Nat} (hW : 2 * g.monitorRoom + (rest.map fun v => v.category).sum ≤ W) (hl : W + 14 ≤ R.locals) (hcap : z.toNatClampNeg ≤ cap) (hc : cells + 1 ≤ R.cells) (hsl : slots + cap ≤ R.slots) :
    ∃ T' h', Stand p l e R s m args below meth c T' locs (cells + 1) (slots + cap) ∧ T'.heap = h' ∧ Ext h h' ∧ Arv Z h' h.size k ty z vs dv ∧ Exa Z h' h.size ad ∧
      ∀ target, Steps p.tables e below (T'.setTop { g with pc := g.pc + 3, stack := .ref h.size :: rest }) target → Steps p.tables e below (T.setTop g) target := by
  obtain ⟨cl, A, q1, S, q3, H, G⟩ := F
  have FC : FitC Z cl := fitC_of A fun i hi v hv => by rw [H i hi] at hv; cases hv; exact G i hi
  obtain ⟨T', h', X', e', ex, A', E', st⟩ := cloneA X hx hZ hown w1 w2 w3 w4 w5 w6 eT A E FC hg hsize hst hd hf hW hl (by rw [S]; exact hcap) hc hsl
  exact ⟨T', h', X', e', ex, ⟨cloneOf cl, A', q1, S, q3, H, G⟩, E', st⟩
theorem own_rem0 (x : Int32) : (x &&& (2147483647 : Int32)) % (3 : Int32) = (0 : Int32) ∨ (x &&& (2147483647 : Int32)) % (3 : Int32) = (1 : Int32) ∨ (x &&& (2147483647 : Int32)) % (3 : Int32) = (2 : Int32) := by
  have e1 : (x &&& (2147483647 : Int32)).toInt = x.toInt % 2 ^ 31 := Jvm.Kit.i32_mask x 2147483647 (k := 31) (by decide) (by decide)
  have e2 : ((x &&& (2147483647 : Int32)) % (3 : Int32)).toInt = (x &&& (2147483647 : Int32)).toInt % (3 : Int32).toInt := Jvm.Kit.i32_rem_nonneg (by omega)
  have e3 : (3 : Int32).toInt = 3 := rfl
  rw [e3] at e2
  have z0 : (0 : Int32).toInt = 0 := rfl
  have z1 : (1 : Int32).toInt = 1 := rfl
  have z2 : (2 : Int32).toInt = 2 := rfl
  simp only [← Int32.toInt_inj]
  omega
theorem own_d1_0 : decode method_2_code 0 = .ok (.iload_n 0, 1) := by decide +kernel
theorem own_d1_1 : decode method_2_code 1 = .ok (.ifCond .ne 7, 3) := by decide +kernel
theorem own_d1_4 : decode method_2_code 4 = .ok (.getstatic 7, 3) := by decide +kernel
theorem own_d1_7 : decode method_2_code 7 = .ok (.areturn, 1) := by decide +kernel
theorem own_d1_8 : decode method_2_code 8 = .ok (.iload_n 0, 1) := by decide +kernel
theorem own_d1_9 : decode method_2_code 9 = .ok (.iconst 1, 1) := by decide +kernel
theorem own_d1_10 : decode method_2_code 10 = .ok (.if_icmp .ne 7, 3) := by decide +kernel
theorem own_d1_13 : decode method_2_code 13 = .ok (.getstatic 13, 3) := by decide +kernel
theorem own_d1_16 : decode method_2_code 16 = .ok (.areturn, 1) := by decide +kernel
theorem own_d1_17 : decode method_2_code 17 = .ok (.getstatic 16, 3) := by decide +kernel
theorem own_d1_20 : decode method_2_code 20 = .ok (.areturn, 1) := by decide +kernel
theorem own_ef1 (m : MethodId) (x0 : Int32) : entryFrame m #[(.int x0)] 1 = mkF m 0 #[.val (.int x0)] [] := by first | (simp [entryFrame, mkF, argsToLocals, Value.category]; done) | rfl
theorem own_pn0 : plainName "com/example/bare_container/barecontainer/bench/StartNamesModulesPinLaw" = true := by first | (simp [plainName, overriddenIn]; done) | decide +kernel
def own_Q1 (ip0 : Int32) (w_NAMED : Addr) (w_SCANNED : Addr) (w_SCANNED_AMONG_LIBRARIES : Addr) (h0 : Heap) (n0 : Nat) (v : Option Value) (h : Heap) (L : List Loc) : Prop := Fr n0 L ∧ h = h0 ∧ ((v = some (.ref w_NAMED) ∧ (ip0 = (0 : Int32)) ∧ True) ∨ (v = some (.ref w_SCANNED) ∧ (¬ (ip0 = (0 : Int32))) ∧ (ip0 = (1 : Int32)) ∧ True) ∨ (v = some (.ref w_SCANNED_AMONG_LIBRARIES) ∧ (¬ (ip0 = (0 : Int32))) ∧ (¬ (ip0 = (1 : Int32))) ∧ True))
set_option maxRecDepth 65536 in
set_option maxHeartbeats 40000000 in
theorem own_rm1 (l : Launch) (Z : State) (a0 : Array Value) (hw : ∀ d ∈ tables_1, d.before a0 Z = true) (ws : List Jvm.Cond) (ip0 : Int32) (w_NAMED : Addr) (w_SCANNED : Addr) (w_SCANNED_AMONG_LIBRARIES : Addr) (h0 : Heap) (n0 : Nat) (Z0 : n0 ≤ h0.size) (S_NAMED : Sta Z h0 "com/example/bare_container/barecontainer/bench/Workload$Start" "NAMED" "Lcom/example/bare_container/barecontainer/bench/Workload$Start;" (.ref w_NAMED)) (S_SCANNED : Sta Z h0 "com/example/bare_container/barecontainer/bench/Workload$Start" "SCANNED" "Lcom/example/bare_container/barecontainer/bench/Workload$Start;" (.ref w_SCANNED)) (S_SCANNED_AMONG_LIBRARIES : Sta Z h0 "com/example/bare_container/barecontainer/bench/Workload$Start" "SCANNED_AMONG_LIBRARIES" "Lcom/example/bare_container/barecontainer/bench/Workload$Start;" (.ref w_SCANNED_AMONG_LIBRARIES)) :
    MetFree l (⟨"com/example/bare_container/barecontainer/bench/StartNamesModulesPinLaw", "pick", "(I)Lcom/example/bare_container/barecontainer/bench/Workload$Start;"⟩ : MethodName) (head1 (Jvm.Cond.code (⟨"com/example/bare_container/barecontainer/bench/StartNamesModulesPinLaw", "pick", "(I)Lcom/example/bare_container/barecontainer/bench/Workload$Start;"⟩ : MethodName) method_2_code 1 (some (.object "com/example/bare_container/barecontainer/bench/Workload$Start")) :: ws) ({ frames := 0, cells := 0, slots := 0, locals := 0 } : Room)) (fun a U => a = #[(.int ip0)] ∧ Z.Warmed39 U.vm ∧ U.heap = h0) (fun _ _ _ _ _ => True) (fun _ U o U' => ∃ v L, o = .returned v ∧ own_Q1 ip0 w_NAMED w_SCANNED w_SCANNED_AMONG_LIBRARIES h0 n0 v U'.heap L ∧ FrameEnd U o U' L ({ frames := 0, cells := 0, slots := 0, locals := 0 } : Room).cells ({ frames := 0, cells := 0, slots := 0, locals := 0 } : Room).slots) := by
  refine MetFree.of_bodySF (plainFor_of_name own_pn0) hisR ?_
  intro p e s m args below meth c s₁ Bd hml0 hP hK
  obtain ⟨rfl, hZ, hh⟩ := hP
  have hx := Bd.exec
  have hlk := Bd.notSynchronized
  have hret := Bd.returns
  have hby := Bd.bytes
  have hml : c.maxLocals = 1 := hml0
  have hown : s.vm.findClass "com/example/bare_container/barecontainer/bench/StartNamesModulesPinLaw" = some m.cls := findClass_of_methodNamed Bd.named
  have hnm := (name_of_methodNamed Bd.named Bd.method).1
  have X0 : Stand p l e ({ frames := 0, cells := 0, slots := 0, locals := 0 } : Room) s m #[(.int ip0)] below meth c s₁ [] 0 0 := Stand.of_body Bd
  have e0 : s₁.heap = h0 := by rw [← hh, Bd.state]; rfl
  have N0 := Fr.nil n0
  refine own_open (Q := own_Q1 ip0 w_NAMED w_SCANNED w_SCANNED_AMONG_LIBRARIES h0 n0) (own_ef1 m ip0) ?_
  show own_Go _ _ _ _ s₁ (mkF m 0 #[.val (.int ip0)] [])
  refine own_st (fun t k => XS.iloadN X0.here hx rfl (hb hby own_d1_0) rfl k) ?_
  show own_Go _ _ _ _ s₁ (mkF m 1 #[.val (.int ip0)] [(.int ip0)])
  by_cases hc1 : ip0 = (0 : Int32)
  · skip
    refine own_st (fun t k => XS.ifNo X0.here hx rfl (hb hby own_d1_1) rfl ((if0 _ _).trans (teq hc1).2) k) ?_
    show own_Go _ _ _ _ s₁ (mkF m 4 #[.val (.int ip0)] [])
    obtain ⟨T2, X2, e2, st2⟩ := getS2 X0 hx hZ hown (host := "") (Or.inl (own_w hw 5 rfl)) Via.refl e0 S_NAMED (g := (mkF m 4 #[.val (.int ip0)] [])) rfl (hb hby own_d1_4)
    refine own_st st2 ?_
    show own_Go _ _ _ _ T2 (mkF m 7 #[.val (.int ip0)] [(.ref w_NAMED)])
    exact own_retA X2 hx hlk hret rfl rfl (hb hby own_d1_7) (by decide) (by decide) e2 ⟨N0, rfl, (Or.inl ⟨rfl, hc1, trivial⟩)⟩
  · skip
    refine own_st (fun t k => XS.ifYes X0.here hx rfl (pc0 := 1) (pc' := 8) rfl (hb hby own_d1_1) rfl ((if0 _ _).trans (feq hc1).2) (by decide) (by decide) k) ?_
    show own_Go _ _ _ _ s₁ (mkF m 8 #[.val (.int ip0)] [])
    refine own_st (fun t k => XS.iloadN X0.here hx rfl (hb hby own_d1_8) rfl k) ?_
    show own_Go _ _ _ _ s₁ (mkF m 9 #[.val (.int ip0)] [(.int ip0)])
    refine own_st (fun t k => XS.iconst X0.here hx rfl (hb hby own_d1_9) k) ?_
    show own_Go _ _ _ _ s₁ (mkF m 10 #[.val (.int ip0)] [(.int (1 : Int32)), (.int ip0)])
    by_cases hc3 : ip0 = (1 : Int32)
    · skip
      refine own_st (fun t k => XS.icmpNo X0.here hx rfl (hb hby own_d1_10) rfl (teq hc3).2 k) ?_
      show own_Go _ _ _ _ s₁ (mkF m 13 #[.val (.int ip0)] [])
      obtain ⟨T4, X4, e4, st4⟩ := getS2 X0 hx hZ hown (host := "") (Or.inl (own_w hw 16 rfl)) Via.refl e0 S_SCANNED (g := (mkF m 13 #[.val (.int ip0)] [])) rfl (hb hby own_d1_13)
      refine own_st st4 ?_
      show own_Go _ _ _ _ T4 (mkF m 16 #[.val (.int ip0)] [(.ref w_SCANNED)])
      exact own_retA X4 hx hlk hret rfl rfl (hb hby own_d1_16) (by decide) (by decide) e4 ⟨N0, rfl, (Or.inr (Or.inl ⟨rfl, hc1, hc3, trivial⟩))⟩
    · skip
      refine own_st (fun t k => XS.icmpYes X0.here hx rfl (pc0 := 10) (pc' := 17) rfl (hb hby own_d1_10) rfl (feq hc3).2 (by decide) (by decide) k) ?_
      show own_Go _ _ _ _ s₁ (mkF m 17 #[.val (.int ip0)] [])
      obtain ⟨T5, X5, e5, st5⟩ := getS2 X0 hx hZ hown (host := "") (Or.inl (own_w hw 14 rfl)) Via.refl e0 S_SCANNED_AMONG_LIBRARIES (g := (mkF m 17 #[.val (.int ip0)] [])) rfl (hb hby own_d1_17)
      refine own_st st5 ?_
      show own_Go _ _ _ _ T5 (mkF m 20 #[.val (.int ip0)] [(.ref w_SCANNED_AMONG_LIBRARIES)])
      exact own_retA X5 hx hlk hret rfl rfl (hb hby own_d1_20) (by decide) (by decide) e5 ⟨N0, rfl, (Or.inr (Or.inr ⟨rfl, hc1, hc3, trivial⟩))⟩
theorem own_pd0 : parseMethodDescriptor "(I)Lcom/example/bare_container/barecontainer/bench/Workload$Start;" = some ⟨[.int], some (.object "com/example/bare_container/barecontainer/bench/Workload$Start")⟩ := by decide +kernel
theorem own_d2_0 : decode prog_25_method_4_code 0 = .ok (.aload_n 0, 1) := by decide +kernel
theorem own_d2_1 : decode prog_25_method_4_code 1 = .ok (.getstatic 3, 3) := by decide +kernel
theorem own_d2_4 : decode prog_25_method_4_code 4 = .ok (.if_acmp .ne 7, 3) := by decide +kernel
theorem own_d2_7 : decode prog_25_method_4_code 7 = .ok (.iconst 1, 1) := by decide +kernel
theorem own_d2_8 : decode prog_25_method_4_code 8 = .ok (.goto 4, 3) := by decide +kernel
theorem own_d2_11 : decode prog_25_method_4_code 11 = .ok (.iconst 0, 1) := by decide +kernel
theorem own_d2_12 : decode prog_25_method_4_code 12 = .ok (.ireturn, 1) := by decide +kernel
theorem own_ef2 (m : MethodId) (x0 : Addr) : entryFrame m #[(.ref x0)] 1 = mkF m 0 #[.val (.ref x0)] [] := by first | (simp [entryFrame, mkF, argsToLocals, Value.category]; done) | rfl
theorem own_pn1 : plainName "com/example/bare_container/barecontainer/bench/Workload$Start" = true := by first | (simp [plainName, overriddenIn]; done) | decide +kernel
def own_Q2 (rp0 : Addr) (w_NAMED : Addr) (h0 : Heap) (n0 : Nat) (v : Option Value) (h : Heap) (L : List Loc) : Prop := Fr n0 L ∧ h = h0 ∧ ((v = some (.int (1 : Int32)) ∧ (rp0 = w_NAMED) ∧ True) ∨ (v = some (.int (0 : Int32)) ∧ (¬ (rp0 = w_NAMED)) ∧ True))
set_option maxRecDepth 65536 in
set_option maxHeartbeats 40000000 in
theorem own_rm2 (l : Launch) (Z : State) (a0 : Array Value) (hw : ∀ d ∈ tables_1, d.before a0 Z = true) (ws : List Jvm.Cond) (rp0 : Addr) (w_NAMED : Addr) (h0 : Heap) (n0 : Nat) (Z0 : n0 ≤ h0.size) (S_NAMED : Sta Z h0 "com/example/bare_container/barecontainer/bench/Workload$Start" "NAMED" "Lcom/example/bare_container/barecontainer/bench/Workload$Start;" (.ref w_NAMED)) :
    MetFree l (⟨"com/example/bare_container/barecontainer/bench/Workload$Start", "namesModules", "()Z"⟩ : MethodName) (head1 (Jvm.Cond.code (⟨"com/example/bare_container/barecontainer/bench/Workload$Start", "namesModules", "()Z"⟩ : MethodName) prog_25_method_4_code 1 (some .boolean) :: ws) ({ frames := 0, cells := 0, slots := 0, locals := 0 } : Room)) (fun a U => a = #[(.ref rp0)] ∧ Z.Warmed39 U.vm ∧ U.heap = h0) (fun _ _ _ _ _ => True) (fun _ U o U' => ∃ v L, o = .returned v ∧ own_Q2 rp0 w_NAMED h0 n0 v U'.heap L ∧ FrameEnd U o U' L ({ frames := 0, cells := 0, slots := 0, locals := 0 } : Room).cells ({ frames := 0, cells := 0, slots := 0, locals := 0 } : Room).slots) := by
  refine MetFree.of_bodySF (plainFor_of_name own_pn1) hisR ?_
  intro p e s m args below meth c s₁ Bd hml0 hP hK
  obtain ⟨rfl, hZ, hh⟩ := hP
  have hx := Bd.exec
  have hlk := Bd.notSynchronized
  have hret := Bd.returns
  have hby := Bd.bytes
  have hml : c.maxLocals = 1 := hml0
  have hown : s.vm.findClass "com/example/bare_container/barecontainer/bench/Workload$Start" = some m.cls := findClass_of_methodNamed Bd.named
  have hnm := (name_of_methodNamed Bd.named Bd.method).1
  have X0 : Stand p l e ({ frames := 0, cells := 0, slots := 0, locals := 0 } : Room) s m #[(.ref rp0)] below meth c s₁ [] 0 0 := Stand.of_body Bd
  have e0 : s₁.heap = h0 := by rw [← hh, Bd.state]; rfl
  have N0 := Fr.nil n0
  refine own_open (Q := own_Q2 rp0 w_NAMED h0 n0) (own_ef2 m rp0) ?_
  show own_Go _ _ _ _ s₁ (mkF m 0 #[.val (.ref rp0)] [])
  refine own_st (fun t k => XS.aloadN X0.here hx rfl (hb hby own_d2_0) rfl rfl k) ?_
  show own_Go _ _ _ _ s₁ (mkF m 1 #[.val (.ref rp0)] [(.ref rp0)])
  obtain ⟨T1, X1, e1, st1⟩ := getS2 X0 hx hZ hown (host := "") (Or.inl (own_w hw 13 rfl)) Via.refl e0 S_NAMED (g := (mkF m 1 #[.val (.ref rp0)] [(.ref rp0)])) rfl (hb hby own_d2_1)
  refine own_st st1 ?_
  show own_Go _ _ _ _ T1 (mkF m 4 #[.val (.ref rp0)] [(.ref w_NAMED), (.ref rp0)])
  by_cases hc2 : rp0 = w_NAMED
  · skip
    refine own_st (fun t k => Jvm.RoadKit.acmp (g := (mkF m 4 #[.val (.ref rp0)] [(.ref w_NAMED), (.ref rp0)])) X1 hx rfl rfl rfl (pc0 := 4) (pc' := 7) (same := true) rfl (hb hby own_d2_4) rfl (decide_eq_true (congrArg Value.ref hc2)) (by decide) (by decide) k) ?_
    show own_Go _ _ _ _ T1 (mkF m 7 #[.val (.ref rp0)] [])
    refine own_st (fun t k => XS.iconst X1.here hx rfl (hb hby own_d2_7) k) ?_
    show own_Go _ _ _ _ T1 (mkF m 8 #[.val (.ref rp0)] [(.int (1 : Int32))])
    refine own_st (fun t k => XS.goto X1.here hx rfl (pc0 := 8) (pc' := 12) rfl (hb hby own_d2_8) (by decide) (by decide) k) ?_
    show own_Go _ _ _ _ T1 (mkF m 12 #[.val (.ref rp0)] [(.int (1 : Int32))])
    exact own_retZ X1 hx hlk (t := .boolean) hret (by simp) (hb hby own_d2_12) (by decide) (by decide) e1 ⟨N0, rfl, (Or.inl ⟨rfl, hc2, trivial⟩)⟩
  · skip
    refine own_st (fun t k => Jvm.RoadKit.acmp (g := (mkF m 4 #[.val (.ref rp0)] [(.ref w_NAMED), (.ref rp0)])) X1 hx rfl rfl rfl (pc0 := 4) (pc' := 11) (same := false) rfl (hb hby own_d2_4) rfl (decide_eq_false fun q => hc2 (Value.ref.inj q)) (by decide) (by decide) k) ?_
    show own_Go _ _ _ _ T1 (mkF m 11 #[.val (.ref rp0)] [])
    refine own_st (fun t k => XS.iconst X1.here hx rfl (hb hby own_d2_11) k) ?_
    show own_Go _ _ _ _ T1 (mkF m 12 #[.val (.ref rp0)] [(.int (0 : Int32))])
    exact own_retZ X1 hx hlk (t := .boolean) hret (by simp) (hb hby own_d2_12) (by decide) (by decide) e1 ⟨N0, rfl, (Or.inr ⟨rfl, hc2, trivial⟩)⟩
theorem own_pd1 : parseMethodDescriptor "()Z" = some ⟨[], some .boolean⟩ := by decide +kernel
theorem own_ef0 (m : MethodId) (x0 : Int32) : entryFrame m #[(.int x0)] maxLocals = mkF m 0 #[.val (.int x0), .unset, .unset, .unset] [] := by first | (simp [entryFrame, mkF, argsToLocals, Value.category, maxLocals]; done) | rfl
def own_Q0 (n0 : Nat) (v : Option Value) (h : Heap) (L : List Loc) : Prop := v = some (.int (1 : Int32)) ∧ Fr n0 L
set_option maxRecDepth 65536 in
set_option maxHeartbeats 40000000 in
theorem own_rm0 (l : Launch) (Z : State) (a0 : Array Value) (hw : ∀ d ∈ tables_1, d.before a0 Z = true) (ws : List Jvm.Cond) (ip0 : Int32) (w_NAMED : Addr) (w_SCANNED_AMONG_LIBRARIES : Addr) (w_SCANNED : Addr) (h0 : Heap) (n0 : Nat) (Z0 : n0 ≤ h0.size) (S_NAMED : Sta Z h0 "com/example/bare_container/barecontainer/bench/Workload$Start" "NAMED" "Lcom/example/bare_container/barecontainer/bench/Workload$Start;" (.ref w_NAMED)) (E_w_NAMED : Exa Z h0 w_NAMED "com/example/bare_container/barecontainer/bench/Workload$Start") (S_SCANNED_AMONG_LIBRARIES : Sta Z h0 "com/example/bare_container/barecontainer/bench/Workload$Start" "SCANNED_AMONG_LIBRARIES" "Lcom/example/bare_container/barecontainer/bench/Workload$Start;" (.ref w_SCANNED_AMONG_LIBRARIES)) (E_w_SCANNED_AMONG_LIBRARIES : Exa Z h0 w_SCANNED_AMONG_LIBRARIES "com/example/bare_container/barecontainer/bench/Workload$Start") (S_SCANNED : Sta Z h0 "com/example/bare_container/barecontainer/bench/Workload$Start" "SCANNED" "Lcom/example/bare_container/barecontainer/bench/Workload$Start;" (.ref w_SCANNED)) (E_w_SCANNED : Exa Z h0 w_SCANNED "com/example/bare_container/barecontainer/bench/Workload$Start") (F_ordinal_w_SCANNED_AMONG_LIBRARIES : Fld Z h0 w_SCANNED_AMONG_LIBRARIES "java/lang/Enum" "ordinal" "I" (.int (2 : Int32))) (F_ordinal_w_NAMED : Fld Z h0 w_NAMED "java/lang/Enum" "ordinal" "I" (.int (0 : Int32))) (F_ordinal_w_SCANNED : Fld Z h0 w_SCANNED "java/lang/Enum" "ordinal" "I" (.int (1 : Int32))) :
    MetFree l x (head1 (Jvm.Cond.code x code maxLocals ret :: ws) room_1) (fun a U => a = #[(.int ip0)] ∧ Z.Warmed39 U.vm ∧ U.heap = h0) (fun _ _ _ _ _ => True) (fun _ U o U' => ∃ v L, o = .returned v ∧ own_Q0 n0 v U'.heap L ∧ FrameEnd U o U' L room_1.cells room_1.slots) := by
  refine MetFree.of_bodySF (plainFor_of_name own_pn0) hisR ?_
  intro p e s m args below meth c s₁ Bd hml0 hP hK
  obtain ⟨rfl, hZ, hh⟩ := hP
  have hx := Bd.exec
  have hlk := Bd.notSynchronized
  have hret := Bd.returns
  have hby := Bd.bytes
  have hml : c.maxLocals = 4 := hml0
  have hown : s.vm.findClass "com/example/bare_container/barecontainer/bench/StartNamesModulesPinLaw" = some m.cls := findClass_of_methodNamed Bd.named
  have hnm := (name_of_methodNamed Bd.named Bd.method).1
  have X0 : Stand p l e room_1 s m #[(.int ip0)] below meth c s₁ [] 0 0 := Stand.of_body Bd
  have e0 : s₁.heap = h0 := by rw [← hh, Bd.state]; rfl
  have N0 := Fr.nil n0
  refine own_open (Q := own_Q0 n0) (own_ef0 m ip0) ?_
  show own_Go _ _ _ _ s₁ (mkF m 0 #[.val (.int ip0), .unset, .unset, .unset] [])
  refine own_st (fun t k => XS.iloadN X0.here hx rfl (hb hby at_0) rfl k) ?_
  show own_Go _ _ _ _ s₁ (mkF m 1 #[.val (.int ip0), .unset, .unset, .unset] [(.int ip0)])
  refine own_st (X0.ldcInt hx hown (mvT hZ (own_w hw 0 rfl)) (g := (mkF m 1 #[.val (.int ip0), .unset, .unset, .unset] [(.int ip0)])) rfl (hb hby at_1)) ?_
  show own_Go _ _ _ _ s₁ (mkF m 3 #[.val (.int ip0), .unset, .unset, .unset] [(.int (2147483647 : Int32)), (.int ip0)])
  refine own_st (fun t k => XS.iand X0.here hx rfl (hb hby at_3) rfl k) ?_
  show own_Go _ _ _ _ s₁ (mkF m 4 #[.val (.int ip0), .unset, .unset, .unset] [(.int (ip0 &&& (2147483647 : Int32)))])
  refine own_st (fun t k => XS.iconst X0.here hx rfl (hb hby at_4) k) ?_
  show own_Go _ _ _ _ s₁ (mkF m 5 #[.val (.int ip0), .unset, .unset, .unset] [(.int (3 : Int32)), (.int (ip0 &&& (2147483647 : Int32)))])
  refine own_st (fun t k => iremM X0 hx rfl (hb hby at_5) rfl (by decide) k) ?_
  show own_Go _ _ _ _ s₁ (mkF m 6 #[.val (.int ip0), .unset, .unset, .unset] [(.int ((ip0 &&& (2147483647 : Int32)) % (3 : Int32)))])
  rcases own_rem0 ip0 with qr1 | qr1 | qr1
  · rw [qr1]
    show own_Go _ _ _ _ s₁ (mkF m 6 #[.val (.int ip0), .unset, .unset, .unset] [(.int (0 : Int32))])
    refine own_st (fun t k => XS.istoreN X0.here hx rfl (hb hby at_6) rfl (l' := #[.val (.int ip0), .val (.int (0 : Int32)), .unset, .unset]) rfl k) ?_
    show own_Go _ _ _ _ s₁ (mkF m 7 #[.val (.int ip0), .val (.int (0 : Int32)), .unset, .unset] [])
    refine own_st (fun t k => XS.iloadN X0.here hx rfl (hb hby at_7) rfl k) ?_
    show own_Go _ _ _ _ s₁ (mkF m 8 #[.val (.int ip0), .val (.int (0 : Int32)), .unset, .unset] [(.int (0 : Int32))])
    obtain ⟨_, _, ⟨T2, L2, k2, n2⟩, -, X2, ⟨Lc2, hQ2, l2, y2, z2⟩, st2⟩ := Jvm.LawKit.callS X0 hx (y := (⟨"com/example/bare_container/barecontainer/bench/StartNamesModulesPinLaw", "pick", "(I)Lcom/example/bare_container/barecontainer/bench/Workload$Start;"⟩ : MethodName)) hown (mvT hZ (own_w hw 1 rfl)) (mvT hZ (own_w hw 2 rfl)) (mvT hZ (own_w hw 3 rfl)) (mvT hZ (own_w hw 4 rfl)) (by decide) (backOf (W := 0) (own_rm1 l Z a0 hw [] (0 : Int32) w_NAMED w_SCANNED w_SCANNED_AMONG_LIBRARIES h0 n0 Z0 S_NAMED S_SCANNED S_SCANNED_AMONG_LIBRARIES) hZ (own_w hw 4 rfl) (own_w hw 3 rfl) (by decide) (by decide)) (g := (mkF m 8 #[.val (.int ip0), .val (.int (0 : Int32)), .unset, .unset] [(.int (0 : Int32))])) rfl (by rw [hml]; rfl) (argsL := [(.int (0 : Int32))]) (rest := []) (lenOf own_pd0 rfl) rfl (by show 2 * 0 + _ ≤ _; exact Nat.le_of_eq rfl) (hb hby at_8) (fun _ _ => ⟨rfl, e0, (by decide : 0 + 0 ≤ _), (by decide : 0 + 0 ≤ _)⟩)
    dsimp only [Pt.U, Pt.locs, Pt.cells, Pt.slots] at X2 l2 y2 z2 st2 hQ2
    subst l2 y2 z2
    obtain ⟨N2q, e2, hL2⟩ := hQ2
    have N2 := Fr.app N0 N2q
    rcases hL2 with ⟨rfl, hq2_0_0, -⟩ | ⟨rfl, hq2_1_0, hq2_1_1, -⟩ | ⟨rfl, hq2_2_0, hq2_2_1, -⟩
    · skip
      refine own_st st2 ?_
      show own_Go _ _ _ _ T2 (mkF m 11 #[.val (.int ip0), .val (.int (0 : Int32)), .unset, .unset] [(.ref w_NAMED)])
      refine own_st (fun t k => XS.astoreN X2.here hx rfl (hb hby at_11) rfl rfl (l' := #[.val (.int ip0), .val (.int (0 : Int32)), .val (.ref w_NAMED), .unset]) rfl k) ?_
      show own_Go _ _ _ _ T2 (mkF m 12 #[.val (.int ip0), .val (.int (0 : Int32)), .val (.ref w_NAMED), .unset] [])
      refine own_st (fun t k => XS.iloadN X2.here hx rfl (hb hby at_12) rfl k) ?_
      show own_Go _ _ _ _ T2 (mkF m 13 #[.val (.int ip0), .val (.int (0 : Int32)), .val (.ref w_NAMED), .unset] [(.int (0 : Int32))])
      refine own_st (fun t k => XS.ifNo X2.here hx rfl (hb hby at_13) rfl ((if0 _ _).trans (teq hq2_0_0).2) k) ?_
      show own_Go _ _ _ _ T2 (mkF m 16 #[.val (.int ip0), .val (.int (0 : Int32)), .val (.ref w_NAMED), .unset] [])
      refine own_st (fun t k => XS.iconst X2.here hx rfl (hb hby at_16) k) ?_
      show own_Go _ _ _ _ T2 (mkF m 17 #[.val (.int ip0), .val (.int (0 : Int32)), .val (.ref w_NAMED), .unset] [(.int (1 : Int32))])
      refine own_st (fun t k => XS.goto X2.here hx rfl (pc0 := 17) (pc' := 21) rfl (hb hby at_17) (by decide) (by decide) k) ?_
      show own_Go _ _ _ _ T2 (mkF m 21 #[.val (.int ip0), .val (.int (0 : Int32)), .val (.ref w_NAMED), .unset] [(.int (1 : Int32))])
      refine own_st (fun t k => XS.istoreN X2.here hx rfl (hb hby at_21) rfl (l' := #[.val (.int ip0), .val (.int (0 : Int32)), .val (.ref w_NAMED), .val (.int (1 : Int32))]) rfl k) ?_
      show own_Go _ _ _ _ T2 (mkF m 22 #[.val (.int ip0), .val (.int (0 : Int32)), .val (.ref w_NAMED), .val (.int (1 : Int32))] [])
      refine own_st (fun t k => XS.aloadN X2.here hx rfl (hb hby at_22) rfl rfl k) ?_
      show own_Go _ _ _ _ T2 (mkF m 23 #[.val (.int ip0), .val (.int (0 : Int32)), .val (.ref w_NAMED), .val (.int (1 : Int32))] [(.ref w_NAMED)])
      obtain ⟨cq3, kq3, q3a, q3b, q3c⟩ := isOf hZ e2 E_w_NAMED
      obtain ⟨_, _, ⟨T3, L3, k3, n3⟩, -, X3, ⟨Lc3, hQ3, l3, y3, z3⟩, st3⟩ := X2.virtualBack hx (y := (⟨"com/example/bare_container/barecontainer/bench/Workload$Start", "namesModules", "()Z"⟩ : MethodName)) (z := (⟨"com/example/bare_container/barecontainer/bench/Workload$Start", "namesModules", "()Z"⟩ : MethodName)) hown (mvT hZ (own_w hw 8 rfl)) (mvT hZ (own_w hw 9 rfl)) (notFace_of_selects (args := #[]) (mvT hZ (own_w hw 11 rfl))) (mvT hZ (own_w hw 11 rfl)) (mvT hZ (own_w hw 10 rfl)) (by decide) (backOf (W := 0) (own_rm2 l Z a0 hw [] w_NAMED w_NAMED h0 n0 Z0 S_NAMED) hZ (own_w hw 12 rfl) (own_w hw 6 rfl) (by decide) (by decide)) q3a q3c (g := (mkF m 23 #[.val (.int ip0), .val (.int (0 : Int32)), .val (.ref w_NAMED), .val (.int (1 : Int32))] [(.ref w_NAMED)])) rfl (by rw [hml]; rfl) (Steps.refl _) (argsL := []) (rest := []) (lenOf own_pd1 rfl) rfl (by show 2 * 0 + _ ≤ _; exact Nat.le_of_eq rfl) (hb hby at_23) (fun _ _ => ⟨rfl, e2, (by decide : 0 + 0 ≤ _), (by decide : 0 + 0 ≤ _)⟩)
      dsimp only [Pt.U, Pt.locs, Pt.cells, Pt.slots] at X3 l3 y3 z3 st3 hQ3
      subst l3 y3 z3
      obtain ⟨N3q, e3, hL3⟩ := hQ3
      have N3 := Fr.app N2 N3q
      rcases hL3 with ⟨rfl, hq3_0_0, -⟩ | ⟨rfl, hq3_1_0, -⟩
      · skip
        refine own_st (fun t k => st3.trans k) ?_
        show own_Go _ _ _ _ T3 (mkF m 26 #[.val (.int ip0), .val (.int (0 : Int32)), .val (.ref w_NAMED), .val (.int (1 : Int32))] [(.int (1 : Int32))])
        refine own_st (fun t k => XS.iloadN X3.here hx rfl (hb hby at_26) rfl k) ?_
        show own_Go _ _ _ _ T3 (mkF m 27 #[.val (.int ip0), .val (.int (0 : Int32)), .val (.ref w_NAMED), .val (.int (1 : Int32))] [(.int (1 : Int32)), (.int (1 : Int32))])
        refine own_st (fun t k => XS.icmpNo X3.here hx rfl (hb hby at_27) rfl (teq (by decide : (1 : Int32) = (1 : Int32))).2 k) ?_
        show own_Go _ _ _ _ T3 (mkF m 30 #[.val (.int ip0), .val (.int (0 : Int32)), .val (.ref w_NAMED), .val (.int (1 : Int32))] [])
        refine own_st (fun t k => XS.iconst X3.here hx rfl (hb hby at_30) k) ?_
        show own_Go _ _ _ _ T3 (mkF m 31 #[.val (.int ip0), .val (.int (0 : Int32)), .val (.ref w_NAMED), .val (.int (1 : Int32))] [(.int (1 : Int32))])
        refine own_st (fun t k => XS.goto X3.here hx rfl (pc0 := 31) (pc' := 35) rfl (hb hby at_31) (by decide) (by decide) k) ?_
        show own_Go _ _ _ _ T3 (mkF m 35 #[.val (.int ip0), .val (.int (0 : Int32)), .val (.ref w_NAMED), .val (.int (1 : Int32))] [(.int (1 : Int32))])
        exact own_retZ X3 hx hlk (t := .boolean) hret (by simp) (hb hby at_35) (by decide) (by decide) e3 ⟨rfl, N3⟩
      · skip
        exact absurd (rfl : w_NAMED = w_NAMED) hq3_1_0
    · skip
      exact absurd (by decide : (0 : Int32) = (0 : Int32)) hq2_1_0
    · skip
      exact absurd (by decide : (0 : Int32) = (0 : Int32)) hq2_2_0
  · rw [qr1]
    show own_Go _ _ _ _ s₁ (mkF m 6 #[.val (.int ip0), .unset, .unset, .unset] [(.int (1 : Int32))])
    refine own_st (fun t k => XS.istoreN X0.here hx rfl (hb hby at_6) rfl (l' := #[.val (.int ip0), .val (.int (1 : Int32)), .unset, .unset]) rfl k) ?_
    show own_Go _ _ _ _ s₁ (mkF m 7 #[.val (.int ip0), .val (.int (1 : Int32)), .unset, .unset] [])
    refine own_st (fun t k => XS.iloadN X0.here hx rfl (hb hby at_7) rfl k) ?_
    show own_Go _ _ _ _ s₁ (mkF m 8 #[.val (.int ip0), .val (.int (1 : Int32)), .unset, .unset] [(.int (1 : Int32))])
    obtain ⟨_, _, ⟨T4, L4, k4, n4⟩, -, X4, ⟨Lc4, hQ4, l4, y4, z4⟩, st4⟩ := Jvm.LawKit.callS X0 hx (y := (⟨"com/example/bare_container/barecontainer/bench/StartNamesModulesPinLaw", "pick", "(I)Lcom/example/bare_container/barecontainer/bench/Workload$Start;"⟩ : MethodName)) hown (mvT hZ (own_w hw 1 rfl)) (mvT hZ (own_w hw 2 rfl)) (mvT hZ (own_w hw 3 rfl)) (mvT hZ (own_w hw 4 rfl)) (by decide) (backOf (W := 0) (own_rm1 l Z a0 hw [] (1 : Int32) w_NAMED w_SCANNED w_SCANNED_AMONG_LIBRARIES h0 n0 Z0 S_NAMED S_SCANNED S_SCANNED_AMONG_LIBRARIES) hZ (own_w hw 4 rfl) (own_w hw 3 rfl) (by decide) (by decide)) (g := (mkF m 8 #[.val (.int ip0), .val (.int (1 : Int32)), .unset, .unset] [(.int (1 : Int32))])) rfl (by rw [hml]; rfl) (argsL := [(.int (1 : Int32))]) (rest := []) (lenOf own_pd0 rfl) rfl (by show 2 * 0 + _ ≤ _; exact Nat.le_of_eq rfl) (hb hby at_8) (fun _ _ => ⟨rfl, e0, (by decide : 0 + 0 ≤ _), (by decide : 0 + 0 ≤ _)⟩)
    dsimp only [Pt.U, Pt.locs, Pt.cells, Pt.slots] at X4 l4 y4 z4 st4 hQ4
    subst l4 y4 z4
    obtain ⟨N4q, e4, hL4⟩ := hQ4
    have N4 := Fr.app N0 N4q
    rcases hL4 with ⟨rfl, hq4_0_0, -⟩ | ⟨rfl, hq4_1_0, hq4_1_1, -⟩ | ⟨rfl, hq4_2_0, hq4_2_1, -⟩
    · skip
      exact absurd hq4_0_0 (by decide : ¬ ((1 : Int32) = (0 : Int32)))
    · skip
      refine own_st st4 ?_
      show own_Go _ _ _ _ T4 (mkF m 11 #[.val (.int ip0), .val (.int (1 : Int32)), .unset, .unset] [(.ref w_SCANNED)])
      refine own_st (fun t k => XS.astoreN X4.here hx rfl (hb hby at_11) rfl rfl (l' := #[.val (.int ip0), .val (.int (1 : Int32)), .val (.ref w_SCANNED), .unset]) rfl k) ?_
      show own_Go _ _ _ _ T4 (mkF m 12 #[.val (.int ip0), .val (.int (1 : Int32)), .val (.ref w_SCANNED), .unset] [])
      refine own_st (fun t k => XS.iloadN X4.here hx rfl (hb hby at_12) rfl k) ?_
      show own_Go _ _ _ _ T4 (mkF m 13 #[.val (.int ip0), .val (.int (1 : Int32)), .val (.ref w_SCANNED), .unset] [(.int (1 : Int32))])
      refine own_st (fun t k => XS.ifYes X4.here hx rfl (pc0 := 13) (pc' := 20) rfl (hb hby at_13) rfl ((if0 _ _).trans (feq hq4_1_0).2) (by decide) (by decide) k) ?_
      show own_Go _ _ _ _ T4 (mkF m 20 #[.val (.int ip0), .val (.int (1 : Int32)), .val (.ref w_SCANNED), .unset] [])
      refine own_st (fun t k => XS.iconst X4.here hx rfl (hb hby at_20) k) ?_
      show own_Go _ _ _ _ T4 (mkF m 21 #[.val (.int ip0), .val (.int (1 : Int32)), .val (.ref w_SCANNED), .unset] [(.int (0 : Int32))])
      refine own_st (fun t k => XS.istoreN X4.here hx rfl (hb hby at_21) rfl (l' := #[.val (.int ip0), .val (.int (1 : Int32)), .val (.ref w_SCANNED), .val (.int (0 : Int32))]) rfl k) ?_
      show own_Go _ _ _ _ T4 (mkF m 22 #[.val (.int ip0), .val (.int (1 : Int32)), .val (.ref w_SCANNED), .val (.int (0 : Int32))] [])
      refine own_st (fun t k => XS.aloadN X4.here hx rfl (hb hby at_22) rfl rfl k) ?_
      show own_Go _ _ _ _ T4 (mkF m 23 #[.val (.int ip0), .val (.int (1 : Int32)), .val (.ref w_SCANNED), .val (.int (0 : Int32))] [(.ref w_SCANNED)])
      obtain ⟨cq5, kq5, q5a, q5b, q5c⟩ := isOf hZ e4 E_w_SCANNED
      obtain ⟨_, _, ⟨T5, L5, k5, n5⟩, -, X5, ⟨Lc5, hQ5, l5, y5, z5⟩, st5⟩ := X4.virtualBack hx (y := (⟨"com/example/bare_container/barecontainer/bench/Workload$Start", "namesModules", "()Z"⟩ : MethodName)) (z := (⟨"com/example/bare_container/barecontainer/bench/Workload$Start", "namesModules", "()Z"⟩ : MethodName)) hown (mvT hZ (own_w hw 8 rfl)) (mvT hZ (own_w hw 9 rfl)) (notFace_of_selects (args := #[]) (mvT hZ (own_w hw 11 rfl))) (mvT hZ (own_w hw 11 rfl)) (mvT hZ (own_w hw 10 rfl)) (by decide) (backOf (W := 0) (own_rm2 l Z a0 hw [] w_SCANNED w_NAMED h0 n0 Z0 S_NAMED) hZ (own_w hw 12 rfl) (own_w hw 6 rfl) (by decide) (by decide)) q5a q5c (g := (mkF m 23 #[.val (.int ip0), .val (.int (1 : Int32)), .val (.ref w_SCANNED), .val (.int (0 : Int32))] [(.ref w_SCANNED)])) rfl (by rw [hml]; rfl) (Steps.refl _) (argsL := []) (rest := []) (lenOf own_pd1 rfl) rfl (by show 2 * 0 + _ ≤ _; exact Nat.le_of_eq rfl) (hb hby at_23) (fun _ _ => ⟨rfl, e4, (by decide : 0 + 0 ≤ _), (by decide : 0 + 0 ≤ _)⟩)
      dsimp only [Pt.U, Pt.locs, Pt.cells, Pt.slots] at X5 l5 y5 z5 st5 hQ5
      subst l5 y5 z5
      obtain ⟨N5q, e5, hL5⟩ := hQ5
      have N5 := Fr.app N4 N5q
      rcases hL5 with ⟨rfl, hq5_0_0, -⟩ | ⟨rfl, hq5_1_0, -⟩
      · skip
        exact absurd hq5_0_0 (Fld.ne F_ordinal_w_SCANNED F_ordinal_w_NAMED (own_nei (by decide)))
      · skip
        refine own_st (fun t k => st5.trans k) ?_
        show own_Go _ _ _ _ T5 (mkF m 26 #[.val (.int ip0), .val (.int (1 : Int32)), .val (.ref w_SCANNED), .val (.int (0 : Int32))] [(.int (0 : Int32))])
        refine own_st (fun t k => XS.iloadN X5.here hx rfl (hb hby at_26) rfl k) ?_
        show own_Go _ _ _ _ T5 (mkF m 27 #[.val (.int ip0), .val (.int (1 : Int32)), .val (.ref w_SCANNED), .val (.int (0 : Int32))] [(.int (0 : Int32)), (.int (0 : Int32))])
        refine own_st (fun t k => XS.icmpNo X5.here hx rfl (hb hby at_27) rfl (teq (by decide : (0 : Int32) = (0 : Int32))).2 k) ?_
        show own_Go _ _ _ _ T5 (mkF m 30 #[.val (.int ip0), .val (.int (1 : Int32)), .val (.ref w_SCANNED), .val (.int (0 : Int32))] [])
        refine own_st (fun t k => XS.iconst X5.here hx rfl (hb hby at_30) k) ?_
        show own_Go _ _ _ _ T5 (mkF m 31 #[.val (.int ip0), .val (.int (1 : Int32)), .val (.ref w_SCANNED), .val (.int (0 : Int32))] [(.int (1 : Int32))])
        refine own_st (fun t k => XS.goto X5.here hx rfl (pc0 := 31) (pc' := 35) rfl (hb hby at_31) (by decide) (by decide) k) ?_
        show own_Go _ _ _ _ T5 (mkF m 35 #[.val (.int ip0), .val (.int (1 : Int32)), .val (.ref w_SCANNED), .val (.int (0 : Int32))] [(.int (1 : Int32))])
        exact own_retZ X5 hx hlk (t := .boolean) hret (by simp) (hb hby at_35) (by decide) (by decide) e5 ⟨rfl, N5⟩
    · skip
      exact absurd (by decide : (1 : Int32) = (1 : Int32)) hq4_2_1
  · rw [qr1]
    show own_Go _ _ _ _ s₁ (mkF m 6 #[.val (.int ip0), .unset, .unset, .unset] [(.int (2 : Int32))])
    refine own_st (fun t k => XS.istoreN X0.here hx rfl (hb hby at_6) rfl (l' := #[.val (.int ip0), .val (.int (2 : Int32)), .unset, .unset]) rfl k) ?_
    show own_Go _ _ _ _ s₁ (mkF m 7 #[.val (.int ip0), .val (.int (2 : Int32)), .unset, .unset] [])
    refine own_st (fun t k => XS.iloadN X0.here hx rfl (hb hby at_7) rfl k) ?_
    show own_Go _ _ _ _ s₁ (mkF m 8 #[.val (.int ip0), .val (.int (2 : Int32)), .unset, .unset] [(.int (2 : Int32))])
    obtain ⟨_, _, ⟨T6, L6, k6, n6⟩, -, X6, ⟨Lc6, hQ6, l6, y6, z6⟩, st6⟩ := Jvm.LawKit.callS X0 hx (y := (⟨"com/example/bare_container/barecontainer/bench/StartNamesModulesPinLaw", "pick", "(I)Lcom/example/bare_container/barecontainer/bench/Workload$Start;"⟩ : MethodName)) hown (mvT hZ (own_w hw 1 rfl)) (mvT hZ (own_w hw 2 rfl)) (mvT hZ (own_w hw 3 rfl)) (mvT hZ (own_w hw 4 rfl)) (by decide) (backOf (W := 0) (own_rm1 l Z a0 hw [] (2 : Int32) w_NAMED w_SCANNED w_SCANNED_AMONG_LIBRARIES h0 n0 Z0 S_NAMED S_SCANNED S_SCANNED_AMONG_LIBRARIES) hZ (own_w hw 4 rfl) (own_w hw 3 rfl) (by decide) (by decide)) (g := (mkF m 8 #[.val (.int ip0), .val (.int (2 : Int32)), .unset, .unset] [(.int (2 : Int32))])) rfl (by rw [hml]; rfl) (argsL := [(.int (2 : Int32))]) (rest := []) (lenOf own_pd0 rfl) rfl (by show 2 * 0 + _ ≤ _; exact Nat.le_of_eq rfl) (hb hby at_8) (fun _ _ => ⟨rfl, e0, (by decide : 0 + 0 ≤ _), (by decide : 0 + 0 ≤ _)⟩)
    dsimp only [Pt.U, Pt.locs, Pt.cells, Pt.slots] at X6 l6 y6 z6 st6 hQ6
    subst l6 y6 z6
    obtain ⟨N6q, e6, hL6⟩ := hQ6
    have N6 := Fr.app N0 N6q
    rcases hL6 with ⟨rfl, hq6_0_0, -⟩ | ⟨rfl, hq6_1_0, hq6_1_1, -⟩ | ⟨rfl, hq6_2_0, hq6_2_1, -⟩
    · skip
      exact absurd hq6_0_0 (by decide : ¬ ((2 : Int32) = (0 : Int32)))
    · skip
      exact absurd hq6_1_1 (by decide : ¬ ((2 : Int32) = (1 : Int32)))
    · skip
      refine own_st st6 ?_
      show own_Go _ _ _ _ T6 (mkF m 11 #[.val (.int ip0), .val (.int (2 : Int32)), .unset, .unset] [(.ref w_SCANNED_AMONG_LIBRARIES)])
      refine own_st (fun t k => XS.astoreN X6.here hx rfl (hb hby at_11) rfl rfl (l' := #[.val (.int ip0), .val (.int (2 : Int32)), .val (.ref w_SCANNED_AMONG_LIBRARIES), .unset]) rfl k) ?_
      show own_Go _ _ _ _ T6 (mkF m 12 #[.val (.int ip0), .val (.int (2 : Int32)), .val (.ref w_SCANNED_AMONG_LIBRARIES), .unset] [])
      refine own_st (fun t k => XS.iloadN X6.here hx rfl (hb hby at_12) rfl k) ?_
      show own_Go _ _ _ _ T6 (mkF m 13 #[.val (.int ip0), .val (.int (2 : Int32)), .val (.ref w_SCANNED_AMONG_LIBRARIES), .unset] [(.int (2 : Int32))])
      refine own_st (fun t k => XS.ifYes X6.here hx rfl (pc0 := 13) (pc' := 20) rfl (hb hby at_13) rfl ((if0 _ _).trans (feq hq6_2_0).2) (by decide) (by decide) k) ?_
      show own_Go _ _ _ _ T6 (mkF m 20 #[.val (.int ip0), .val (.int (2 : Int32)), .val (.ref w_SCANNED_AMONG_LIBRARIES), .unset] [])
      refine own_st (fun t k => XS.iconst X6.here hx rfl (hb hby at_20) k) ?_
      show own_Go _ _ _ _ T6 (mkF m 21 #[.val (.int ip0), .val (.int (2 : Int32)), .val (.ref w_SCANNED_AMONG_LIBRARIES), .unset] [(.int (0 : Int32))])
      refine own_st (fun t k => XS.istoreN X6.here hx rfl (hb hby at_21) rfl (l' := #[.val (.int ip0), .val (.int (2 : Int32)), .val (.ref w_SCANNED_AMONG_LIBRARIES), .val (.int (0 : Int32))]) rfl k) ?_
      show own_Go _ _ _ _ T6 (mkF m 22 #[.val (.int ip0), .val (.int (2 : Int32)), .val (.ref w_SCANNED_AMONG_LIBRARIES), .val (.int (0 : Int32))] [])
      refine own_st (fun t k => XS.aloadN X6.here hx rfl (hb hby at_22) rfl rfl k) ?_
      show own_Go _ _ _ _ T6 (mkF m 23 #[.val (.int ip0), .val (.int (2 : Int32)), .val (.ref w_SCANNED_AMONG_LIBRARIES), .val (.int (0 : Int32))] [(.ref w_SCANNED_AMONG_LIBRARIES)])
      obtain ⟨cq7, kq7, q7a, q7b, q7c⟩ := isOf hZ e6 E_w_SCANNED_AMONG_LIBRARIES
      obtain ⟨_, _, ⟨T7, L7, k7, n7⟩, -, X7, ⟨Lc7, hQ7, l7, y7, z7⟩, st7⟩ := X6.virtualBack hx (y := (⟨"com/example/bare_container/barecontainer/bench/Workload$Start", "namesModules", "()Z"⟩ : MethodName)) (z := (⟨"com/example/bare_container/barecontainer/bench/Workload$Start", "namesModules", "()Z"⟩ : MethodName)) hown (mvT hZ (own_w hw 8 rfl)) (mvT hZ (own_w hw 9 rfl)) (notFace_of_selects (args := #[]) (mvT hZ (own_w hw 11 rfl))) (mvT hZ (own_w hw 11 rfl)) (mvT hZ (own_w hw 10 rfl)) (by decide) (backOf (W := 0) (own_rm2 l Z a0 hw [] w_SCANNED_AMONG_LIBRARIES w_NAMED h0 n0 Z0 S_NAMED) hZ (own_w hw 12 rfl) (own_w hw 6 rfl) (by decide) (by decide)) q7a q7c (g := (mkF m 23 #[.val (.int ip0), .val (.int (2 : Int32)), .val (.ref w_SCANNED_AMONG_LIBRARIES), .val (.int (0 : Int32))] [(.ref w_SCANNED_AMONG_LIBRARIES)])) rfl (by rw [hml]; rfl) (Steps.refl _) (argsL := []) (rest := []) (lenOf own_pd1 rfl) rfl (by show 2 * 0 + _ ≤ _; exact Nat.le_of_eq rfl) (hb hby at_23) (fun _ _ => ⟨rfl, e6, (by decide : 0 + 0 ≤ _), (by decide : 0 + 0 ≤ _)⟩)
      dsimp only [Pt.U, Pt.locs, Pt.cells, Pt.slots] at X7 l7 y7 z7 st7 hQ7
      subst l7 y7 z7
      obtain ⟨N7q, e7, hL7⟩ := hQ7
      have N7 := Fr.app N6 N7q
      rcases hL7 with ⟨rfl, hq7_0_0, -⟩ | ⟨rfl, hq7_1_0, -⟩
      · skip
        exact absurd hq7_0_0 (Fld.ne F_ordinal_w_SCANNED_AMONG_LIBRARIES F_ordinal_w_NAMED (own_nei (by decide)))
      · skip
        refine own_st (fun t k => st7.trans k) ?_
        show own_Go _ _ _ _ T7 (mkF m 26 #[.val (.int ip0), .val (.int (2 : Int32)), .val (.ref w_SCANNED_AMONG_LIBRARIES), .val (.int (0 : Int32))] [(.int (0 : Int32))])
        refine own_st (fun t k => XS.iloadN X7.here hx rfl (hb hby at_26) rfl k) ?_
        show own_Go _ _ _ _ T7 (mkF m 27 #[.val (.int ip0), .val (.int (2 : Int32)), .val (.ref w_SCANNED_AMONG_LIBRARIES), .val (.int (0 : Int32))] [(.int (0 : Int32)), (.int (0 : Int32))])
        refine own_st (fun t k => XS.icmpNo X7.here hx rfl (hb hby at_27) rfl (teq (by decide : (0 : Int32) = (0 : Int32))).2 k) ?_
        show own_Go _ _ _ _ T7 (mkF m 30 #[.val (.int ip0), .val (.int (2 : Int32)), .val (.ref w_SCANNED_AMONG_LIBRARIES), .val (.int (0 : Int32))] [])
        refine own_st (fun t k => XS.iconst X7.here hx rfl (hb hby at_30) k) ?_
        show own_Go _ _ _ _ T7 (mkF m 31 #[.val (.int ip0), .val (.int (2 : Int32)), .val (.ref w_SCANNED_AMONG_LIBRARIES), .val (.int (0 : Int32))] [(.int (1 : Int32))])
        refine own_st (fun t k => XS.goto X7.here hx rfl (pc0 := 31) (pc' := 35) rfl (hb hby at_31) (by decide) (by decide) k) ?_
        show own_Go _ _ _ _ T7 (mkF m 35 #[.val (.int ip0), .val (.int (2 : Int32)), .val (.ref w_SCANNED_AMONG_LIBRARIES), .val (.int (0 : Int32))] [(.int (1 : Int32))])
        exact own_retZ X7 hx hlk (t := .boolean) hret (by simp) (hb hby at_35) (by decide) (by decide) e7 ⟨rfl, N7⟩
set_option maxRecDepth 65536 in
set_option maxHeartbeats 40000000 in
theorem own_comes {Post : Tables → Env → Array Value → State → Outcome → State → Prop} (hpost : ∀ tb e args s v u, (limb_1_1.after args s (.returned v) u = true ∧ limb_1_2.after args s (.returned v) u = true ∧ True) → FrameEnd s (.returned v) u (Jvm.fieldLocs frame_1_writes args s ++ Jvm.arrayLocs frame_1_arrays args s ++ Jvm.staticLocs frame_1_statics s) 0 0 → Post tb e args s (.returned v) u) :
    ArmFor flags0 classFile x code maxLocals ret World_1 tables_1 room_1 Calls_1 rest_1 Pre_1 Post := by
  intro l hfl _ _ p e ha hc hk s m args below hf hA hF happ hP
  obtain ⟨hcalls, hrest, hpre⟩ := hP
  obtain ⟨-, -, -, hnamed, -, -, -, hat⟩ := (Spec.applies_iff hf).mp happ
  obtain ⟨hg, hn⟩ := and_e (Cond.before_iff.mp (show (Jvm.Cond.and given_1 narrow_1).before args s = true from hpre))
  obtain ⟨g11, g12⟩ := and_e hg
  obtain ⟨w0, rfl⟩ : ∃ w0 : Value, args = #[w0] := by
    have hs : args.size = 1 := by simpa [Cond.value, given_1] using g11
    obtain ⟨L⟩ := args
    match L, hs with
    | [w0], _ => exact ⟨w0, rfl⟩
  have hw := fun d (hd : d ∈ tables_1) => atoms_spec (ws := Jvm.Cond.code x code maxLocals ret :: tables_1) hat d (List.mem_cons_of_mem _ hd)
  obtain ⟨i0, ei0⟩ := is_v g12
  obtain rfl : w0 = (.int i0) := Option.some.inj ei0
  have hfit : Fit s := fun {y c} hc i hi => by
    obtain ⟨ha, rfl⟩ := Array.getElem?_eq_some_iff.mp hc
    have q := List.all_eq_true.mp ((Array.all_eq_true_iff_forall_mem.mp hF) _ (Array.getElem_mem ha)) i (List.mem_range.mpr hi)
    simpa [Array.getElem?_eq_getElem hi] using q
  obtain ⟨g1, g2⟩ := and_e hn
  obtain ⟨g3, g4⟩ := and_e g2
  obtain ⟨g5, g6⟩ := and_e g4
  obtain ⟨g7, g8⟩ := and_e g6
  obtain ⟨g9, g10⟩ := and_e g8
  obtain ⟨w_NAMED, ev_w_NAMED⟩ := exa_v g1
  have S_NAMED := Sta.start ev_w_NAMED (Or.inr ⟨(own_w hw 6 rfl), (own_w hw 7 rfl)⟩)
  have E_w_NAMED := Exa.start ev_w_NAMED g1
  obtain ⟨w_SCANNED_AMONG_LIBRARIES, ev_w_SCANNED_AMONG_LIBRARIES⟩ := exa_v g3
  have S_SCANNED_AMONG_LIBRARIES := Sta.start ev_w_SCANNED_AMONG_LIBRARIES (Or.inr ⟨(own_w hw 6 rfl), (own_w hw 15 rfl)⟩)
  have E_w_SCANNED_AMONG_LIBRARIES := Exa.start ev_w_SCANNED_AMONG_LIBRARIES g3
  obtain ⟨w_SCANNED, ev_w_SCANNED⟩ := exa_v g9
  have S_SCANNED := Sta.start ev_w_SCANNED (Or.inr ⟨(own_w hw 6 rfl), (own_w hw 17 rfl)⟩)
  have E_w_SCANNED := Exa.start ev_w_SCANNED g9
  have F_ordinal_w_SCANNED_AMONG_LIBRARIES := Fld.start ((fld_at ev_w_SCANNED_AMONG_LIBRARIES).symm.trans (own_eqI g5 (Term.int_eval _)))
  have F_ordinal_w_NAMED := Fld.start ((fld_at ev_w_NAMED).symm.trans (own_eqI g7 (Term.int_eval _)))
  have F_ordinal_w_SCANNED := Fld.start ((fld_at ev_w_SCANNED).symm.trans (own_eqI g10 (Term.int_eval _)))
  obtain ⟨n, o, h1, h2, h3, _, L, rfl, ⟨rfl, N⟩, hq⟩ := own_rm0 l s _ hw tables_1 i0 w_NAMED w_SCANNED_AMONG_LIBRARIES w_SCANNED s.heap s.heap.size (Nat.le_refl _) S_NAMED E_w_NAMED S_SCANNED_AMONG_LIBRARIES E_w_SCANNED_AMONG_LIBRARIES S_SCANNED E_w_SCANNED F_ordinal_w_SCANNED_AMONG_LIBRARIES F_ordinal_w_NAMED F_ordinal_w_SCANNED p e ha hc hk s m _ below hf ((Spec.applies_iff_loose hf).mp happ).1 ⟨rfl, State.Warmed39.refl s, rfl⟩ trivial
  exact ⟨n, _, h1, h2, h3, hpost _ _ _ _ _ _ ⟨Cond.after_iff.mpr rfl, Cond.after_iff.mpr (eq_i res_at (Term.int_eval (1)) rfl), trivial⟩ ⟨hq.1, hq.2.1, (hq.2.2.sift fun y hy => Or.inr (N y hy)).mono (by decide) (by decide)⟩⟩
theorem main_1_1 : Claimed_1_1 := own_comes fun _ _ _ _ _ _ h hF => ⟨h.1, hF⟩
theorem main_1_2 : Claimed_1_2 := own_comes fun _ _ _ _ _ _ h hF => ⟨h.2.1, hF⟩
end Jvm.Pilot.@@N@@
namespace Jvm.Pilot.@@N@@
open Jvm Jvm.ClassFile Sem Op Lib Jvm.Free Jvm.Stand Jvm.Pilot.@@N@@.Jvm.D
/-! MADE BY PROGRAM (witnessworld.py) out of the Statement's table words and the real class files: 12 classes; the members and pool entries that the words name. The judged class is class 1, her method 2. -/
namespace start1
open Jvm.ClassFile
def u (s : String) : CpInfo := .utf8 (stringToUtf16 s)
/-- a pool by its gaps: so many unusable entries, then the entry; so many at the end -/
def gap : Nat → List CpInfo → List CpInfo
  | 0, r => r
  | n + 1, r => .unusable :: gap n r
def poolList (es : List (Nat × CpInfo)) (last : Nat) : List CpInfo := es.foldr (fun e r => gap e.1 (e.2 :: r)) (gap last [])
def pool (es : List (Nat × CpInfo)) (last : Nat) : Array CpInfo := ⟨poolList es last⟩
def fileOf (pool : Array CpInfo) (this : Nat) (attrs : Array Attribute := #[]) (ms : Array MethodInfo := #[]) (fl : Nat := 33) (sup : Nat := 0) (ifs : Array Nat := #[]) (fds : Array FieldInfo := #[]) : ClassFile where
  minorVersion := 0
  majorVersion := 65
  constantPool := pool
  accessFlags := fl
  thisClass := this
  superClass := sup
  interfaces := ifs
  fields := fds
  methods := ms
  attributes := attrs
def plain (name : String) (sup : Option ClassId) : Class where
  name := name
  kind := .ordinary
  loader := none
  accessFlags := 33
  super := sup
  interfaces := #[]
  cf := none
  fields := #[]
  methods := #[]
  instanceTypes := #[]
  staticTypes := #[]
  resolved := #[]
  callSites := []
  init := .initialized
  statics := none
  mirror := none

def pool0 : Array CpInfo := pool [(5, u "<init>"), (0, u "()V"), (1, .class_ 10), (1, u "java/lang/Object")] 113

def k0m0 : Method := { name := "<init>", desc := "()V", sig := { parameters := [], returnType := none }, accessFlags := 1, code := none }
/-- java/lang/Object -/
def k0 : Class := { plain "java/lang/Object" none with
  accessFlags := 33
  interfaces := #[]
  cf := some (fileOf pool0 8 #[] #[{ accessFlags := 1, nameIndex := 5, descriptorIndex := 6, attributes := #[] }] 33 0 #[] #[])
  fields := #[]
  methods := #[k0m0]
  instanceTypes := #[]
  staticTypes := #[]
  resolved := Array.replicate 124 none
  statics := none }

def pool1 : Array CpInfo := pool [(2, .class_ 4), (1, u "java/lang/Object"), (0, u "<init>"), (0, u "()V"), (0, .fieldref 8 9), (0, .class_ 10), (0, .nameAndType 11 12), (0, u "com/example/bare_container/barecontainer/bench/Workload$Start"), (0, u "NAMED"), (0, u "Lcom/example/bare_container/barecontainer/bench/Workload$Start;"), (0, .fieldref 8 14), (0, .nameAndType 15 12), (0, u "SCANNED"), (0, .fieldref 8 17), (0, .nameAndType 18 12), (0, u "SCANNED_AMONG_LIBRARIES"), (0, .integer 2147483647), (0, .methodref 21 22), (0, .class_ 23), (0, .nameAndType 24 25), (0, u "com/example/bare_container/barecontainer/bench/StartNamesModulesPinLaw"), (0, u "pick"), (0, u "(I)Lcom/example/bare_container/barecontainer/bench/Workload$Start;"), (0, .methodref 8 27), (0, .nameAndType 28 29), (0, u "namesModules"), (0, u "()Z"), (3, u "law"), (0, u "(I)Z")] 6

def k1m0 : Method := { name := "<init>", desc := "()V", sig := { parameters := [], returnType := none }, accessFlags := 1, code := none }
def k1c1 : Code := { maxStack := 2, maxLocals := 1, code := method_2_code, exceptionTable := #[], attributes := #[] }
def k1m1 : Method := { name := "pick", desc := "(I)Lcom/example/bare_container/barecontainer/bench/Workload$Start;", sig := { parameters := [.int], returnType := some (.object "com/example/bare_container/barecontainer/bench/Workload$Start") }, accessFlags := 10, code := some k1c1 }
def k1c2 : Code := { maxStack := 2, maxLocals := 4, code := code, exceptionTable := #[], attributes := #[] }
def k1m2 : Method := { name := "law", desc := "(I)Z", sig := { parameters := [.int], returnType := some .boolean }, accessFlags := 9, code := some k1c2 }
/-- com/example/bare_container/barecontainer/bench/StartNamesModulesPinLaw -/
def k1 : Class := { plain "com/example/bare_container/barecontainer/bench/StartNamesModulesPinLaw" (some 0) with
  accessFlags := 49
  interfaces := #[]
  cf := some (fileOf pool1 21 #[] #[{ accessFlags := 1, nameIndex := 5, descriptorIndex := 6, attributes := #[] }, { accessFlags := 10, nameIndex := 24, descriptorIndex := 25, attributes := #[] }, { accessFlags := 9, nameIndex := 33, descriptorIndex := 34, attributes := #[] }] 49 2 #[] #[])
  fields := #[]
  methods := #[k1m0, k1m1, k1m2]
  instanceTypes := #[]
  staticTypes := #[]
  resolved := Array.replicate 41 none
  statics := none }

def pool2 : Array CpInfo := pool [(1, .class_ 2), (0, u "java/lang/constant/Constable"), (0, .class_ 4), (0, u "java/lang/Object")] 6

/-- java/lang/constant/Constable -/
def k2 : Class := { plain "java/lang/constant/Constable" (some 0) with
  accessFlags := 1537
  interfaces := #[]
  cf := some (fileOf pool2 1 #[] #[] 1537 3 #[] #[])
  fields := #[]
  methods := #[]
  instanceTypes := #[]
  staticTypes := #[]
  resolved := Array.replicate 11 none
  statics := none }

def pool3 : Array CpInfo := pool [(1, .class_ 2), (0, u "java/lang/Comparable"), (0, .class_ 4), (0, u "java/lang/Object")] 7

/-- java/lang/Comparable -/
def k3 : Class := { plain "java/lang/Comparable" (some 0) with
  accessFlags := 1537
  interfaces := #[]
  cf := some (fileOf pool3 1 #[] #[] 1537 3 #[] #[])
  fields := #[]
  methods := #[]
  instanceTypes := #[]
  staticTypes := #[]
  resolved := Array.replicate 12 none
  statics := none }

def pool4 : Array CpInfo := pool [(1, .class_ 2), (0, u "java/io/Serializable"), (0, .class_ 4), (0, u "java/lang/Object")] 2

/-- java/io/Serializable -/
def k4 : Class := { plain "java/io/Serializable" (some 0) with
  accessFlags := 1537
  interfaces := #[]
  cf := some (fileOf pool4 1 #[] #[] 1537 3 #[] #[])
  fields := #[]
  methods := #[]
  instanceTypes := #[]
  staticTypes := #[]
  resolved := Array.replicate 7 none
  statics := none }

def pool5 : Array CpInfo := pool [(2, .class_ 4), (1, u "java/lang/Enum"), (0, u "name"), (0, u "Ljava/lang/String;"), (2, u "ordinal"), (0, u "I"), (1, .class_ 14), (1, u "java/lang/Object"), (4, u "hash"), (86, .class_ 108), (1, u "java/lang/Enum$EnumDesc"), (2, .class_ 112), (0, u "java/lang/constant/Constable"), (0, .class_ 114), (0, u "java/lang/Comparable"), (0, .class_ 116), (0, u "java/io/Serializable")] 87

/-- java/lang/Enum -/
def k5 : Class := { plain "java/lang/Enum" (some 0) with
  accessFlags := 1057
  interfaces := #[2, 3, 4]
  cf := some (fileOf pool5 2 #[.nestMembers #[106]] #[] 1057 12 #[111, 113, 115] #[{ accessFlags := 18, nameIndex := 5, descriptorIndex := 6, attributes := #[] }, { accessFlags := 18, nameIndex := 9, descriptorIndex := 10, attributes := #[] }, { accessFlags := 2, nameIndex := 19, descriptorIndex := 10, attributes := #[] }])
  fields := #[{ name := "name", type := (.object "java/lang/String"), accessFlags := 18, slot := 0, constantValue := 0 }, { name := "ordinal", type := .int, accessFlags := 18, slot := 1, constantValue := 0 }, { name := "hash", type := .int, accessFlags := 2, slot := 2, constantValue := 0 }]
  methods := #[]
  instanceTypes := #[(.object "java/lang/String"), .int, .int]
  staticTypes := #[]
  resolved := Array.replicate 204 none
  statics := none }

def pool6 : Array CpInfo := pool [(1, .class_ 2), (0, u "com/example/bare_container/barecontainer/bench/Workload$Start"), (0, .fieldref 1 4), (0, .nameAndType 5 6), (0, u "NAMED"), (0, u "Lcom/example/bare_container/barecontainer/bench/Workload$Start;"), (2, u "SCANNED"), (2, u "SCANNED_AMONG_LIBRARIES"), (2, u "$VALUES"), (0, u "[Lcom/example/bare_container/barecontainer/bench/Workload$Start;"), (6, .class_ 25), (1, u "java/lang/Enum"), (21, u "namesModules"), (0, u "()Z"), (7, .class_ 57), (0, u "com/example/bare_container/barecontainer/bench/Workload")] 2

def k6c0 : Code := { maxStack := 2, maxLocals := 1, code := prog_25_method_4_code, exceptionTable := #[], attributes := #[] }
def k6m0 : Method := { name := "namesModules", desc := "()Z", sig := { parameters := [], returnType := some .boolean }, accessFlags := 1, code := some k6c0 }
/-- com/example/bare_container/barecontainer/bench/Workload$Start -/
def k6 : Class := { plain "com/example/bare_container/barecontainer/bench/Workload$Start" (some 5) with
  accessFlags := 16433
  interfaces := #[]
  cf := some (fileOf pool6 1 #[.nestHost 56] #[{ accessFlags := 1, nameIndex := 47, descriptorIndex := 48, attributes := #[] }] 16433 23 #[] #[{ accessFlags := 16409, nameIndex := 5, descriptorIndex := 6, attributes := #[] }, { accessFlags := 16409, nameIndex := 9, descriptorIndex := 6, attributes := #[] }, { accessFlags := 16409, nameIndex := 12, descriptorIndex := 6, attributes := #[] }, { accessFlags := 4122, nameIndex := 15, descriptorIndex := 16, attributes := #[] }])
  fields := #[{ name := "NAMED", type := (.object "com/example/bare_container/barecontainer/bench/Workload$Start"), accessFlags := 16409, slot := 0, constantValue := 0 }, { name := "SCANNED", type := (.object "com/example/bare_container/barecontainer/bench/Workload$Start"), accessFlags := 16409, slot := 1, constantValue := 0 }, { name := "SCANNED_AMONG_LIBRARIES", type := (.object "com/example/bare_container/barecontainer/bench/Workload$Start"), accessFlags := 16409, slot := 2, constantValue := 0 }, { name := "$VALUES", type := (.array (.object "com/example/bare_container/barecontainer/bench/Workload$Start")), accessFlags := 4122, slot := 3, constantValue := 0 }]
  methods := #[k6m0]
  instanceTypes := #[(.object "java/lang/String"), .int, .int]
  staticTypes := #[(.object "com/example/bare_container/barecontainer/bench/Workload$Start"), (.object "com/example/bare_container/barecontainer/bench/Workload$Start"), (.object "com/example/bare_container/barecontainer/bench/Workload$Start"), (.array (.object "com/example/bare_container/barecontainer/bench/Workload$Start"))]
  resolved := Array.replicate 60 none
  statics := some 0 }

def pool7 : Array CpInfo := pool [(1, u "java/lang/Cloneable"), (0, .class_ 1), (0, u "java/lang/Object"), (0, .class_ 3)] 3

/-- java/lang/Cloneable -/
def k7 : Class := { plain "java/lang/Cloneable" (some 0) with
  accessFlags := 1537
  interfaces := #[]
  cf := some (fileOf pool7 2 #[] #[] 1537 4 #[] #[])
  fields := #[]
  methods := #[]
  instanceTypes := #[]
  staticTypes := #[]
  resolved := Array.replicate 8 none
  statics := none }

/-- the primitive byte -/
def k8 : Class := { plain "byte" none with kind := .primitive 'B', accessFlags := 0x411 }
/-- [B -/
def k9 : Class := { plain "[B" (some 0) with kind := .array 8 .byte, interfaces := #[7, 4], accessFlags := 1041 }

/-- the primitive int -/
def k10 : Class := { plain "int" none with kind := .primitive 'I', accessFlags := 0x411 }
/-- [I -/
def k11 : Class := { plain "[I" (some 0) with kind := .array 10 .int, interfaces := #[7, 4], accessFlags := 1041 }

def heap : Heap := #[{ cls := 6, slots := #[.ref 1, .ref 3, .ref 2, .null], vm := .statics 6 },
  { cls := 6, slots := #[.null, .int 0, .int 0], vm := .none },
  { cls := 6, slots := #[.null, .int 2, .int 0], vm := .none },
  { cls := 6, slots := #[.null, .int 1, .int 0], vm := .none }]
def classes : Array Class := #[k0, k1, k2, k3, k4, k5, k6, k7, k8, k9, k10, k11]
def interned : List (Array UInt16 × Addr) := []
def slotsUsed : Nat := 13
def theMethod : MethodId := ⟨1, 2⟩
def args0 : Array Value := #[.int 5]
def aboutOver (below : List Frame) : State where
  vm := { classes := classes, interned := interned.toArray }
  heap := heap
  slotsUsed := slotsUsed
  threads := #[{ frames := .invoking theMethod args0 :: below }]
def below0 : List Frame := [.native { method := ⟨0, 0⟩, args := #[] }]
def about1 : State := aboutOver below0
def p0 : Program := .bare "" "" ""
def e0 : Env := launch0.env 0 0 0
theorem w_frames : about1.frames = Frame.invoking theMethod args0 :: below0 := rfl
set_option maxRecDepth 65536 in
theorem w_args : argsFit about1.vm theMethod args0 = true := by decide +kernel
set_option maxRecDepth 65536 in
theorem w_heap : heapFits about1 = true := by decide +kernel
set_option maxRecDepth 65536 in
theorem w_runnable : about1.curStatus? = some .runnable := by decide +kernel
set_option maxRecDepth 65536 in
theorem w_alone : about1.alone = true := by decide +kernel
set_option maxRecDepth 65536 in
theorem w_named : about1.methodNamed? x = some theMethod := by decide +kernel
set_option maxRecDepth 65536 in
theorem w_hears : about1.hears theMethod below0 = true := by decide +kernel
set_option maxRecDepth 65536 in
theorem w_ripe : about1.ripe theMethod args0 below0 = true := by decide +kernel
theorem w_running : about1.status = .running := rfl
set_option maxRecDepth 65536 in
theorem w_room : about1.hasRoom e0.platform room_1 = true :=
  launch0.hasRoom_least _ room_1 (by decide +kernel) (by decide +kernel) (by decide +kernel) (by decide +kernel) (by decide +kernel) (by decide +kernel)
theorem allAtoms_all (ts : List Jvm.Cond) (a : Array Jvm.Value) (st : Jvm.State) : (allAtoms ts).before a st = ts.all (fun c => c.before a st) := by
  induction ts with
  | nil => rfl
  | cons c t ih =>
    show (Jvm.Cond.and c (allAtoms t)).before a st = _
    rw [Jvm.Cond.before_and, ih, List.all_cons]
def words1 : List Jvm.Cond := Jvm.Cond.code x code maxLocals ret :: tables_1
/-- a 'code' word, met by the world's own term for the bytes: nothing is compared byte by byte -/
theorem code_word {y : MethodName} {bytes : ByteArray} {mx : Nat} {rt : Option FieldType} {a : Array Value} {s : State} {m : MethodId} {meth : Method} {c : Code} (h1 : s.methodNamed? y = some m) (h2 : s.vm.method? m = some meth) (h3 : meth.code = some c) (h4 : c.code = bytes)
    (h5 : (c.maxLocals == mx && c.exceptionTable.isEmpty && decide (c.maxStack ≤ mostOperands) && decide (meth.sig.returnType = rt) && !meth.locks && decide (parseMethodDescriptor y.desc = some meth.sig)) = true) : (Jvm.Cond.code y bytes mx rt).before a s = true := by
  simp only [Bool.and_eq_true, beq_iff_eq, Bool.not_eq_true', decide_eq_true_eq] at h5
  obtain ⟨⟨⟨⟨⟨g1, g2⟩, g3⟩, g4⟩, g5⟩, g6⟩ := h5
  simp [Cond.before, Cond.holds, Cond.value, h1, h2, h3, h4, g1, g2, g3, g4, g5, g6]
def isCode : Jvm.Cond → Bool
  | .code _ _ _ _ => true
  | _ => false
theorem all_split {L : List Jvm.Cond} {P : Jvm.Cond → Bool} (h1 : L.all (fun c => isCode c || P c) = true) (h2 : ∀ c ∈ L.filter isCode, P c = true) : L.all P = true := by
  refine List.all_eq_true.mpr fun c hc => ?_
  have h := List.all_eq_true.mp h1 c hc
  rcases Bool.eq_false_or_eq_true (isCode c) with hi | hi
  · exact h2 c (List.mem_filter.mpr ⟨hc, hi⟩)
  · simpa [hi] using h
set_option maxRecDepth 65536 in
theorem w_c0 : (Jvm.Cond.code x code maxLocals ret).before args0 about1 = true := code_word (m := ⟨1, 2⟩) (meth := k1m2) (c := k1c2) (by decide +kernel) rfl rfl rfl (by decide +kernel)
set_option maxRecDepth 65536 in
theorem w_c1 : (Jvm.Cond.code ({ cls := "com/example/bare_container/barecontainer/bench/StartNamesModulesPinLaw", name := "pick", desc := "(I)Lcom/example/bare_container/barecontainer/bench/Workload$Start;" } : Jvm.MethodName) method_2_code (1 : Nat) (Option.some (Jvm.ClassFile.FieldType.object "com/example/bare_container/barecontainer/bench/Workload$Start"))).before args0 about1 = true := code_word (m := ⟨1, 1⟩) (meth := k1m1) (c := k1c1) (by decide +kernel) rfl rfl rfl (by decide +kernel)
set_option maxRecDepth 65536 in
theorem w_c2 : (Jvm.Cond.code ({ cls := "com/example/bare_container/barecontainer/bench/Workload$Start", name := "namesModules", desc := "()Z" } : Jvm.MethodName) prog_25_method_4_code (1 : Nat) (Option.some Jvm.ClassFile.FieldType.boolean)).before args0 about1 = true := code_word (m := ⟨6, 0⟩) (meth := k6m0) (c := k6c0) (by decide +kernel) rfl rfl rfl (by decide +kernel)
def codes1 : List Jvm.Cond := [Jvm.Cond.code x code maxLocals ret, Jvm.Cond.code ({ cls := "com/example/bare_container/barecontainer/bench/StartNamesModulesPinLaw", name := "pick", desc := "(I)Lcom/example/bare_container/barecontainer/bench/Workload$Start;" } : Jvm.MethodName) method_2_code (1 : Nat) (Option.some (Jvm.ClassFile.FieldType.object "com/example/bare_container/barecontainer/bench/Workload$Start")), Jvm.Cond.code ({ cls := "com/example/bare_container/barecontainer/bench/Workload$Start", name := "namesModules", desc := "()Z" } : Jvm.MethodName) prog_25_method_4_code (1 : Nat) (Option.some Jvm.ClassFile.FieldType.boolean)]
set_option maxRecDepth 65536 in
theorem codes_eq : words1.filter isCode = codes1 := rfl
theorem w_codes : ∀ c ∈ words1.filter isCode, c.before args0 about1 = true := by
  rw [codes_eq]
  intro c hc
  simp only [codes1, List.mem_cons, List.not_mem_nil, or_false] at hc
  rcases hc with rfl | rfl | rfl
  · exact w_c0
  · exact w_c1
  · exact w_c2
set_option maxRecDepth 65536 in
theorem w_t1 : words1.all (fun c => isCode c || c.before args0 about1) = true := by decide +kernel
theorem w_tables : (allAtoms (Jvm.Cond.code x code maxLocals ret :: tables_1)).before args0 about1 = true := by
  rw [allAtoms_all]
  show words1.all (fun c => c.before args0 about1) = true
  refine all_split ?_ w_codes
  rw [w_t1]
set_option maxRecDepth 65536 in
theorem w_case : (Jvm.Cond.and given_1 narrow_1).before args0 about1 = true := by decide +kernel
theorem w_applies : (headSpec (Jvm.Cond.code x code maxLocals ret :: tables_1) room_1).applies x e0.platform about1 = true :=
  (Spec.applies_iff w_frames).mpr ⟨w_running, w_runnable, w_alone, w_named, w_hears, w_ripe, w_room, w_tables⟩
theorem atStart : AtStart classFile x code maxLocals ret World_1 tables_1 room_1 Calls_1 rest_1 Pre_1 launch0 p0 e0 about1 theMethod args0 below0 :=
  ⟨lists_1, trivial, launch0.admits_env _ _ _, launch0.least_env, fairChoices_fair.cas, fairChoices_fair.clock, w_frames, w_args, w_heap, w_applies, trivial, trivial, w_case⟩
end start1
theorem witness_1 : WitnessClaimed_1 := ⟨start1.p0, start1.e0, start1.about1, start1.theMethod, start1.args0, start1.below0, start1.atStart⟩
end Jvm.Pilot.@@N@@
