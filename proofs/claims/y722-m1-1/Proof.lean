import JvmDerived
import JvmDerived.Pilot.@@N@@Statement
import JvmDerived.Pilot.@@N@@Code
set_option linter.unusedVariables false
set_option linter.unusedSimpArgs false
@@BLOCK:NumsL.lean.txt@@
namespace Jvm.Pilot.@@N@@
open Jvm Jvm.ClassFile Sem Op Lib Jvm.Free Jvm.Stand Jvm.LawKit Jvm.RoadKit Bundle Jvm.Pilot.@@N@@.Jvm.D
theorem own_w {ws : List Jvm.Cond} {a0 : Array Value} {Z : State} (hw : ∀ d ∈ ws, d.before a0 Z = true) (i : Nat) {d : Jvm.Cond} (h : ws[i]? = some d) : d.before a0 Z = true := hw d (List.mem_of_getElem? h)
/-! the run from a frame comes to an end of which A holds: one walk a body, branches by cases -/
def own_Go (tb : Tables) (e : Env) (below : List Frame) (A : State → Prop) (T : State) (g : JFrame) : Prop := ∃ t, Steps tb e below (T.setTop g) t ∧ A t
theorem own_st {tb : Tables} {e : Env} {below : List Frame} {A : State → Prop} {T T1 : State} {g g1 : JFrame} (k : ∀ t, Steps tb e below (T1.setTop g1) t → Steps tb e below (T.setTop g) t) (h : own_Go tb e below A T1 g1) : own_Go tb e below A T g := by
  obtain ⟨t, a, b⟩ := h
  exact ⟨t, k t a, b⟩
def own_End (s : State) (below : List Frame) (Q : Option Value → Heap → List Loc → Prop) (k n : Nat) (t : State) : Prop := ∃ o, t.status = .running ∧ Ended t below o ∧ ∃ v L, o = .returned v ∧ Q v t.heap L ∧ FrameEnd s o t L k n
theorem own_open {tb : Tables} {e : Env} {below : List Frame} {s₁ s : State} {g g' : JFrame} {Q : Option Value → Heap → List Loc → Prop} {k n : Nat} (hg : g = g') (h : own_Go tb e below (own_End s below Q k n) s₁ g') : ∃ s₂ o, Steps tb e below (s₁.setTop g) s₂ ∧ s₂.status = .running ∧ Ended s₂ below o ∧ ∃ v L, o = .returned v ∧ Q v s₂.heap L ∧ FrameEnd s o s₂ L k n := by
  subst hg
  obtain ⟨t, a, o, b, c, d⟩ := h
  exact ⟨t, o, a, b, c, d⟩
theorem own_nar {t : FieldType} {w : Value} (hw : w.isRef = true) : narrow t w = w := by cases w <;> first | (cases t <;> rfl) | simp [Value.isRef] at hw
section OwnEnds
variable {p : Program} {l : Launch} {e : Env} {R : Room} {s : State} {m : MethodId} {args : Array Value} {below : List Frame} {meth : Method} {c : Code} {T : State} {locs : List Loc} {cells slots : Nat} {Q : Option Value → Heap → List Loc → Prop} {k n : Nat} {h : Heap}
theorem own_end (X : Stand p l e R s m args below meth c T locs cells slots) (hlk : meth.locks = false) (v : Option Value) (hv : meth.sig.returnType = none → v = none) (hk : cells ≤ k) (hn : slots ≤ n) (eT : T.heap = h) (hq : Q v h locs) {g : JFrame}
    (hs : ∀ fs, (∀ (f : JFrame) (acts : List Action), f.method = m → f.locked = none → f.entered = [] → (doReturn e (T.setTop f) acts v).1 = T.setFrames fs) → Steps p.tables e below (T.setTop g) (T.setFrames fs)) : own_Go p.tables e below (own_End s below Q k n) T g := by
  obtain ⟨fs, hr, hrun, hended, hW, hsame⟩ := X.leave (v := v) hv
  exact ⟨_, hs fs hr, _, hrun, hended, v, locs, rfl, (by show Q v T.heap locs; rw [eT]; exact hq), ⟨_, rfl⟩, hW, hsame.mono hk hn⟩
theorem own_retZ (X : Stand p l e R s m args below meth c T locs cells slots) (hx : p.tables.exec = Jvm.exec) (hlk : meth.locks = false) {pc : Nat} {Ls : Array Slot} {z : Int32} {rest : List Value} {t : FieldType} (hret : meth.sig.returnType = some t) (ht : t = .boolean ∨ t = .byte ∨ t = .char ∨ t = .short) (hd : decode c.code pc = .ok (.ireturn, 1)) (hk : cells ≤ k) (hn : slots ≤ n) (eT : T.heap = h) (hq : Q (some (.int (nar t z))) h locs) :
    own_Go p.tables e below (own_End s below Q k n) T (mkF m pc Ls (.int z :: rest)) :=
  own_end X hlk _ (fun q => by rw [hret] at q; cases q) hk hn eT hq (fun fs hr => retN X hx hret ht hd hr)
theorem own_retI (X : Stand p l e R s m args below meth c T locs cells slots) (hx : p.tables.exec = Jvm.exec) (hlk : meth.locks = false) {pc : Nat} {Ls : Array Slot} {z : Int32} {rest : List Value} (hret : meth.sig.returnType = some .int) (hd : decode c.code pc = .ok (.ireturn, 1)) (hk : cells ≤ k) (hn : slots ≤ n) (eT : T.heap = h) (hq : Q (some (.int z)) h locs) :
    own_Go p.tables e below (own_End s below Q k n) T (mkF m pc Ls (.int z :: rest)) :=
  own_end X hlk _ (fun q => by rw [hret] at q; cases q) hk hn eT hq (fun fs hr => retOut X hx hret rfl (Or.inl ⟨rfl, Or.inl rfl, z, rfl⟩) hd hr)
theorem own_retJ (X : Stand p l e R s m args below meth c T locs cells slots) (hx : p.tables.exec = Jvm.exec) (hlk : meth.locks = false) {pc : Nat} {Ls : Array Slot} {z : Int64} {rest : List Value} (hret : meth.sig.returnType = some .long) (hd : decode c.code pc = .ok (.lreturn, 1)) (hk : cells ≤ k) (hn : slots ≤ n) (eT : T.heap = h) (hq : Q (some (.long z)) h locs) :
    own_Go p.tables e below (own_End s below Q k n) T (mkF m pc Ls (.long z :: rest)) :=
  own_end X hlk _ (fun q => by rw [hret] at q; cases q) hk hn eT hq (fun fs hr => retOut X hx hret rfl (Or.inr (Or.inl ⟨rfl, rfl, z, rfl⟩)) hd hr)
theorem own_retA (X : Stand p l e R s m args below meth c T locs cells slots) (hx : p.tables.exec = Jvm.exec) (hlk : meth.locks = false) {pc : Nat} {Ls : Array Slot} {w : Value} {rest : List Value} {t : FieldType} (hret : meth.sig.returnType = some t) (ht : t.isReference = true) (hw : w.isRef = true) (hd : decode c.code pc = .ok (.areturn, 1)) (hk : cells ≤ k) (hn : slots ≤ n) (eT : T.heap = h) (hq : Q (some w) h locs) :
    own_Go p.tables e below (own_End s below Q k n) T (mkF m pc Ls (w :: rest)) :=
  own_end X hlk _ (fun q => by rw [hret] at q; cases q) hk hn eT hq (fun fs hr => retOut X hx hret (own_nar hw) (Or.inr (Or.inr (Or.inr (Or.inr ⟨rfl, ht, hw⟩)))) hd hr)
theorem own_retV (X : Stand p l e R s m args below meth c T locs cells slots) (hx : p.tables.exec = Jvm.exec) (hlk : meth.locks = false) {pc : Nat} {Ls : Array Slot} (hret : meth.sig.returnType = none) (hd : decode c.code pc = .ok (.return_, 1)) (hk : cells ≤ k) (hn : slots ≤ n) (eT : T.heap = h) (hq : Q none h locs) :
    own_Go p.tables e below (own_End s below Q k n) T (mkF m pc Ls []) :=
  own_end X hlk _ (fun _ => rfl) hk hn eT hq (fun fs hr => X.returnOut hx hret hd hr)
end OwnEnds
section OwnWords
variable {args : Array Value} {first s : State} {o : Option Outcome} {idx : List Nat} {a b : Jvm.Term}
theorem own_eqI {k : Int32} (h : (Jvm.Cond.eq a b).value args first o s idx = some true) (hb : b.eval args first o idx s = some (.int k)) : a.eval args first o idx s = some (.int k) := by
  cases ha : a.eval args first o idx s with
  | none => simp [Cond.value, ha] at h
  | some x => cases x <;> simp [Cond.value, ha, hb] at h ⊢; exact h
theorem own_eqR {y : Addr} (h : (Jvm.Cond.eq a b).value args first o s idx = some true) (hb : b.eval args first o idx s = some (.ref y)) : a.eval args first o idx s = some (.ref y) := by
  cases ha : a.eval args first o idx s with
  | none => simp [Cond.value, ha] at h
  | some x => cases x <;> simp [Cond.value, ha, hb] at h ⊢; exact h
end OwnWords
theorem own_nei {i j : Int32} (h : i ≠ j) : Value.int i ≠ Value.int j := fun q => h (Value.int.inj q)
theorem own_plE {Z : State} {h : Heap} {a : Addr} {C : String} (F : Exa Z h a C) : ∃ c : Cell, h[a]? = some c ∧ c.vm.isStatics = false := by
  obtain ⟨c, -, h1, -, -, h2, -⟩ := F
  exact ⟨c, h1, h2⟩
theorem own_plV {Z : State} {h : Heap} {a : Addr} {k : ClassId} {ty : FieldType} {n : Int32} {vs : List Value} {d : Value} (F : Arv Z h a k ty n vs d) : ∃ c : Cell, h[a]? = some c ∧ c.vm.isStatics = false := by
  obtain ⟨c, A, -⟩ := F
  exact ⟨c, A.1, A.plain⟩
theorem own_stak {Z : State} {h h' : Heap} {C n d : String} {v : Value} {ws : List Addr} (F : Sta Z h C n d v) (K : Keep h h' ws) (q : ∀ x ∈ ws, ∃ c : Cell, h[x]? = some c ∧ c.vm.isStatics = false) : Sta Z h' C n d v := by
  obtain ⟨cf, i, k, f, st, cell, h1, h2, h3, h4, h5, h6, h7⟩ := F
  refine ⟨cf, i, k, f, st, cell, h1, h2, h3, h4, K.2.1 _ _ h5 (fun m => ?_), h6, h7⟩
  obtain ⟨c, e1, e2⟩ := q _ m
  cases h5.symm.trans e1
  rw [h6] at e2; cases e2
theorem own_nev {Z : State} {h : Heap} {a b : Addr} {C : String} {k : ClassId} {ty : FieldType} {n : Int32} {vs : List Value} {d : Value} {a0 : Array Value} {kk : Nat} (F : Exa Z h a C) (wi : (Jvm.Cond.instantiable C kk).before a0 Z = true) (G : Arv Z h b k ty n vs d) : a ≠ b := by
  obtain ⟨c, A, -⟩ := G
  exact ne_arr F wi A
section OwnArrays
variable {p : Program} {l : Launch} {e : Env} {R : Room} {s : State} {m : MethodId} {args : Array Value} {below : List Frame} {meth : Method} {c : Code} {T : State} {locs : List Loc} {cells slots : Nat} {Z : State} {h : Heap} {a : Addr} {k : ClassId} {ty : FieldType} {n j : Int32} {vs : List Value} {d v : Value} {rest : List Value}
theorem own_aaload (X : Stand p l e R s m args below meth c T locs cells slots) (hx : p.tables.exec = Jvm.exec) (hZ : Z.Warmed39 s.vm) (eT : T.heap = h) (F : Arv Z h a k ty n vs d) (hty : ty.isReference = true) (hj : ¬ j < 0 ∧ j < n) (hv : vs.getD j.toNatClampNeg d = v) {g : JFrame} (hg : g.method = m) (hs : g.stack = .int j :: .ref a :: rest) (hd : decode c.code g.pc = .ok (.aaload, 1)) :
    ∀ target, Steps p.tables e below (T.setTop { g with pc := g.pc + 1, stack := v :: rest }) target → Steps p.tables e below (T.setTop g) target := by
  obtain ⟨cl, A, -, S, -, H, -⟩ := F
  exact X.aaload hx (by rw [eT]; exact A.1) (State.isArrayOf_alike hZ.alike A.2.1) hty A.2.2 (inb_of S hj) (H.at (inb_of S hj) hv) hg hs hd
theorem own_iaload (X : Stand p l e R s m args below meth c T locs cells slots) (hx : p.tables.exec = Jvm.exec) (hZ : Z.Warmed39 s.vm) (eT : T.heap = h) (F : Arv Z h a k .int n vs d) (hj : ¬ j < 0 ∧ j < n) (hv : vs.getD j.toNatClampNeg d = v) {g : JFrame} (hg : g.method = m) (hs : g.stack = .int j :: .ref a :: rest) (hd : decode c.code g.pc = .ok (.iaload, 1)) :
    ∀ target, Steps p.tables e below (T.setTop { g with pc := g.pc + 1, stack := v :: rest }) target → Steps p.tables e below (T.setTop g) target := by
  obtain ⟨cl, A, -, S, -, H, -⟩ := F
  exact X.iaload hx (by rw [eT]; exact A.1) (State.isArrayOf_alike hZ.alike A.2.1) A.2.2 (inb_of S hj) (H.at (inb_of S hj) hv) hg hs hd
theorem own_laload (X : Stand p l e R s m args below meth c T locs cells slots) (hx : p.tables.exec = Jvm.exec) (hZ : Z.Warmed39 s.vm) (eT : T.heap = h) (F : Arv Z h a k .long n vs d) (hj : ¬ j < 0 ∧ j < n) (hv : vs.getD j.toNatClampNeg d = v) {g : JFrame} (hg : g.method = m) (hs : g.stack = .int j :: .ref a :: rest) (hd : decode c.code g.pc = .ok (.laload, 1)) :
    ∀ target, Steps p.tables e below (T.setTop { g with pc := g.pc + 1, stack := v :: rest }) target → Steps p.tables e below (T.setTop g) target := by
  obtain ⟨cl, A, -, S, -, H, -⟩ := F
  exact X.laload hx (by rw [eT]; exact A.1) (State.isArrayOf_alike hZ.alike A.2.1) A.2.2 (inb_of S hj) (H.at (inb_of S hj) hv) hg hs hd
theorem own_baloadB (X : Stand p l e R s m args below meth c T locs cells slots) (hx : p.tables.exec = Jvm.exec) (hZ : Z.Warmed39 s.vm) (eT : T.heap = h) (F : Arv Z h a k .byte n vs d) (hj : ¬ j < 0 ∧ j < n) (hv : vs.getD j.toNatClampNeg d = v) {g : JFrame} (hg : g.method = m) (hs : g.stack = .int j :: .ref a :: rest) (hd : decode c.code g.pc = .ok (.baload, 1)) :
    ∀ target, Steps p.tables e below (T.setTop { g with pc := g.pc + 1, stack := v :: rest }) target → Steps p.tables e below (T.setTop g) target := by
  obtain ⟨cl, A, -, S, -, H, -⟩ := F
  exact X.baloadBytes hx (by rw [eT]; exact A.1) (State.isArrayOf_alike hZ.alike A.2.1) A.2.2 (inb_of S hj) (H.at (inb_of S hj) hv) hg hs hd
theorem own_baloadZ (X : Stand p l e R s m args below meth c T locs cells slots) (hx : p.tables.exec = Jvm.exec) (hZ : Z.Warmed39 s.vm) (eT : T.heap = h) (F : Arv Z h a k .boolean n vs d) (hj : ¬ j < 0 ∧ j < n) (hv : vs.getD j.toNatClampNeg d = v) {g : JFrame} (hg : g.method = m) (hs : g.stack = .int j :: .ref a :: rest) (hd : decode c.code g.pc = .ok (.baload, 1)) :
    ∀ target, Steps p.tables e below (T.setTop { g with pc := g.pc + 1, stack := v :: rest }) target → Steps p.tables e below (T.setTop g) target := by
  obtain ⟨cl, A, -, S, -, H, -⟩ := F
  exact X.baloadBooleans hx (by rw [eT]; exact A.1) (State.isArrayOf_alike hZ.alike A.2.1) A.2.2 (inb_of S hj) (H.at (inb_of S hj) hv) hg hs hd
theorem own_alen (X : Stand p l e R s m args below meth c T locs cells slots) (hx : p.tables.exec = Jvm.exec) (hZ : Z.Warmed39 s.vm) (eT : T.heap = h) (F : Arv Z h a k ty n vs d) {g : JFrame} (hg : g.method = m) (hs : g.stack = .ref a :: rest) (hd : decode c.code g.pc = .ok (.arraylength, 1)) :
    ∀ target, Steps p.tables e below (T.setTop { g with pc := g.pc + 1, stack := .int n :: rest }) target → Steps p.tables e below (T.setTop g) target := by
  obtain ⟨cl, A, -, S, N, -, -⟩ := F
  have q := X.arraylength hx (by rw [eT]; exact A.1) (State.isArrayOf_alike hZ.alike A.2.1) hg hs hd
  rw [len_of S N] at q
  exact q
end OwnArrays
theorem own_psel {Z s : State} {a0 args : Array Value} {y : MethodName} {n : Nat} (hZ : Z.Warmed39 s.vm) (wi : (Jvm.Cond.instantiable y.cls n).before a0 Z = true) (wp : (Jvm.Cond.privateMethod y).before a0 Z = true) (wm : (Jvm.Cond.instanceMethod y).before a0 Z = true) (hy : y.cls ≠ "java/lang/invoke/MethodHandle" ∧ y.cls ≠ "java/lang/invoke/VarHandle") : (Jvm.Cond.selects y.cls y y).before args s = true := by
  have wi' : (Jvm.Cond.instantiable y.cls n).before args s = true := mvT hZ wi
  obtain ⟨c2, k2, i1, i2, -, i4, -⟩ := Cond.instantiable_spec wi'
  simp only [Bool.or_eq_false_iff] at i4
  exact selects_self_of_private i1 i2 i4.1 (Cond.privateMethod_at (mvP hZ wp (args := args))) (mvT hZ wm) hy
section OwnMore
variable {args : Array Value} {s : State} {t u : Jvm.Term} {x y : Addr} {cl : Cell} {ty : FieldType} {n j : Int32}
theorem own_len (h : (Jvm.Cond.eq (Jvm.Term.length t) (Jvm.Term.int n)).value args s none s [] = some true) (ht : t.eval args s none [] s = some (.ref x)) (A : Jvm.RoadKit.Arr s s.heap x cl ty) : cl.slots.size < 2 ^ 31 ∧ cl.slots.size.toInt32 = n := by
  have e := own_eqI h (Term.int_eval _)
  have ha : s.arrayAt? x = some cl := A.fin (Vm.Alike.refl _)
  by_cases hl : cl.slots.size < 2 ^ 31
  · refine ⟨hl, ?_⟩
    rw [len_f ht ha hl] at e
    exact Value.int.inj (Option.some.inj e)
  · simp [Term.eval, ht, ha, hl] at e
theorem own_elem (h : (Jvm.Cond.eq (Jvm.Term.elem t (Jvm.Term.int j)) u).value args s none s [] = some true) (hu : u.eval args s none [] s = some (.ref y)) (ht : t.eval args s none [] s = some (.ref x)) (A : Jvm.RoadKit.Arr s s.heap x cl ty) : cl.slots[j.toNatClampNeg]? = some (.ref y) :=
  (elem_in (own_eqR h hu) ht (Term.int_eval _) A.1).2
end OwnMore
theorem own_sto {Z : State} {h : Heap} {a y : Addr} {k : ClassId} {ty : FieldType} {n : Int32} {vs : List Value} {d : Value} {C : String} (F : Arv Z h a k ty n vs d) (O : Ovr Z k C) (I : Ins Z h y C true) : Sto Z h a (.ref y) := by
  obtain ⟨c, A, q, -⟩ := F
  exact Sto.ofV A q O I
theorem own_cp0 {p : Program} {l : Launch} {e : Env} {R : Room} {s : State} {m : MethodId} {args : Array Value} {below : List Frame} {meth : Method} {c : Code} {T : State} {locs : List Loc} {cells slots : Nat} {Z : State} {h : Heap} {a b : Addr} {k k' : ClassId} {ty ty' : FieldType} {z z' : Int32} {vs vd : List Value} {dv dd : Value}
    (X : Stand p l e R s m args below meth c T locs cells slots) (hx : p.tables.exec = Jvm.exec) (hZ : Z.Warmed39 s.vm) {a0 : Array Value} {own : String} {index : Nat} (hown : s.vm.findClass own = some m.cls)
    (w1 : (Jvm.Cond.methodLink own index Jvm.Stand.acN).before a0 Z = true) (w2 : (Jvm.Cond.native Jvm.Stand.acN).before a0 Z = true) (w3 : (Jvm.Cond.static Jvm.Stand.acN).before a0 Z = true) (w4 : (Jvm.Cond.initialized "java/lang/System").before a0 Z = true) (eT : T.heap = h)
    {sp dp nn : Int32} (A : Arv Z h a k ty z vs dv) (B : Arv Z h b k' ty' z' vd dd) (h0 : nn = 0) (hty : (ty = ty' ∧ refKind ty = false) ∨ (refKind ty = true ∧ refKind ty' = true))
    (h1 : ¬ sp < 0) (h2 : ¬ dp < 0) (h4 : sp.toNatClampNeg ≤ z.toNatClampNeg) (h5 : dp.toNatClampNeg ≤ z'.toNatClampNeg)
    {g : JFrame} (hg : g.method = m) (hsize : g.locals.size = c.maxLocals) {rest : List Value} (hs : g.stack = .int nn :: .int dp :: .ref b :: .int sp :: .ref a :: rest) (hd : decode c.code g.pc = .ok (.invokestatic index, 3))
    (hf : 1 ≤ R.frames) {W : Nat} (hW : 2 * g.monitorRoom + (rest.map fun v => v.category).sum ≤ W) (hlo : W + (nativeFrameWords "java/lang/System" "arraycopy" 5 + 11) ≤ R.locals) :
    ∃ T', Stand p l e R s m args below meth c T' locs cells slots ∧ T'.heap = h ∧ ∀ target, Steps p.tables e below (T'.setTop { g with pc := g.pc + 3, stack := rest }) target → Steps p.tables e below (T.setTop g) target := by
  subst h0
  obtain ⟨cs, As, -, Ss, -, Hs, Gs⟩ := A
  obtain ⟨cd, Ad, qd, Sd, Nd, Hd, Gd⟩ := B
  obtain ⟨os, ks, hks, sc, hsk⟩ := State.isArrayOf_alike hZ.alike As.2.1
  obtain ⟨od, kd, hkd, dc, hdk⟩ := State.isArrayOf_alike hZ.alike Ad.2.1
  have nat : ∀ {x : Int32}, ¬ x < 0 → x.toInt = x.toNatClampNeg := fun {x} q => by
    rw [Int32.lt_iff_toInt_lt] at q; have : (0 : Int32).toInt = 0 := rfl
    simp only [Int32.toNatClampNeg]; omega
  have z0 : (0 : Int32).toInt = 0 := rfl
  obtain ⟨vm₁, hW₁, X', st⟩ := X.arraycopyK (srcPos := sp) (destPos := dp) (n := 0) hx hown (mvT hZ w1) (mvT hZ w2) (mvT hZ w3) (mvT hZ w4) (by rw [eT]; exact As.1) (by rw [eT]; exact Ad.1) os od As.2.2 Ad.2.2 hks hkd hsk hdk
    (by rcases hty with ⟨rfl, r⟩ | ⟨r1, r2⟩; simp [r]; simp [r1, r2]) h1 h2 (by decide) (by rw [nat h1, z0, Ss]; omega) (by rw [nat h2, z0, Sd]; omega) (fun vm₁ hw i hi => absurd hi (Nat.not_lt_zero i)) hg hsize hs hd hf (by omega)
  have ec : copied cs cd sp dp 0 = cd := rfl
  have el : locs ++ copyLocs b dp.toNatClampNeg (0 : Int32).toNatClampNeg = locs := List.append_nil _
  rw [ec] at X' st
  rw [el] at X'
  refine ⟨_, X', ?_, st⟩
  show T.heap.setIfInBounds b cd = h
  rw [eT]
  have hb : b < h.size := Ad.lt
  have hg2 := Ad.1
  apply Array.ext_getElem?
  intro i
  by_cases hi : b = i
  · subst hi; rw [Array.getElem?_setIfInBounds_self_of_lt hb, hg2]
  · rw [Array.getElem?_setIfInBounds_ne hi]
theorem own_nb (x : Int32) : nar .byte (x.toInt8.toInt32) = x.toInt8.toInt32 := by simp [nar]
theorem own_clone {p : Program} {l : Launch} {e : Env} {R : Room} {s : State} {m : MethodId} {args : Array Value} {below : List Frame} {meth : Method} {c : Code} {T : State} {locs : List Loc} {cells slots : Nat} {Z : State} {h : Heap} {a : Addr} {ty : FieldType}
    (X : Stand p l e R s m args below meth c T locs cells slots) (hx : p.tables.exec = Jvm.exec) (hZ : Z.Warmed39 s.vm) {a0 : Array Value} {own ad : String} {index : Nat} (hown : s.vm.findClass own = some m.cls)
    (w1 : (Jvm.Cond.methodLink own index ⟨ad, "clone", "()Ljava/lang/Object;"⟩).before a0 Z = true) (w2 : (Jvm.Cond.sameMethod ad "java/lang/Object" "clone" "()Ljava/lang/Object;").before a0 Z = true) (w3 : (Jvm.Cond.native ⟨"java/lang/Object", "clone", "()Ljava/lang/Object;"⟩).before a0 Z = true)
    (w4 : (Jvm.Cond.instanceMethod ⟨"java/lang/Object", "clone", "()Ljava/lang/Object;"⟩).before a0 Z = true) (w5 : (Jvm.Cond.selects ad ⟨ad, "clone", "()Ljava/lang/Object;"⟩ ⟨"java/lang/Object", "clone", "()Ljava/lang/Object;"⟩).before a0 Z = true) (w6 : (Jvm.Cond.castable ad "java/lang/Cloneable").before a0 Z = true)
    (eT : T.heap = h) {k : ClassId} {z : Int32} {vs : List Value} {dv : Value} (F : Arv Z h a k ty z vs dv) (E : Exa Z h a ad) {g : JFrame} (hg : g.method = m) (hsize : g.locals.size = c.maxLocals) {rest : List Value} (hst : g.stack = .ref a :: rest) (hd : decode c.code g.pc = .ok (.invokevirtual index, 3))
    (hf : 1 ≤ R.frames) {W cap : Nat} (hW : 2 * g.monitorRoom + (rest.map fun v => v.category).sum ≤ W) (hl : W + 14 ≤ R.locals) (hcap : z.toNatClampNeg ≤ cap) (hc : cells + 1 ≤ R.cells) (hsl : slots + cap ≤ R.slots) :
    ∃ T' h', Stand p l e R s m args below meth c T' locs (cells + 1) (slots + cap) ∧ T'.heap = h' ∧ Ext h h' ∧ Arv Z h' h.size k ty z vs dv ∧ Exa Z h' h.size ad ∧
      ∀ target, Steps p.tables e below (T'.setTop { g with pc := g.pc + 3, stack := .ref h.size :: rest }) target → Steps p.tables e below (T.setTop g) target := by
  obtain ⟨cl, A, q1, S, q3, H, G⟩ := F
  have FC : FitC Z cl := fitC_of A fun i hi v hv => by rw [H i hi] at hv; cases hv; exact G i hi
  obtain ⟨T', h', X', e', ex, A', E', st⟩ := cloneA X hx hZ hown w1 w2 w3 w4 w5 w6 eT A E FC hg hsize hst hd hf hW hl (by rw [S]; exact hcap) hc hsl
  exact ⟨T', h', X', e', ex, ⟨cloneOf cl, A', q1, S, q3, H, G⟩, E', st⟩
theorem own_rem0 (x : Int32) : (x &&& (2147483647 : Int32)) % (7 : Int32) = (0 : Int32) ∨ (x &&& (2147483647 : Int32)) % (7 : Int32) = (1 : Int32) ∨ (x &&& (2147483647 : Int32)) % (7 : Int32) = (2 : Int32) ∨ (x &&& (2147483647 : Int32)) % (7 : Int32) = (3 : Int32) ∨ (x &&& (2147483647 : Int32)) % (7 : Int32) = (4 : Int32) ∨ (x &&& (2147483647 : Int32)) % (7 : Int32) = (5 : Int32) ∨ (x &&& (2147483647 : Int32)) % (7 : Int32) = (6 : Int32) := by
  have e1 : (x &&& (2147483647 : Int32)).toInt = x.toInt % 2 ^ 31 := Jvm.Kit.i32_mask x 2147483647 (k := 31) (by decide) (by decide)
  have e2 : ((x &&& (2147483647 : Int32)) % (7 : Int32)).toInt = (x &&& (2147483647 : Int32)).toInt % (7 : Int32).toInt := Jvm.Kit.i32_rem_nonneg (by omega)
  have e3 : (7 : Int32).toInt = 7 := rfl
  rw [e3] at e2
  have z0 : (0 : Int32).toInt = 0 := rfl
  have z1 : (1 : Int32).toInt = 1 := rfl
  have z2 : (2 : Int32).toInt = 2 := rfl
  have z3 : (3 : Int32).toInt = 3 := rfl
  have z4 : (4 : Int32).toInt = 4 := rfl
  have z5 : (5 : Int32).toInt = 5 := rfl
  have z6 : (6 : Int32).toInt = 6 := rfl
  simp only [← Int32.toInt_inj]
  omega
theorem own_d1_0 : decode prog_10_method_8_code 0 = .ok (.aload_n 0, 1) := by decide +kernel
theorem own_d1_1 : decode prog_10_method_8_code 1 = .ok (.getstatic 13, 3) := by decide +kernel
theorem own_d1_4 : decode prog_10_method_8_code 4 = .ok (.if_acmp .eq 24, 3) := by decide +kernel
theorem own_d1_7 : decode prog_10_method_8_code 7 = .ok (.aload_n 0, 1) := by decide +kernel
theorem own_d1_8 : decode prog_10_method_8_code 8 = .ok (.getstatic 16, 3) := by decide +kernel
theorem own_d1_11 : decode prog_10_method_8_code 11 = .ok (.if_acmp .eq 17, 3) := by decide +kernel
theorem own_d1_14 : decode prog_10_method_8_code 14 = .ok (.aload_n 0, 1) := by decide +kernel
theorem own_d1_15 : decode prog_10_method_8_code 15 = .ok (.getstatic 19, 3) := by decide +kernel
theorem own_d1_18 : decode prog_10_method_8_code 18 = .ok (.if_acmp .eq 10, 3) := by decide +kernel
theorem own_d1_21 : decode prog_10_method_8_code 21 = .ok (.aload_n 0, 1) := by decide +kernel
theorem own_d1_22 : decode prog_10_method_8_code 22 = .ok (.getstatic 22, 3) := by decide +kernel
theorem own_d1_25 : decode prog_10_method_8_code 25 = .ok (.if_acmp .ne 7, 3) := by decide +kernel
theorem own_d1_28 : decode prog_10_method_8_code 28 = .ok (.iconst 1, 1) := by decide +kernel
theorem own_d1_29 : decode prog_10_method_8_code 29 = .ok (.goto 4, 3) := by decide +kernel
theorem own_d1_32 : decode prog_10_method_8_code 32 = .ok (.iconst 0, 1) := by decide +kernel
theorem own_d1_33 : decode prog_10_method_8_code 33 = .ok (.ireturn, 1) := by decide +kernel
theorem own_ef1 (m : MethodId) (x0 : Addr) : entryFrame m #[(.ref x0)] 1 = mkF m 0 #[.val (.ref x0)] [] := by first | (simp [entryFrame, mkF, argsToLocals, Value.category]; done) | rfl
theorem own_pn0 : plainName "com/example/ready_hands/readyhands/coordinator/JobState" = true := by first | (simp [plainName, overriddenIn]; done) | decide +kernel
def own_Q1 (rp0 : Addr) (w_SUCCEEDED : Addr) (w_FAILED : Addr) (w_DEP_FAILED : Addr) (w_CANCELLED : Addr) (h0 : Heap) (n0 : Nat) (v : Option Value) (h : Heap) (L : List Loc) : Prop := Fr n0 L ∧ h = h0 ∧ ((v = some (.int (1 : Int32)) ∧ (rp0 = w_SUCCEEDED) ∧ True) ∨ (v = some (.int (1 : Int32)) ∧ (¬ (rp0 = w_SUCCEEDED)) ∧ (rp0 = w_FAILED) ∧ True) ∨ (v = some (.int (1 : Int32)) ∧ (¬ (rp0 = w_SUCCEEDED)) ∧ (¬ (rp0 = w_FAILED)) ∧ (rp0 = w_DEP_FAILED) ∧ True) ∨ (v = some (.int (1 : Int32)) ∧ (¬ (rp0 = w_SUCCEEDED)) ∧ (¬ (rp0 = w_FAILED)) ∧ (¬ (rp0 = w_DEP_FAILED)) ∧ (rp0 = w_CANCELLED) ∧ True) ∨ (v = some (.int (0 : Int32)) ∧ (¬ (rp0 = w_SUCCEEDED)) ∧ (¬ (rp0 = w_FAILED)) ∧ (¬ (rp0 = w_DEP_FAILED)) ∧ (¬ (rp0 = w_CANCELLED)) ∧ True))
set_option maxRecDepth 65536 in
set_option maxHeartbeats 40000000 in
theorem own_rm1 (l : Launch) (Z : State) (a0 : Array Value) (hw : ∀ d ∈ tables_1, d.before a0 Z = true) (ws : List Jvm.Cond) (rp0 : Addr) (w_SUCCEEDED : Addr) (w_FAILED : Addr) (w_DEP_FAILED : Addr) (w_CANCELLED : Addr) (h0 : Heap) (n0 : Nat) (Z0 : n0 ≤ h0.size) (S_SUCCEEDED : Sta Z h0 "com/example/ready_hands/readyhands/coordinator/JobState" "SUCCEEDED" "Lcom/example/ready_hands/readyhands/coordinator/JobState;" (.ref w_SUCCEEDED)) (S_FAILED : Sta Z h0 "com/example/ready_hands/readyhands/coordinator/JobState" "FAILED" "Lcom/example/ready_hands/readyhands/coordinator/JobState;" (.ref w_FAILED)) (S_DEP_FAILED : Sta Z h0 "com/example/ready_hands/readyhands/coordinator/JobState" "DEP_FAILED" "Lcom/example/ready_hands/readyhands/coordinator/JobState;" (.ref w_DEP_FAILED)) (S_CANCELLED : Sta Z h0 "com/example/ready_hands/readyhands/coordinator/JobState" "CANCELLED" "Lcom/example/ready_hands/readyhands/coordinator/JobState;" (.ref w_CANCELLED)) :
    MetFree l (⟨"com/example/ready_hands/readyhands/coordinator/JobState", "hasEnded", "()Z"⟩ : MethodName) (head1 (Jvm.Cond.code (⟨"com/example/ready_hands/readyhands/coordinator/JobState", "hasEnded", "()Z"⟩ : MethodName) prog_10_method_8_code 1 (some .boolean) :: ws) ({ frames := 0, cells := 0, slots := 0, locals := 0 } : Room)) (fun a U => a = #[(.ref rp0)] ∧ Z.Warmed39 U.vm ∧ U.heap = h0) (fun _ _ _ _ _ => True) (fun _ U o U' => ∃ v L, o = .returned v ∧ own_Q1 rp0 w_SUCCEEDED w_FAILED w_DEP_FAILED w_CANCELLED h0 n0 v U'.heap L ∧ FrameEnd U o U' L ({ frames := 0, cells := 0, slots := 0, locals := 0 } : Room).cells ({ frames := 0, cells := 0, slots := 0, locals := 0 } : Room).slots) := by
  refine MetFree.of_bodySF (plainFor_of_name own_pn0) hisR ?_
  intro p e s m args below meth c s₁ Bd hml0 hP hK
  obtain ⟨rfl, hZ, hh⟩ := hP
  have hx := Bd.exec
  have hlk := Bd.notSynchronized
  have hret := Bd.returns
  have hby := Bd.bytes
  have hml : c.maxLocals = 1 := hml0
  have hown : s.vm.findClass "com/example/ready_hands/readyhands/coordinator/JobState" = some m.cls := findClass_of_methodNamed Bd.named
  have hnm := (name_of_methodNamed Bd.named Bd.method).1
  have X0 : Stand p l e ({ frames := 0, cells := 0, slots := 0, locals := 0 } : Room) s m #[(.ref rp0)] below meth c s₁ [] 0 0 := Stand.of_body Bd
  have e0 : s₁.heap = h0 := by rw [← hh, Bd.state]; rfl
  have N0 := Fr.nil n0
  refine own_open (Q := own_Q1 rp0 w_SUCCEEDED w_FAILED w_DEP_FAILED w_CANCELLED h0 n0) (own_ef1 m rp0) ?_
  show own_Go _ _ _ _ s₁ (mkF m 0 #[.val (.ref rp0)] [])
  refine own_st (fun t k => XS.aloadN X0.here hx rfl (hb hby own_d1_0) rfl rfl k) ?_
  show own_Go _ _ _ _ s₁ (mkF m 1 #[.val (.ref rp0)] [(.ref rp0)])
  obtain ⟨T1, X1, e1, st1⟩ := getS2 X0 hx hZ hown (host := "") (Or.inl (own_w hw 9 rfl)) Via.refl e0 S_SUCCEEDED (g := (mkF m 1 #[.val (.ref rp0)] [(.ref rp0)])) rfl (hb hby own_d1_1)
  refine own_st st1 ?_
  show own_Go _ _ _ _ T1 (mkF m 4 #[.val (.ref rp0)] [(.ref w_SUCCEEDED), (.ref rp0)])
  by_cases hc2 : rp0 = w_SUCCEEDED
  · skip
    refine own_st (fun t k => Jvm.RoadKit.acmp (g := (mkF m 4 #[.val (.ref rp0)] [(.ref w_SUCCEEDED), (.ref rp0)])) X1 hx rfl rfl rfl (pc0 := 4) (pc' := 28) (same := true) rfl (hb hby own_d1_4) rfl (decide_eq_true (congrArg Value.ref hc2)) (by decide) (by decide) k) ?_
    show own_Go _ _ _ _ T1 (mkF m 28 #[.val (.ref rp0)] [])
    refine own_st (fun t k => XS.iconst X1.here hx rfl (hb hby own_d1_28) k) ?_
    show own_Go _ _ _ _ T1 (mkF m 29 #[.val (.ref rp0)] [(.int (1 : Int32))])
    refine own_st (fun t k => XS.goto X1.here hx rfl (pc0 := 29) (pc' := 33) rfl (hb hby own_d1_29) (by decide) (by decide) k) ?_
    show own_Go _ _ _ _ T1 (mkF m 33 #[.val (.ref rp0)] [(.int (1 : Int32))])
    exact own_retZ X1 hx hlk (t := .boolean) hret (by simp) (hb hby own_d1_33) (by decide) (by decide) e1 ⟨N0, rfl, (Or.inl ⟨rfl, hc2, trivial⟩)⟩
  · skip
    refine own_st (fun t k => Jvm.RoadKit.acmp (g := (mkF m 4 #[.val (.ref rp0)] [(.ref w_SUCCEEDED), (.ref rp0)])) X1 hx rfl rfl rfl (pc0 := 4) (pc' := 7) (same := false) rfl (hb hby own_d1_4) rfl (decide_eq_false fun q => hc2 (Value.ref.inj q)) (by decide) (by decide) k) ?_
    show own_Go _ _ _ _ T1 (mkF m 7 #[.val (.ref rp0)] [])
    refine own_st (fun t k => XS.aloadN X1.here hx rfl (hb hby own_d1_7) rfl rfl k) ?_
    show own_Go _ _ _ _ T1 (mkF m 8 #[.val (.ref rp0)] [(.ref rp0)])
    obtain ⟨T3, X3, e3, st3⟩ := getS2 X1 hx hZ hown (host := "") (Or.inl (own_w hw 11 rfl)) Via.refl e1 S_FAILED (g := (mkF m 8 #[.val (.ref rp0)] [(.ref rp0)])) rfl (hb hby own_d1_8)
    refine own_st st3 ?_
    show own_Go _ _ _ _ T3 (mkF m 11 #[.val (.ref rp0)] [(.ref w_FAILED), (.ref rp0)])
    by_cases hc4 : rp0 = w_FAILED
    · skip
      refine own_st (fun t k => Jvm.RoadKit.acmp (g := (mkF m 11 #[.val (.ref rp0)] [(.ref w_FAILED), (.ref rp0)])) X3 hx rfl rfl rfl (pc0 := 11) (pc' := 28) (same := true) rfl (hb hby own_d1_11) rfl (decide_eq_true (congrArg Value.ref hc4)) (by decide) (by decide) k) ?_
      show own_Go _ _ _ _ T3 (mkF m 28 #[.val (.ref rp0)] [])
      refine own_st (fun t k => XS.iconst X3.here hx rfl (hb hby own_d1_28) k) ?_
      show own_Go _ _ _ _ T3 (mkF m 29 #[.val (.ref rp0)] [(.int (1 : Int32))])
      refine own_st (fun t k => XS.goto X3.here hx rfl (pc0 := 29) (pc' := 33) rfl (hb hby own_d1_29) (by decide) (by decide) k) ?_
      show own_Go _ _ _ _ T3 (mkF m 33 #[.val (.ref rp0)] [(.int (1 : Int32))])
      exact own_retZ X3 hx hlk (t := .boolean) hret (by simp) (hb hby own_d1_33) (by decide) (by decide) e3 ⟨N0, rfl, (Or.inr (Or.inl ⟨rfl, hc2, hc4, trivial⟩))⟩
    · skip
      refine own_st (fun t k => Jvm.RoadKit.acmp (g := (mkF m 11 #[.val (.ref rp0)] [(.ref w_FAILED), (.ref rp0)])) X3 hx rfl rfl rfl (pc0 := 11) (pc' := 14) (same := false) rfl (hb hby own_d1_11) rfl (decide_eq_false fun q => hc4 (Value.ref.inj q)) (by decide) (by decide) k) ?_
      show own_Go _ _ _ _ T3 (mkF m 14 #[.val (.ref rp0)] [])
      refine own_st (fun t k => XS.aloadN X3.here hx rfl (hb hby own_d1_14) rfl rfl k) ?_
      show own_Go _ _ _ _ T3 (mkF m 15 #[.val (.ref rp0)] [(.ref rp0)])
      obtain ⟨T5, X5, e5, st5⟩ := getS2 X3 hx hZ hown (host := "") (Or.inl (own_w hw 13 rfl)) Via.refl e3 S_DEP_FAILED (g := (mkF m 15 #[.val (.ref rp0)] [(.ref rp0)])) rfl (hb hby own_d1_15)
      refine own_st st5 ?_
      show own_Go _ _ _ _ T5 (mkF m 18 #[.val (.ref rp0)] [(.ref w_DEP_FAILED), (.ref rp0)])
      by_cases hc6 : rp0 = w_DEP_FAILED
      · skip
        refine own_st (fun t k => Jvm.RoadKit.acmp (g := (mkF m 18 #[.val (.ref rp0)] [(.ref w_DEP_FAILED), (.ref rp0)])) X5 hx rfl rfl rfl (pc0 := 18) (pc' := 28) (same := true) rfl (hb hby own_d1_18) rfl (decide_eq_true (congrArg Value.ref hc6)) (by decide) (by decide) k) ?_
        show own_Go _ _ _ _ T5 (mkF m 28 #[.val (.ref rp0)] [])
        refine own_st (fun t k => XS.iconst X5.here hx rfl (hb hby own_d1_28) k) ?_
        show own_Go _ _ _ _ T5 (mkF m 29 #[.val (.ref rp0)] [(.int (1 : Int32))])
        refine own_st (fun t k => XS.goto X5.here hx rfl (pc0 := 29) (pc' := 33) rfl (hb hby own_d1_29) (by decide) (by decide) k) ?_
        show own_Go _ _ _ _ T5 (mkF m 33 #[.val (.ref rp0)] [(.int (1 : Int32))])
        exact own_retZ X5 hx hlk (t := .boolean) hret (by simp) (hb hby own_d1_33) (by decide) (by decide) e5 ⟨N0, rfl, (Or.inr (Or.inr (Or.inl ⟨rfl, hc2, hc4, hc6, trivial⟩)))⟩
      · skip
        refine own_st (fun t k => Jvm.RoadKit.acmp (g := (mkF m 18 #[.val (.ref rp0)] [(.ref w_DEP_FAILED), (.ref rp0)])) X5 hx rfl rfl rfl (pc0 := 18) (pc' := 21) (same := false) rfl (hb hby own_d1_18) rfl (decide_eq_false fun q => hc6 (Value.ref.inj q)) (by decide) (by decide) k) ?_
        show own_Go _ _ _ _ T5 (mkF m 21 #[.val (.ref rp0)] [])
        refine own_st (fun t k => XS.aloadN X5.here hx rfl (hb hby own_d1_21) rfl rfl k) ?_
        show own_Go _ _ _ _ T5 (mkF m 22 #[.val (.ref rp0)] [(.ref rp0)])
        obtain ⟨T7, X7, e7, st7⟩ := getS2 X5 hx hZ hown (host := "") (Or.inl (own_w hw 15 rfl)) Via.refl e5 S_CANCELLED (g := (mkF m 22 #[.val (.ref rp0)] [(.ref rp0)])) rfl (hb hby own_d1_22)
        refine own_st st7 ?_
        show own_Go _ _ _ _ T7 (mkF m 25 #[.val (.ref rp0)] [(.ref w_CANCELLED), (.ref rp0)])
        by_cases hc8 : rp0 = w_CANCELLED
        · skip
          refine own_st (fun t k => Jvm.RoadKit.acmp (g := (mkF m 25 #[.val (.ref rp0)] [(.ref w_CANCELLED), (.ref rp0)])) X7 hx rfl rfl rfl (pc0 := 25) (pc' := 28) (same := true) rfl (hb hby own_d1_25) rfl (decide_eq_true (congrArg Value.ref hc8)) (by decide) (by decide) k) ?_
          show own_Go _ _ _ _ T7 (mkF m 28 #[.val (.ref rp0)] [])
          refine own_st (fun t k => XS.iconst X7.here hx rfl (hb hby own_d1_28) k) ?_
          show own_Go _ _ _ _ T7 (mkF m 29 #[.val (.ref rp0)] [(.int (1 : Int32))])
          refine own_st (fun t k => XS.goto X7.here hx rfl (pc0 := 29) (pc' := 33) rfl (hb hby own_d1_29) (by decide) (by decide) k) ?_
          show own_Go _ _ _ _ T7 (mkF m 33 #[.val (.ref rp0)] [(.int (1 : Int32))])
          exact own_retZ X7 hx hlk (t := .boolean) hret (by simp) (hb hby own_d1_33) (by decide) (by decide) e7 ⟨N0, rfl, (Or.inr (Or.inr (Or.inr (Or.inl ⟨rfl, hc2, hc4, hc6, hc8, trivial⟩))))⟩
        · skip
          refine own_st (fun t k => Jvm.RoadKit.acmp (g := (mkF m 25 #[.val (.ref rp0)] [(.ref w_CANCELLED), (.ref rp0)])) X7 hx rfl rfl rfl (pc0 := 25) (pc' := 32) (same := false) rfl (hb hby own_d1_25) rfl (decide_eq_false fun q => hc8 (Value.ref.inj q)) (by decide) (by decide) k) ?_
          show own_Go _ _ _ _ T7 (mkF m 32 #[.val (.ref rp0)] [])
          refine own_st (fun t k => XS.iconst X7.here hx rfl (hb hby own_d1_32) k) ?_
          show own_Go _ _ _ _ T7 (mkF m 33 #[.val (.ref rp0)] [(.int (0 : Int32))])
          exact own_retZ X7 hx hlk (t := .boolean) hret (by simp) (hb hby own_d1_33) (by decide) (by decide) e7 ⟨N0, rfl, (Or.inr (Or.inr (Or.inr (Or.inr ⟨rfl, hc2, hc4, hc6, hc8, trivial⟩))))⟩
theorem own_pd0 : parseMethodDescriptor "()Z" = some ⟨[], some .boolean⟩ := by decide +kernel
theorem own_ef0 (m : MethodId) (x0 : Int32) : entryFrame m #[(.int x0)] maxLocals = mkF m 0 #[.val (.int x0), .unset, .unset, .unset] [] := by first | (simp [entryFrame, mkF, argsToLocals, Value.category, maxLocals]; done) | rfl
theorem own_pn1 : plainName "com/example/ready_hands/readyhands/coordinator/JobStateHasEndedPinLaw" = true := by first | (simp [plainName, overriddenIn]; done) | decide +kernel
def own_Q0 (n0 : Nat) (v : Option Value) (h : Heap) (L : List Loc) : Prop := v = some (.int (1 : Int32)) ∧ Fr n0 L
set_option maxRecDepth 65536 in
set_option maxHeartbeats 40000000 in
theorem own_rm0 (l : Launch) (Z : State) (a0 : Array Value) (hw : ∀ d ∈ tables_1, d.before a0 Z = true) (ws : List Jvm.Cond) (ip0 : Int32) (w_WAITING : Addr) (w_SUCCEEDED : Addr) (w_FAILED : Addr) (w_DEP_FAILED : Addr) (w_CANCELLED : Addr) (w_RUNNING : Addr) (w_QUEUED : Addr) (h0 : Heap) (n0 : Nat) (Z0 : n0 ≤ h0.size) (S_WAITING : Sta Z h0 "com/example/ready_hands/readyhands/coordinator/JobState" "WAITING" "Lcom/example/ready_hands/readyhands/coordinator/JobState;" (.ref w_WAITING)) (E_w_WAITING : Exa Z h0 w_WAITING "com/example/ready_hands/readyhands/coordinator/JobState") (S_SUCCEEDED : Sta Z h0 "com/example/ready_hands/readyhands/coordinator/JobState" "SUCCEEDED" "Lcom/example/ready_hands/readyhands/coordinator/JobState;" (.ref w_SUCCEEDED)) (E_w_SUCCEEDED : Exa Z h0 w_SUCCEEDED "com/example/ready_hands/readyhands/coordinator/JobState") (S_FAILED : Sta Z h0 "com/example/ready_hands/readyhands/coordinator/JobState" "FAILED" "Lcom/example/ready_hands/readyhands/coordinator/JobState;" (.ref w_FAILED)) (E_w_FAILED : Exa Z h0 w_FAILED "com/example/ready_hands/readyhands/coordinator/JobState") (S_DEP_FAILED : Sta Z h0 "com/example/ready_hands/readyhands/coordinator/JobState" "DEP_FAILED" "Lcom/example/ready_hands/readyhands/coordinator/JobState;" (.ref w_DEP_FAILED)) (E_w_DEP_FAILED : Exa Z h0 w_DEP_FAILED "com/example/ready_hands/readyhands/coordinator/JobState") (S_CANCELLED : Sta Z h0 "com/example/ready_hands/readyhands/coordinator/JobState" "CANCELLED" "Lcom/example/ready_hands/readyhands/coordinator/JobState;" (.ref w_CANCELLED)) (E_w_CANCELLED : Exa Z h0 w_CANCELLED "com/example/ready_hands/readyhands/coordinator/JobState") (S_RUNNING : Sta Z h0 "com/example/ready_hands/readyhands/coordinator/JobState" "RUNNING" "Lcom/example/ready_hands/readyhands/coordinator/JobState;" (.ref w_RUNNING)) (E_w_RUNNING : Exa Z h0 w_RUNNING "com/example/ready_hands/readyhands/coordinator/JobState") (S_QUEUED : Sta Z h0 "com/example/ready_hands/readyhands/coordinator/JobState" "QUEUED" "Lcom/example/ready_hands/readyhands/coordinator/JobState;" (.ref w_QUEUED)) (E_w_QUEUED : Exa Z h0 w_QUEUED "com/example/ready_hands/readyhands/coordinator/JobState") (F_ordinal_w_WAITING : Fld Z h0 w_WAITING "java/lang/Enum" "ordinal" "I" (.int (0 : Int32))) (F_ordinal_w_SUCCEEDED : Fld Z h0 w_SUCCEEDED "java/lang/Enum" "ordinal" "I" (.int (3 : Int32))) (F_ordinal_w_FAILED : Fld Z h0 w_FAILED "java/lang/Enum" "ordinal" "I" (.int (4 : Int32))) (F_ordinal_w_DEP_FAILED : Fld Z h0 w_DEP_FAILED "java/lang/Enum" "ordinal" "I" (.int (5 : Int32))) (F_ordinal_w_CANCELLED : Fld Z h0 w_CANCELLED "java/lang/Enum" "ordinal" "I" (.int (6 : Int32))) (F_ordinal_w_RUNNING : Fld Z h0 w_RUNNING "java/lang/Enum" "ordinal" "I" (.int (2 : Int32))) (F_ordinal_w_QUEUED : Fld Z h0 w_QUEUED "java/lang/Enum" "ordinal" "I" (.int (1 : Int32))) :
    MetFree l x (head1 (Jvm.Cond.code x code maxLocals ret :: ws) room_1) (fun a U => a = #[(.int ip0)] ∧ Z.Warmed39 U.vm ∧ U.heap = h0) (fun _ _ _ _ _ => True) (fun _ U o U' => ∃ v L, o = .returned v ∧ own_Q0 n0 v U'.heap L ∧ FrameEnd U o U' L room_1.cells room_1.slots) := by
  refine MetFree.of_bodySF (plainFor_of_name own_pn1) hisR ?_
  intro p e s m args below meth c s₁ Bd hml0 hP hK
  obtain ⟨rfl, hZ, hh⟩ := hP
  have hx := Bd.exec
  have hlk := Bd.notSynchronized
  have hret := Bd.returns
  have hby := Bd.bytes
  have hml : c.maxLocals = 4 := hml0
  have hown : s.vm.findClass "com/example/ready_hands/readyhands/coordinator/JobStateHasEndedPinLaw" = some m.cls := findClass_of_methodNamed Bd.named
  have hnm := (name_of_methodNamed Bd.named Bd.method).1
  have X0 : Stand p l e room_1 s m #[(.int ip0)] below meth c s₁ [] 0 0 := Stand.of_body Bd
  have e0 : s₁.heap = h0 := by rw [← hh, Bd.state]; rfl
  have N0 := Fr.nil n0
  refine own_open (Q := own_Q0 n0) (own_ef0 m ip0) ?_
  show own_Go _ _ _ _ s₁ (mkF m 0 #[.val (.int ip0), .unset, .unset, .unset] [])
  refine own_st (fun t k => XS.iloadN X0.here hx rfl (hb hby at_0) rfl k) ?_
  show own_Go _ _ _ _ s₁ (mkF m 1 #[.val (.int ip0), .unset, .unset, .unset] [(.int ip0)])
  refine own_st (X0.ldcInt hx hown (mvT hZ (own_w hw 0 rfl)) (g := (mkF m 1 #[.val (.int ip0), .unset, .unset, .unset] [(.int ip0)])) rfl (hb hby at_1)) ?_
  show own_Go _ _ _ _ s₁ (mkF m 3 #[.val (.int ip0), .unset, .unset, .unset] [(.int (2147483647 : Int32)), (.int ip0)])
  refine own_st (fun t k => XS.iand X0.here hx rfl (hb hby at_3) rfl k) ?_
  show own_Go _ _ _ _ s₁ (mkF m 4 #[.val (.int ip0), .unset, .unset, .unset] [(.int (ip0 &&& (2147483647 : Int32)))])
  refine own_st (fun t k => XS.bipush X0.here hx rfl (hb hby at_4) k) ?_
  show own_Go _ _ _ _ s₁ (mkF m 6 #[.val (.int ip0), .unset, .unset, .unset] [(.int (7 : Int32)), (.int (ip0 &&& (2147483647 : Int32)))])
  refine own_st (fun t k => iremM X0 hx rfl (hb hby at_6) rfl (by decide) k) ?_
  show own_Go _ _ _ _ s₁ (mkF m 7 #[.val (.int ip0), .unset, .unset, .unset] [(.int ((ip0 &&& (2147483647 : Int32)) % (7 : Int32)))])
  rcases own_rem0 ip0 with qr1 | qr1 | qr1 | qr1 | qr1 | qr1 | qr1
  · rw [qr1]
    show own_Go _ _ _ _ s₁ (mkF m 7 #[.val (.int ip0), .unset, .unset, .unset] [(.int (0 : Int32))])
    refine own_st (fun t k => XS.istoreN X0.here hx rfl (hb hby at_7) rfl (l' := #[.val (.int ip0), .val (.int (0 : Int32)), .unset, .unset]) rfl k) ?_
    show own_Go _ _ _ _ s₁ (mkF m 8 #[.val (.int ip0), .val (.int (0 : Int32)), .unset, .unset] [])
    refine own_st (fun t k => XS.iloadN X0.here hx rfl (hb hby at_8) rfl k) ?_
    show own_Go _ _ _ _ s₁ (mkF m 9 #[.val (.int ip0), .val (.int (0 : Int32)), .unset, .unset] [(.int (0 : Int32))])
    refine own_st (fun t k => XS.ifNo X0.here hx rfl (hb hby at_9) rfl ((if0 _ _).trans (teq (by decide : (0 : Int32) = (0 : Int32))).2) k) ?_
    show own_Go _ _ _ _ s₁ (mkF m 12 #[.val (.int ip0), .val (.int (0 : Int32)), .unset, .unset] [])
    obtain ⟨T2, X2, e2, st2⟩ := getS2 X0 hx hZ hown (host := "") (Or.inl (own_w hw 1 rfl)) Via.refl e0 S_WAITING (g := (mkF m 12 #[.val (.int ip0), .val (.int (0 : Int32)), .unset, .unset] [])) rfl (hb hby at_12)
    refine own_st st2 ?_
    show own_Go _ _ _ _ T2 (mkF m 15 #[.val (.int ip0), .val (.int (0 : Int32)), .unset, .unset] [(.ref w_WAITING)])
    refine own_st (fun t k => XS.astoreN X2.here hx rfl (hb hby at_15) rfl rfl (l' := #[.val (.int ip0), .val (.int (0 : Int32)), .val (.ref w_WAITING), .unset]) rfl k) ?_
    show own_Go _ _ _ _ T2 (mkF m 16 #[.val (.int ip0), .val (.int (0 : Int32)), .val (.ref w_WAITING), .unset] [])
    refine own_st (fun t k => XS.iconst X2.here hx rfl (hb hby at_16) k) ?_
    show own_Go _ _ _ _ T2 (mkF m 17 #[.val (.int ip0), .val (.int (0 : Int32)), .val (.ref w_WAITING), .unset] [(.int (0 : Int32))])
    refine own_st (fun t k => XS.istoreN X2.here hx rfl (hb hby at_17) rfl (l' := #[.val (.int ip0), .val (.int (0 : Int32)), .val (.ref w_WAITING), .val (.int (0 : Int32))]) rfl k) ?_
    show own_Go _ _ _ _ T2 (mkF m 18 #[.val (.int ip0), .val (.int (0 : Int32)), .val (.ref w_WAITING), .val (.int (0 : Int32))] [])
    refine own_st (fun t k => XS.goto X2.here hx rfl (pc0 := 18) (pc' := 97) rfl (hb hby at_18) (by decide) (by decide) k) ?_
    show own_Go _ _ _ _ T2 (mkF m 97 #[.val (.int ip0), .val (.int (0 : Int32)), .val (.ref w_WAITING), .val (.int (0 : Int32))] [])
    refine own_st (fun t k => XS.aloadN X2.here hx rfl (hb hby at_97) rfl rfl k) ?_
    show own_Go _ _ _ _ T2 (mkF m 98 #[.val (.int ip0), .val (.int (0 : Int32)), .val (.ref w_WAITING), .val (.int (0 : Int32))] [(.ref w_WAITING)])
    obtain ⟨cq3, kq3, q3a, q3b, q3c⟩ := isOf hZ e2 E_w_WAITING
    obtain ⟨_, _, ⟨T3, L3, k3, n3⟩, -, X3, ⟨Lc3, hQ3, l3, y3, z3⟩, st3⟩ := X2.virtualBack hx (y := (⟨"com/example/ready_hands/readyhands/coordinator/JobState", "hasEnded", "()Z"⟩ : MethodName)) (z := (⟨"com/example/ready_hands/readyhands/coordinator/JobState", "hasEnded", "()Z"⟩ : MethodName)) hown (mvT hZ (own_w hw 4 rfl)) (mvT hZ (own_w hw 5 rfl)) (notFace_of_selects (args := #[]) (mvT hZ (own_w hw 7 rfl))) (mvT hZ (own_w hw 7 rfl)) (mvT hZ (own_w hw 6 rfl)) (by decide) (backOf (W := 0) (own_rm1 l Z a0 hw [] w_WAITING w_SUCCEEDED w_FAILED w_DEP_FAILED w_CANCELLED h0 n0 Z0 S_SUCCEEDED S_FAILED S_DEP_FAILED S_CANCELLED) hZ (own_w hw 8 rfl) (own_w hw 2 rfl) (by decide) (by decide)) q3a q3c (g := (mkF m 98 #[.val (.int ip0), .val (.int (0 : Int32)), .val (.ref w_WAITING), .val (.int (0 : Int32))] [(.ref w_WAITING)])) rfl (by rw [hml]; rfl) (Steps.refl _) (argsL := []) (rest := []) (lenOf own_pd0 rfl) rfl (by show 2 * 0 + _ ≤ _; exact Nat.le_of_eq rfl) (hb hby at_98) (fun _ _ => ⟨rfl, e2, (by decide : 0 + 0 ≤ _), (by decide : 0 + 0 ≤ _)⟩)
    dsimp only [Pt.U, Pt.locs, Pt.cells, Pt.slots] at X3 l3 y3 z3 st3 hQ3
    subst l3 y3 z3
    obtain ⟨N3q, e3, hL3⟩ := hQ3
    have N3 := Fr.app N0 N3q
    rcases hL3 with ⟨rfl, hq3_0_0, -⟩ | ⟨rfl, hq3_1_0, hq3_1_1, -⟩ | ⟨rfl, hq3_2_0, hq3_2_1, hq3_2_2, -⟩ | ⟨rfl, hq3_3_0, hq3_3_1, hq3_3_2, hq3_3_3, -⟩ | ⟨rfl, hq3_4_0, hq3_4_1, hq3_4_2, hq3_4_3, -⟩
    · skip
      exact absurd hq3_0_0 (Fld.ne F_ordinal_w_WAITING F_ordinal_w_SUCCEEDED (own_nei (by decide)))
    · skip
      exact absurd hq3_1_1 (Fld.ne F_ordinal_w_WAITING F_ordinal_w_FAILED (own_nei (by decide)))
    · skip
      exact absurd hq3_2_2 (Fld.ne F_ordinal_w_WAITING F_ordinal_w_DEP_FAILED (own_nei (by decide)))
    · skip
      exact absurd hq3_3_3 (Fld.ne F_ordinal_w_WAITING F_ordinal_w_CANCELLED (own_nei (by decide)))
    · skip
      refine own_st (fun t k => st3.trans k) ?_
      show own_Go _ _ _ _ T3 (mkF m 101 #[.val (.int ip0), .val (.int (0 : Int32)), .val (.ref w_WAITING), .val (.int (0 : Int32))] [(.int (0 : Int32))])
      refine own_st (fun t k => XS.iloadN X3.here hx rfl (hb hby at_101) rfl k) ?_
      show own_Go _ _ _ _ T3 (mkF m 102 #[.val (.int ip0), .val (.int (0 : Int32)), .val (.ref w_WAITING), .val (.int (0 : Int32))] [(.int (0 : Int32)), (.int (0 : Int32))])
      refine own_st (fun t k => XS.icmpNo X3.here hx rfl (hb hby at_102) rfl (teq (by decide : (0 : Int32) = (0 : Int32))).2 k) ?_
      show own_Go _ _ _ _ T3 (mkF m 105 #[.val (.int ip0), .val (.int (0 : Int32)), .val (.ref w_WAITING), .val (.int (0 : Int32))] [])
      refine own_st (fun t k => XS.iconst X3.here hx rfl (hb hby at_105) k) ?_
      show own_Go _ _ _ _ T3 (mkF m 106 #[.val (.int ip0), .val (.int (0 : Int32)), .val (.ref w_WAITING), .val (.int (0 : Int32))] [(.int (1 : Int32))])
      refine own_st (fun t k => XS.goto X3.here hx rfl (pc0 := 106) (pc' := 110) rfl (hb hby at_106) (by decide) (by decide) k) ?_
      show own_Go _ _ _ _ T3 (mkF m 110 #[.val (.int ip0), .val (.int (0 : Int32)), .val (.ref w_WAITING), .val (.int (0 : Int32))] [(.int (1 : Int32))])
      exact own_retZ X3 hx hlk (t := .boolean) hret (by simp) (hb hby at_110) (by decide) (by decide) e3 ⟨rfl, N3⟩
  · rw [qr1]
    show own_Go _ _ _ _ s₁ (mkF m 7 #[.val (.int ip0), .unset, .unset, .unset] [(.int (1 : Int32))])
    refine own_st (fun t k => XS.istoreN X0.here hx rfl (hb hby at_7) rfl (l' := #[.val (.int ip0), .val (.int (1 : Int32)), .unset, .unset]) rfl k) ?_
    show own_Go _ _ _ _ s₁ (mkF m 8 #[.val (.int ip0), .val (.int (1 : Int32)), .unset, .unset] [])
    refine own_st (fun t k => XS.iloadN X0.here hx rfl (hb hby at_8) rfl k) ?_
    show own_Go _ _ _ _ s₁ (mkF m 9 #[.val (.int ip0), .val (.int (1 : Int32)), .unset, .unset] [(.int (1 : Int32))])
    refine own_st (fun t k => XS.ifYes X0.here hx rfl (pc0 := 9) (pc' := 21) rfl (hb hby at_9) rfl ((if0 _ _).trans (feq (by decide : ¬ ((1 : Int32) = (0 : Int32)))).2) (by decide) (by decide) k) ?_
    show own_Go _ _ _ _ s₁ (mkF m 21 #[.val (.int ip0), .val (.int (1 : Int32)), .unset, .unset] [])
    refine own_st (fun t k => XS.iloadN X0.here hx rfl (hb hby at_21) rfl k) ?_
    show own_Go _ _ _ _ s₁ (mkF m 22 #[.val (.int ip0), .val (.int (1 : Int32)), .unset, .unset] [(.int (1 : Int32))])
    refine own_st (fun t k => XS.iconst X0.here hx rfl (hb hby at_22) k) ?_
    show own_Go _ _ _ _ s₁ (mkF m 23 #[.val (.int ip0), .val (.int (1 : Int32)), .unset, .unset] [(.int (1 : Int32)), (.int (1 : Int32))])
    refine own_st (fun t k => XS.icmpNo X0.here hx rfl (hb hby at_23) rfl (teq (by decide : (1 : Int32) = (1 : Int32))).2 k) ?_
    show own_Go _ _ _ _ s₁ (mkF m 26 #[.val (.int ip0), .val (.int (1 : Int32)), .unset, .unset] [])
    obtain ⟨T4, X4, e4, st4⟩ := getS2 X0 hx hZ hown (host := "") (Or.inl (own_w hw 23 rfl)) Via.refl e0 S_QUEUED (g := (mkF m 26 #[.val (.int ip0), .val (.int (1 : Int32)), .unset, .unset] [])) rfl (hb hby at_26)
    refine own_st st4 ?_
    show own_Go _ _ _ _ T4 (mkF m 29 #[.val (.int ip0), .val (.int (1 : Int32)), .unset, .unset] [(.ref w_QUEUED)])
    refine own_st (fun t k => XS.astoreN X4.here hx rfl (hb hby at_29) rfl rfl (l' := #[.val (.int ip0), .val (.int (1 : Int32)), .val (.ref w_QUEUED), .unset]) rfl k) ?_
    show own_Go _ _ _ _ T4 (mkF m 30 #[.val (.int ip0), .val (.int (1 : Int32)), .val (.ref w_QUEUED), .unset] [])
    refine own_st (fun t k => XS.iconst X4.here hx rfl (hb hby at_30) k) ?_
    show own_Go _ _ _ _ T4 (mkF m 31 #[.val (.int ip0), .val (.int (1 : Int32)), .val (.ref w_QUEUED), .unset] [(.int (0 : Int32))])
    refine own_st (fun t k => XS.istoreN X4.here hx rfl (hb hby at_31) rfl (l' := #[.val (.int ip0), .val (.int (1 : Int32)), .val (.ref w_QUEUED), .val (.int (0 : Int32))]) rfl k) ?_
    show own_Go _ _ _ _ T4 (mkF m 32 #[.val (.int ip0), .val (.int (1 : Int32)), .val (.ref w_QUEUED), .val (.int (0 : Int32))] [])
    refine own_st (fun t k => XS.goto X4.here hx rfl (pc0 := 32) (pc' := 97) rfl (hb hby at_32) (by decide) (by decide) k) ?_
    show own_Go _ _ _ _ T4 (mkF m 97 #[.val (.int ip0), .val (.int (1 : Int32)), .val (.ref w_QUEUED), .val (.int (0 : Int32))] [])
    refine own_st (fun t k => XS.aloadN X4.here hx rfl (hb hby at_97) rfl rfl k) ?_
    show own_Go _ _ _ _ T4 (mkF m 98 #[.val (.int ip0), .val (.int (1 : Int32)), .val (.ref w_QUEUED), .val (.int (0 : Int32))] [(.ref w_QUEUED)])
    obtain ⟨cq5, kq5, q5a, q5b, q5c⟩ := isOf hZ e4 E_w_QUEUED
    obtain ⟨_, _, ⟨T5, L5, k5, n5⟩, -, X5, ⟨Lc5, hQ5, l5, y5, z5⟩, st5⟩ := X4.virtualBack hx (y := (⟨"com/example/ready_hands/readyhands/coordinator/JobState", "hasEnded", "()Z"⟩ : MethodName)) (z := (⟨"com/example/ready_hands/readyhands/coordinator/JobState", "hasEnded", "()Z"⟩ : MethodName)) hown (mvT hZ (own_w hw 4 rfl)) (mvT hZ (own_w hw 5 rfl)) (notFace_of_selects (args := #[]) (mvT hZ (own_w hw 7 rfl))) (mvT hZ (own_w hw 7 rfl)) (mvT hZ (own_w hw 6 rfl)) (by decide) (backOf (W := 0) (own_rm1 l Z a0 hw [] w_QUEUED w_SUCCEEDED w_FAILED w_DEP_FAILED w_CANCELLED h0 n0 Z0 S_SUCCEEDED S_FAILED S_DEP_FAILED S_CANCELLED) hZ (own_w hw 8 rfl) (own_w hw 2 rfl) (by decide) (by decide)) q5a q5c (g := (mkF m 98 #[.val (.int ip0), .val (.int (1 : Int32)), .val (.ref w_QUEUED), .val (.int (0 : Int32))] [(.ref w_QUEUED)])) rfl (by rw [hml]; rfl) (Steps.refl _) (argsL := []) (rest := []) (lenOf own_pd0 rfl) rfl (by show 2 * 0 + _ ≤ _; exact Nat.le_of_eq rfl) (hb hby at_98) (fun _ _ => ⟨rfl, e4, (by decide : 0 + 0 ≤ _), (by decide : 0 + 0 ≤ _)⟩)
    dsimp only [Pt.U, Pt.locs, Pt.cells, Pt.slots] at X5 l5 y5 z5 st5 hQ5
    subst l5 y5 z5
    obtain ⟨N5q, e5, hL5⟩ := hQ5
    have N5 := Fr.app N0 N5q
    rcases hL5 with ⟨rfl, hq5_0_0, -⟩ | ⟨rfl, hq5_1_0, hq5_1_1, -⟩ | ⟨rfl, hq5_2_0, hq5_2_1, hq5_2_2, -⟩ | ⟨rfl, hq5_3_0, hq5_3_1, hq5_3_2, hq5_3_3, -⟩ | ⟨rfl, hq5_4_0, hq5_4_1, hq5_4_2, hq5_4_3, -⟩
    · skip
      exact absurd hq5_0_0 (Fld.ne F_ordinal_w_QUEUED F_ordinal_w_SUCCEEDED (own_nei (by decide)))
    · skip
      exact absurd hq5_1_1 (Fld.ne F_ordinal_w_QUEUED F_ordinal_w_FAILED (own_nei (by decide)))
    · skip
      exact absurd hq5_2_2 (Fld.ne F_ordinal_w_QUEUED F_ordinal_w_DEP_FAILED (own_nei (by decide)))
    · skip
      exact absurd hq5_3_3 (Fld.ne F_ordinal_w_QUEUED F_ordinal_w_CANCELLED (own_nei (by decide)))
    · skip
      refine own_st (fun t k => st5.trans k) ?_
      show own_Go _ _ _ _ T5 (mkF m 101 #[.val (.int ip0), .val (.int (1 : Int32)), .val (.ref w_QUEUED), .val (.int (0 : Int32))] [(.int (0 : Int32))])
      refine own_st (fun t k => XS.iloadN X5.here hx rfl (hb hby at_101) rfl k) ?_
      show own_Go _ _ _ _ T5 (mkF m 102 #[.val (.int ip0), .val (.int (1 : Int32)), .val (.ref w_QUEUED), .val (.int (0 : Int32))] [(.int (0 : Int32)), (.int (0 : Int32))])
      refine own_st (fun t k => XS.icmpNo X5.here hx rfl (hb hby at_102) rfl (teq (by decide : (0 : Int32) = (0 : Int32))).2 k) ?_
      show own_Go _ _ _ _ T5 (mkF m 105 #[.val (.int ip0), .val (.int (1 : Int32)), .val (.ref w_QUEUED), .val (.int (0 : Int32))] [])
      refine own_st (fun t k => XS.iconst X5.here hx rfl (hb hby at_105) k) ?_
      show own_Go _ _ _ _ T5 (mkF m 106 #[.val (.int ip0), .val (.int (1 : Int32)), .val (.ref w_QUEUED), .val (.int (0 : Int32))] [(.int (1 : Int32))])
      refine own_st (fun t k => XS.goto X5.here hx rfl (pc0 := 106) (pc' := 110) rfl (hb hby at_106) (by decide) (by decide) k) ?_
      show own_Go _ _ _ _ T5 (mkF m 110 #[.val (.int ip0), .val (.int (1 : Int32)), .val (.ref w_QUEUED), .val (.int (0 : Int32))] [(.int (1 : Int32))])
      exact own_retZ X5 hx hlk (t := .boolean) hret (by simp) (hb hby at_110) (by decide) (by decide) e5 ⟨rfl, N5⟩
  · rw [qr1]
    show own_Go _ _ _ _ s₁ (mkF m 7 #[.val (.int ip0), .unset, .unset, .unset] [(.int (2 : Int32))])
    refine own_st (fun t k => XS.istoreN X0.here hx rfl (hb hby at_7) rfl (l' := #[.val (.int ip0), .val (.int (2 : Int32)), .unset, .unset]) rfl k) ?_
    show own_Go _ _ _ _ s₁ (mkF m 8 #[.val (.int ip0), .val (.int (2 : Int32)), .unset, .unset] [])
    refine own_st (fun t k => XS.iloadN X0.here hx rfl (hb hby at_8) rfl k) ?_
    show own_Go _ _ _ _ s₁ (mkF m 9 #[.val (.int ip0), .val (.int (2 : Int32)), .unset, .unset] [(.int (2 : Int32))])
    refine own_st (fun t k => XS.ifYes X0.here hx rfl (pc0 := 9) (pc' := 21) rfl (hb hby at_9) rfl ((if0 _ _).trans (feq (by decide : ¬ ((2 : Int32) = (0 : Int32)))).2) (by decide) (by decide) k) ?_
    show own_Go _ _ _ _ s₁ (mkF m 21 #[.val (.int ip0), .val (.int (2 : Int32)), .unset, .unset] [])
    refine own_st (fun t k => XS.iloadN X0.here hx rfl (hb hby at_21) rfl k) ?_
    show own_Go _ _ _ _ s₁ (mkF m 22 #[.val (.int ip0), .val (.int (2 : Int32)), .unset, .unset] [(.int (2 : Int32))])
    refine own_st (fun t k => XS.iconst X0.here hx rfl (hb hby at_22) k) ?_
    show own_Go _ _ _ _ s₁ (mkF m 23 #[.val (.int ip0), .val (.int (2 : Int32)), .unset, .unset] [(.int (1 : Int32)), (.int (2 : Int32))])
    refine own_st (fun t k => XS.icmpYes X0.here hx rfl (pc0 := 23) (pc' := 35) rfl (hb hby at_23) rfl (feq (by decide : ¬ ((2 : Int32) = (1 : Int32)))).2 (by decide) (by decide) k) ?_
    show own_Go _ _ _ _ s₁ (mkF m 35 #[.val (.int ip0), .val (.int (2 : Int32)), .unset, .unset] [])
    refine own_st (fun t k => XS.iloadN X0.here hx rfl (hb hby at_35) rfl k) ?_
    show own_Go _ _ _ _ s₁ (mkF m 36 #[.val (.int ip0), .val (.int (2 : Int32)), .unset, .unset] [(.int (2 : Int32))])
    refine own_st (fun t k => XS.iconst X0.here hx rfl (hb hby at_36) k) ?_
    show own_Go _ _ _ _ s₁ (mkF m 37 #[.val (.int ip0), .val (.int (2 : Int32)), .unset, .unset] [(.int (2 : Int32)), (.int (2 : Int32))])
    refine own_st (fun t k => XS.icmpNo X0.here hx rfl (hb hby at_37) rfl (teq (by decide : (2 : Int32) = (2 : Int32))).2 k) ?_
    show own_Go _ _ _ _ s₁ (mkF m 40 #[.val (.int ip0), .val (.int (2 : Int32)), .unset, .unset] [])
    obtain ⟨T6, X6, e6, st6⟩ := getS2 X0 hx hZ hown (host := "") (Or.inl (own_w hw 21 rfl)) Via.refl e0 S_RUNNING (g := (mkF m 40 #[.val (.int ip0), .val (.int (2 : Int32)), .unset, .unset] [])) rfl (hb hby at_40)
    refine own_st st6 ?_
    show own_Go _ _ _ _ T6 (mkF m 43 #[.val (.int ip0), .val (.int (2 : Int32)), .unset, .unset] [(.ref w_RUNNING)])
    refine own_st (fun t k => XS.astoreN X6.here hx rfl (hb hby at_43) rfl rfl (l' := #[.val (.int ip0), .val (.int (2 : Int32)), .val (.ref w_RUNNING), .unset]) rfl k) ?_
    show own_Go _ _ _ _ T6 (mkF m 44 #[.val (.int ip0), .val (.int (2 : Int32)), .val (.ref w_RUNNING), .unset] [])
    refine own_st (fun t k => XS.iconst X6.here hx rfl (hb hby at_44) k) ?_
    show own_Go _ _ _ _ T6 (mkF m 45 #[.val (.int ip0), .val (.int (2 : Int32)), .val (.ref w_RUNNING), .unset] [(.int (0 : Int32))])
    refine own_st (fun t k => XS.istoreN X6.here hx rfl (hb hby at_45) rfl (l' := #[.val (.int ip0), .val (.int (2 : Int32)), .val (.ref w_RUNNING), .val (.int (0 : Int32))]) rfl k) ?_
    show own_Go _ _ _ _ T6 (mkF m 46 #[.val (.int ip0), .val (.int (2 : Int32)), .val (.ref w_RUNNING), .val (.int (0 : Int32))] [])
    refine own_st (fun t k => XS.goto X6.here hx rfl (pc0 := 46) (pc' := 97) rfl (hb hby at_46) (by decide) (by decide) k) ?_
    show own_Go _ _ _ _ T6 (mkF m 97 #[.val (.int ip0), .val (.int (2 : Int32)), .val (.ref w_RUNNING), .val (.int (0 : Int32))] [])
    refine own_st (fun t k => XS.aloadN X6.here hx rfl (hb hby at_97) rfl rfl k) ?_
    show own_Go _ _ _ _ T6 (mkF m 98 #[.val (.int ip0), .val (.int (2 : Int32)), .val (.ref w_RUNNING), .val (.int (0 : Int32))] [(.ref w_RUNNING)])
    obtain ⟨cq7, kq7, q7a, q7b, q7c⟩ := isOf hZ e6 E_w_RUNNING
    obtain ⟨_, _, ⟨T7, L7, k7, n7⟩, -, X7, ⟨Lc7, hQ7, l7, y7, z7⟩, st7⟩ := X6.virtualBack hx (y := (⟨"com/example/ready_hands/readyhands/coordinator/JobState", "hasEnded", "()Z"⟩ : MethodName)) (z := (⟨"com/example/ready_hands/readyhands/coordinator/JobState", "hasEnded", "()Z"⟩ : MethodName)) hown (mvT hZ (own_w hw 4 rfl)) (mvT hZ (own_w hw 5 rfl)) (notFace_of_selects (args := #[]) (mvT hZ (own_w hw 7 rfl))) (mvT hZ (own_w hw 7 rfl)) (mvT hZ (own_w hw 6 rfl)) (by decide) (backOf (W := 0) (own_rm1 l Z a0 hw [] w_RUNNING w_SUCCEEDED w_FAILED w_DEP_FAILED w_CANCELLED h0 n0 Z0 S_SUCCEEDED S_FAILED S_DEP_FAILED S_CANCELLED) hZ (own_w hw 8 rfl) (own_w hw 2 rfl) (by decide) (by decide)) q7a q7c (g := (mkF m 98 #[.val (.int ip0), .val (.int (2 : Int32)), .val (.ref w_RUNNING), .val (.int (0 : Int32))] [(.ref w_RUNNING)])) rfl (by rw [hml]; rfl) (Steps.refl _) (argsL := []) (rest := []) (lenOf own_pd0 rfl) rfl (by show 2 * 0 + _ ≤ _; exact Nat.le_of_eq rfl) (hb hby at_98) (fun _ _ => ⟨rfl, e6, (by decide : 0 + 0 ≤ _), (by decide : 0 + 0 ≤ _)⟩)
    dsimp only [Pt.U, Pt.locs, Pt.cells, Pt.slots] at X7 l7 y7 z7 st7 hQ7
    subst l7 y7 z7
    obtain ⟨N7q, e7, hL7⟩ := hQ7
    have N7 := Fr.app N0 N7q
    rcases hL7 with ⟨rfl, hq7_0_0, -⟩ | ⟨rfl, hq7_1_0, hq7_1_1, -⟩ | ⟨rfl, hq7_2_0, hq7_2_1, hq7_2_2, -⟩ | ⟨rfl, hq7_3_0, hq7_3_1, hq7_3_2, hq7_3_3, -⟩ | ⟨rfl, hq7_4_0, hq7_4_1, hq7_4_2, hq7_4_3, -⟩
    · skip
      exact absurd hq7_0_0 (Fld.ne F_ordinal_w_RUNNING F_ordinal_w_SUCCEEDED (own_nei (by decide)))
    · skip
      exact absurd hq7_1_1 (Fld.ne F_ordinal_w_RUNNING F_ordinal_w_FAILED (own_nei (by decide)))
    · skip
      exact absurd hq7_2_2 (Fld.ne F_ordinal_w_RUNNING F_ordinal_w_DEP_FAILED (own_nei (by decide)))
    · skip
      exact absurd hq7_3_3 (Fld.ne F_ordinal_w_RUNNING F_ordinal_w_CANCELLED (own_nei (by decide)))
    · skip
      refine own_st (fun t k => st7.trans k) ?_
      show own_Go _ _ _ _ T7 (mkF m 101 #[.val (.int ip0), .val (.int (2 : Int32)), .val (.ref w_RUNNING), .val (.int (0 : Int32))] [(.int (0 : Int32))])
      refine own_st (fun t k => XS.iloadN X7.here hx rfl (hb hby at_101) rfl k) ?_
      show own_Go _ _ _ _ T7 (mkF m 102 #[.val (.int ip0), .val (.int (2 : Int32)), .val (.ref w_RUNNING), .val (.int (0 : Int32))] [(.int (0 : Int32)), (.int (0 : Int32))])
      refine own_st (fun t k => XS.icmpNo X7.here hx rfl (hb hby at_102) rfl (teq (by decide : (0 : Int32) = (0 : Int32))).2 k) ?_
      show own_Go _ _ _ _ T7 (mkF m 105 #[.val (.int ip0), .val (.int (2 : Int32)), .val (.ref w_RUNNING), .val (.int (0 : Int32))] [])
      refine own_st (fun t k => XS.iconst X7.here hx rfl (hb hby at_105) k) ?_
      show own_Go _ _ _ _ T7 (mkF m 106 #[.val (.int ip0), .val (.int (2 : Int32)), .val (.ref w_RUNNING), .val (.int (0 : Int32))] [(.int (1 : Int32))])
      refine own_st (fun t k => XS.goto X7.here hx rfl (pc0 := 106) (pc' := 110) rfl (hb hby at_106) (by decide) (by decide) k) ?_
      show own_Go _ _ _ _ T7 (mkF m 110 #[.val (.int ip0), .val (.int (2 : Int32)), .val (.ref w_RUNNING), .val (.int (0 : Int32))] [(.int (1 : Int32))])
      exact own_retZ X7 hx hlk (t := .boolean) hret (by simp) (hb hby at_110) (by decide) (by decide) e7 ⟨rfl, N7⟩
  · rw [qr1]
    show own_Go _ _ _ _ s₁ (mkF m 7 #[.val (.int ip0), .unset, .unset, .unset] [(.int (3 : Int32))])
    refine own_st (fun t k => XS.istoreN X0.here hx rfl (hb hby at_7) rfl (l' := #[.val (.int ip0), .val (.int (3 : Int32)), .unset, .unset]) rfl k) ?_
    show own_Go _ _ _ _ s₁ (mkF m 8 #[.val (.int ip0), .val (.int (3 : Int32)), .unset, .unset] [])
    refine own_st (fun t k => XS.iloadN X0.here hx rfl (hb hby at_8) rfl k) ?_
    show own_Go _ _ _ _ s₁ (mkF m 9 #[.val (.int ip0), .val (.int (3 : Int32)), .unset, .unset] [(.int (3 : Int32))])
    refine own_st (fun t k => XS.ifYes X0.here hx rfl (pc0 := 9) (pc' := 21) rfl (hb hby at_9) rfl ((if0 _ _).trans (feq (by decide : ¬ ((3 : Int32) = (0 : Int32)))).2) (by decide) (by decide) k) ?_
    show own_Go _ _ _ _ s₁ (mkF m 21 #[.val (.int ip0), .val (.int (3 : Int32)), .unset, .unset] [])
    refine own_st (fun t k => XS.iloadN X0.here hx rfl (hb hby at_21) rfl k) ?_
    show own_Go _ _ _ _ s₁ (mkF m 22 #[.val (.int ip0), .val (.int (3 : Int32)), .unset, .unset] [(.int (3 : Int32))])
    refine own_st (fun t k => XS.iconst X0.here hx rfl (hb hby at_22) k) ?_
    show own_Go _ _ _ _ s₁ (mkF m 23 #[.val (.int ip0), .val (.int (3 : Int32)), .unset, .unset] [(.int (1 : Int32)), (.int (3 : Int32))])
    refine own_st (fun t k => XS.icmpYes X0.here hx rfl (pc0 := 23) (pc' := 35) rfl (hb hby at_23) rfl (feq (by decide : ¬ ((3 : Int32) = (1 : Int32)))).2 (by decide) (by decide) k) ?_
    show own_Go _ _ _ _ s₁ (mkF m 35 #[.val (.int ip0), .val (.int (3 : Int32)), .unset, .unset] [])
    refine own_st (fun t k => XS.iloadN X0.here hx rfl (hb hby at_35) rfl k) ?_
    show own_Go _ _ _ _ s₁ (mkF m 36 #[.val (.int ip0), .val (.int (3 : Int32)), .unset, .unset] [(.int (3 : Int32))])
    refine own_st (fun t k => XS.iconst X0.here hx rfl (hb hby at_36) k) ?_
    show own_Go _ _ _ _ s₁ (mkF m 37 #[.val (.int ip0), .val (.int (3 : Int32)), .unset, .unset] [(.int (2 : Int32)), (.int (3 : Int32))])
    refine own_st (fun t k => XS.icmpYes X0.here hx rfl (pc0 := 37) (pc' := 49) rfl (hb hby at_37) rfl (feq (by decide : ¬ ((3 : Int32) = (2 : Int32)))).2 (by decide) (by decide) k) ?_
    show own_Go _ _ _ _ s₁ (mkF m 49 #[.val (.int ip0), .val (.int (3 : Int32)), .unset, .unset] [])
    refine own_st (fun t k => XS.iloadN X0.here hx rfl (hb hby at_49) rfl k) ?_
    show own_Go _ _ _ _ s₁ (mkF m 50 #[.val (.int ip0), .val (.int (3 : Int32)), .unset, .unset] [(.int (3 : Int32))])
    refine own_st (fun t k => XS.iconst X0.here hx rfl (hb hby at_50) k) ?_
    show own_Go _ _ _ _ s₁ (mkF m 51 #[.val (.int ip0), .val (.int (3 : Int32)), .unset, .unset] [(.int (3 : Int32)), (.int (3 : Int32))])
    refine own_st (fun t k => XS.icmpNo X0.here hx rfl (hb hby at_51) rfl (teq (by decide : (3 : Int32) = (3 : Int32))).2 k) ?_
    show own_Go _ _ _ _ s₁ (mkF m 54 #[.val (.int ip0), .val (.int (3 : Int32)), .unset, .unset] [])
    obtain ⟨T8, X8, e8, st8⟩ := getS2 X0 hx hZ hown (host := "") (Or.inl (own_w hw 17 rfl)) Via.refl e0 S_SUCCEEDED (g := (mkF m 54 #[.val (.int ip0), .val (.int (3 : Int32)), .unset, .unset] [])) rfl (hb hby at_54)
    refine own_st st8 ?_
    show own_Go _ _ _ _ T8 (mkF m 57 #[.val (.int ip0), .val (.int (3 : Int32)), .unset, .unset] [(.ref w_SUCCEEDED)])
    refine own_st (fun t k => XS.astoreN X8.here hx rfl (hb hby at_57) rfl rfl (l' := #[.val (.int ip0), .val (.int (3 : Int32)), .val (.ref w_SUCCEEDED), .unset]) rfl k) ?_
    show own_Go _ _ _ _ T8 (mkF m 58 #[.val (.int ip0), .val (.int (3 : Int32)), .val (.ref w_SUCCEEDED), .unset] [])
    refine own_st (fun t k => XS.iconst X8.here hx rfl (hb hby at_58) k) ?_
    show own_Go _ _ _ _ T8 (mkF m 59 #[.val (.int ip0), .val (.int (3 : Int32)), .val (.ref w_SUCCEEDED), .unset] [(.int (1 : Int32))])
    refine own_st (fun t k => XS.istoreN X8.here hx rfl (hb hby at_59) rfl (l' := #[.val (.int ip0), .val (.int (3 : Int32)), .val (.ref w_SUCCEEDED), .val (.int (1 : Int32))]) rfl k) ?_
    show own_Go _ _ _ _ T8 (mkF m 60 #[.val (.int ip0), .val (.int (3 : Int32)), .val (.ref w_SUCCEEDED), .val (.int (1 : Int32))] [])
    refine own_st (fun t k => XS.goto X8.here hx rfl (pc0 := 60) (pc' := 97) rfl (hb hby at_60) (by decide) (by decide) k) ?_
    show own_Go _ _ _ _ T8 (mkF m 97 #[.val (.int ip0), .val (.int (3 : Int32)), .val (.ref w_SUCCEEDED), .val (.int (1 : Int32))] [])
    refine own_st (fun t k => XS.aloadN X8.here hx rfl (hb hby at_97) rfl rfl k) ?_
    show own_Go _ _ _ _ T8 (mkF m 98 #[.val (.int ip0), .val (.int (3 : Int32)), .val (.ref w_SUCCEEDED), .val (.int (1 : Int32))] [(.ref w_SUCCEEDED)])
    obtain ⟨cq9, kq9, q9a, q9b, q9c⟩ := isOf hZ e8 E_w_SUCCEEDED
    obtain ⟨_, _, ⟨T9, L9, k9, n9⟩, -, X9, ⟨Lc9, hQ9, l9, y9, z9⟩, st9⟩ := X8.virtualBack hx (y := (⟨"com/example/ready_hands/readyhands/coordinator/JobState", "hasEnded", "()Z"⟩ : MethodName)) (z := (⟨"com/example/ready_hands/readyhands/coordinator/JobState", "hasEnded", "()Z"⟩ : MethodName)) hown (mvT hZ (own_w hw 4 rfl)) (mvT hZ (own_w hw 5 rfl)) (notFace_of_selects (args := #[]) (mvT hZ (own_w hw 7 rfl))) (mvT hZ (own_w hw 7 rfl)) (mvT hZ (own_w hw 6 rfl)) (by decide) (backOf (W := 0) (own_rm1 l Z a0 hw [] w_SUCCEEDED w_SUCCEEDED w_FAILED w_DEP_FAILED w_CANCELLED h0 n0 Z0 S_SUCCEEDED S_FAILED S_DEP_FAILED S_CANCELLED) hZ (own_w hw 8 rfl) (own_w hw 2 rfl) (by decide) (by decide)) q9a q9c (g := (mkF m 98 #[.val (.int ip0), .val (.int (3 : Int32)), .val (.ref w_SUCCEEDED), .val (.int (1 : Int32))] [(.ref w_SUCCEEDED)])) rfl (by rw [hml]; rfl) (Steps.refl _) (argsL := []) (rest := []) (lenOf own_pd0 rfl) rfl (by show 2 * 0 + _ ≤ _; exact Nat.le_of_eq rfl) (hb hby at_98) (fun _ _ => ⟨rfl, e8, (by decide : 0 + 0 ≤ _), (by decide : 0 + 0 ≤ _)⟩)
    dsimp only [Pt.U, Pt.locs, Pt.cells, Pt.slots] at X9 l9 y9 z9 st9 hQ9
    subst l9 y9 z9
    obtain ⟨N9q, e9, hL9⟩ := hQ9
    have N9 := Fr.app N0 N9q
    rcases hL9 with ⟨rfl, hq9_0_0, -⟩ | ⟨rfl, hq9_1_0, hq9_1_1, -⟩ | ⟨rfl, hq9_2_0, hq9_2_1, hq9_2_2, -⟩ | ⟨rfl, hq9_3_0, hq9_3_1, hq9_3_2, hq9_3_3, -⟩ | ⟨rfl, hq9_4_0, hq9_4_1, hq9_4_2, hq9_4_3, -⟩
    · skip
      refine own_st (fun t k => st9.trans k) ?_
      show own_Go _ _ _ _ T9 (mkF m 101 #[.val (.int ip0), .val (.int (3 : Int32)), .val (.ref w_SUCCEEDED), .val (.int (1 : Int32))] [(.int (1 : Int32))])
      refine own_st (fun t k => XS.iloadN X9.here hx rfl (hb hby at_101) rfl k) ?_
      show own_Go _ _ _ _ T9 (mkF m 102 #[.val (.int ip0), .val (.int (3 : Int32)), .val (.ref w_SUCCEEDED), .val (.int (1 : Int32))] [(.int (1 : Int32)), (.int (1 : Int32))])
      refine own_st (fun t k => XS.icmpNo X9.here hx rfl (hb hby at_102) rfl (teq (by decide : (1 : Int32) = (1 : Int32))).2 k) ?_
      show own_Go _ _ _ _ T9 (mkF m 105 #[.val (.int ip0), .val (.int (3 : Int32)), .val (.ref w_SUCCEEDED), .val (.int (1 : Int32))] [])
      refine own_st (fun t k => XS.iconst X9.here hx rfl (hb hby at_105) k) ?_
      show own_Go _ _ _ _ T9 (mkF m 106 #[.val (.int ip0), .val (.int (3 : Int32)), .val (.ref w_SUCCEEDED), .val (.int (1 : Int32))] [(.int (1 : Int32))])
      refine own_st (fun t k => XS.goto X9.here hx rfl (pc0 := 106) (pc' := 110) rfl (hb hby at_106) (by decide) (by decide) k) ?_
      show own_Go _ _ _ _ T9 (mkF m 110 #[.val (.int ip0), .val (.int (3 : Int32)), .val (.ref w_SUCCEEDED), .val (.int (1 : Int32))] [(.int (1 : Int32))])
      exact own_retZ X9 hx hlk (t := .boolean) hret (by simp) (hb hby at_110) (by decide) (by decide) e9 ⟨rfl, N9⟩
    · skip
      exact absurd (rfl : w_SUCCEEDED = w_SUCCEEDED) hq9_1_0
    · skip
      exact absurd (rfl : w_SUCCEEDED = w_SUCCEEDED) hq9_2_0
    · skip
      exact absurd (rfl : w_SUCCEEDED = w_SUCCEEDED) hq9_3_0
    · skip
      exact absurd (rfl : w_SUCCEEDED = w_SUCCEEDED) hq9_4_0
  · rw [qr1]
    show own_Go _ _ _ _ s₁ (mkF m 7 #[.val (.int ip0), .unset, .unset, .unset] [(.int (4 : Int32))])
    refine own_st (fun t k => XS.istoreN X0.here hx rfl (hb hby at_7) rfl (l' := #[.val (.int ip0), .val (.int (4 : Int32)), .unset, .unset]) rfl k) ?_
    show own_Go _ _ _ _ s₁ (mkF m 8 #[.val (.int ip0), .val (.int (4 : Int32)), .unset, .unset] [])
    refine own_st (fun t k => XS.iloadN X0.here hx rfl (hb hby at_8) rfl k) ?_
    show own_Go _ _ _ _ s₁ (mkF m 9 #[.val (.int ip0), .val (.int (4 : Int32)), .unset, .unset] [(.int (4 : Int32))])
    refine own_st (fun t k => XS.ifYes X0.here hx rfl (pc0 := 9) (pc' := 21) rfl (hb hby at_9) rfl ((if0 _ _).trans (feq (by decide : ¬ ((4 : Int32) = (0 : Int32)))).2) (by decide) (by decide) k) ?_
    show own_Go _ _ _ _ s₁ (mkF m 21 #[.val (.int ip0), .val (.int (4 : Int32)), .unset, .unset] [])
    refine own_st (fun t k => XS.iloadN X0.here hx rfl (hb hby at_21) rfl k) ?_
    show own_Go _ _ _ _ s₁ (mkF m 22 #[.val (.int ip0), .val (.int (4 : Int32)), .unset, .unset] [(.int (4 : Int32))])
    refine own_st (fun t k => XS.iconst X0.here hx rfl (hb hby at_22) k) ?_
    show own_Go _ _ _ _ s₁ (mkF m 23 #[.val (.int ip0), .val (.int (4 : Int32)), .unset, .unset] [(.int (1 : Int32)), (.int (4 : Int32))])
    refine own_st (fun t k => XS.icmpYes X0.here hx rfl (pc0 := 23) (pc' := 35) rfl (hb hby at_23) rfl (feq (by decide : ¬ ((4 : Int32) = (1 : Int32)))).2 (by decide) (by decide) k) ?_
    show own_Go _ _ _ _ s₁ (mkF m 35 #[.val (.int ip0), .val (.int (4 : Int32)), .unset, .unset] [])
    refine own_st (fun t k => XS.iloadN X0.here hx rfl (hb hby at_35) rfl k) ?_
    show own_Go _ _ _ _ s₁ (mkF m 36 #[.val (.int ip0), .val (.int (4 : Int32)), .unset, .unset] [(.int (4 : Int32))])
    refine own_st (fun t k => XS.iconst X0.here hx rfl (hb hby at_36) k) ?_
    show own_Go _ _ _ _ s₁ (mkF m 37 #[.val (.int ip0), .val (.int (4 : Int32)), .unset, .unset] [(.int (2 : Int32)), (.int (4 : Int32))])
    refine own_st (fun t k => XS.icmpYes X0.here hx rfl (pc0 := 37) (pc' := 49) rfl (hb hby at_37) rfl (feq (by decide : ¬ ((4 : Int32) = (2 : Int32)))).2 (by decide) (by decide) k) ?_
    show own_Go _ _ _ _ s₁ (mkF m 49 #[.val (.int ip0), .val (.int (4 : Int32)), .unset, .unset] [])
    refine own_st (fun t k => XS.iloadN X0.here hx rfl (hb hby at_49) rfl k) ?_
    show own_Go _ _ _ _ s₁ (mkF m 50 #[.val (.int ip0), .val (.int (4 : Int32)), .unset, .unset] [(.int (4 : Int32))])
    refine own_st (fun t k => XS.iconst X0.here hx rfl (hb hby at_50) k) ?_
    show own_Go _ _ _ _ s₁ (mkF m 51 #[.val (.int ip0), .val (.int (4 : Int32)), .unset, .unset] [(.int (3 : Int32)), (.int (4 : Int32))])
    refine own_st (fun t k => XS.icmpYes X0.here hx rfl (pc0 := 51) (pc' := 63) rfl (hb hby at_51) rfl (feq (by decide : ¬ ((4 : Int32) = (3 : Int32)))).2 (by decide) (by decide) k) ?_
    show own_Go _ _ _ _ s₁ (mkF m 63 #[.val (.int ip0), .val (.int (4 : Int32)), .unset, .unset] [])
    refine own_st (fun t k => XS.iloadN X0.here hx rfl (hb hby at_63) rfl k) ?_
    show own_Go _ _ _ _ s₁ (mkF m 64 #[.val (.int ip0), .val (.int (4 : Int32)), .unset, .unset] [(.int (4 : Int32))])
    refine own_st (fun t k => XS.iconst X0.here hx rfl (hb hby at_64) k) ?_
    show own_Go _ _ _ _ s₁ (mkF m 65 #[.val (.int ip0), .val (.int (4 : Int32)), .unset, .unset] [(.int (4 : Int32)), (.int (4 : Int32))])
    refine own_st (fun t k => XS.icmpNo X0.here hx rfl (hb hby at_65) rfl (teq (by decide : (4 : Int32) = (4 : Int32))).2 k) ?_
    show own_Go _ _ _ _ s₁ (mkF m 68 #[.val (.int ip0), .val (.int (4 : Int32)), .unset, .unset] [])
    obtain ⟨T10, X10, e10, st10⟩ := getS2 X0 hx hZ hown (host := "") (Or.inl (own_w hw 20 rfl)) Via.refl e0 S_FAILED (g := (mkF m 68 #[.val (.int ip0), .val (.int (4 : Int32)), .unset, .unset] [])) rfl (hb hby at_68)
    refine own_st st10 ?_
    show own_Go _ _ _ _ T10 (mkF m 71 #[.val (.int ip0), .val (.int (4 : Int32)), .unset, .unset] [(.ref w_FAILED)])
    refine own_st (fun t k => XS.astoreN X10.here hx rfl (hb hby at_71) rfl rfl (l' := #[.val (.int ip0), .val (.int (4 : Int32)), .val (.ref w_FAILED), .unset]) rfl k) ?_
    show own_Go _ _ _ _ T10 (mkF m 72 #[.val (.int ip0), .val (.int (4 : Int32)), .val (.ref w_FAILED), .unset] [])
    refine own_st (fun t k => XS.iconst X10.here hx rfl (hb hby at_72) k) ?_
    show own_Go _ _ _ _ T10 (mkF m 73 #[.val (.int ip0), .val (.int (4 : Int32)), .val (.ref w_FAILED), .unset] [(.int (1 : Int32))])
    refine own_st (fun t k => XS.istoreN X10.here hx rfl (hb hby at_73) rfl (l' := #[.val (.int ip0), .val (.int (4 : Int32)), .val (.ref w_FAILED), .val (.int (1 : Int32))]) rfl k) ?_
    show own_Go _ _ _ _ T10 (mkF m 74 #[.val (.int ip0), .val (.int (4 : Int32)), .val (.ref w_FAILED), .val (.int (1 : Int32))] [])
    refine own_st (fun t k => XS.goto X10.here hx rfl (pc0 := 74) (pc' := 97) rfl (hb hby at_74) (by decide) (by decide) k) ?_
    show own_Go _ _ _ _ T10 (mkF m 97 #[.val (.int ip0), .val (.int (4 : Int32)), .val (.ref w_FAILED), .val (.int (1 : Int32))] [])
    refine own_st (fun t k => XS.aloadN X10.here hx rfl (hb hby at_97) rfl rfl k) ?_
    show own_Go _ _ _ _ T10 (mkF m 98 #[.val (.int ip0), .val (.int (4 : Int32)), .val (.ref w_FAILED), .val (.int (1 : Int32))] [(.ref w_FAILED)])
    obtain ⟨cq11, kq11, q11a, q11b, q11c⟩ := isOf hZ e10 E_w_FAILED
    obtain ⟨_, _, ⟨T11, L11, k11, n11⟩, -, X11, ⟨Lc11, hQ11, l11, y11, z11⟩, st11⟩ := X10.virtualBack hx (y := (⟨"com/example/ready_hands/readyhands/coordinator/JobState", "hasEnded", "()Z"⟩ : MethodName)) (z := (⟨"com/example/ready_hands/readyhands/coordinator/JobState", "hasEnded", "()Z"⟩ : MethodName)) hown (mvT hZ (own_w hw 4 rfl)) (mvT hZ (own_w hw 5 rfl)) (notFace_of_selects (args := #[]) (mvT hZ (own_w hw 7 rfl))) (mvT hZ (own_w hw 7 rfl)) (mvT hZ (own_w hw 6 rfl)) (by decide) (backOf (W := 0) (own_rm1 l Z a0 hw [] w_FAILED w_SUCCEEDED w_FAILED w_DEP_FAILED w_CANCELLED h0 n0 Z0 S_SUCCEEDED S_FAILED S_DEP_FAILED S_CANCELLED) hZ (own_w hw 8 rfl) (own_w hw 2 rfl) (by decide) (by decide)) q11a q11c (g := (mkF m 98 #[.val (.int ip0), .val (.int (4 : Int32)), .val (.ref w_FAILED), .val (.int (1 : Int32))] [(.ref w_FAILED)])) rfl (by rw [hml]; rfl) (Steps.refl _) (argsL := []) (rest := []) (lenOf own_pd0 rfl) rfl (by show 2 * 0 + _ ≤ _; exact Nat.le_of_eq rfl) (hb hby at_98) (fun _ _ => ⟨rfl, e10, (by decide : 0 + 0 ≤ _), (by decide : 0 + 0 ≤ _)⟩)
    dsimp only [Pt.U, Pt.locs, Pt.cells, Pt.slots] at X11 l11 y11 z11 st11 hQ11
    subst l11 y11 z11
    obtain ⟨N11q, e11, hL11⟩ := hQ11
    have N11 := Fr.app N0 N11q
    rcases hL11 with ⟨rfl, hq11_0_0, -⟩ | ⟨rfl, hq11_1_0, hq11_1_1, -⟩ | ⟨rfl, hq11_2_0, hq11_2_1, hq11_2_2, -⟩ | ⟨rfl, hq11_3_0, hq11_3_1, hq11_3_2, hq11_3_3, -⟩ | ⟨rfl, hq11_4_0, hq11_4_1, hq11_4_2, hq11_4_3, -⟩
    · skip
      exact absurd hq11_0_0 (Fld.ne F_ordinal_w_FAILED F_ordinal_w_SUCCEEDED (own_nei (by decide)))
    · skip
      refine own_st (fun t k => st11.trans k) ?_
      show own_Go _ _ _ _ T11 (mkF m 101 #[.val (.int ip0), .val (.int (4 : Int32)), .val (.ref w_FAILED), .val (.int (1 : Int32))] [(.int (1 : Int32))])
      refine own_st (fun t k => XS.iloadN X11.here hx rfl (hb hby at_101) rfl k) ?_
      show own_Go _ _ _ _ T11 (mkF m 102 #[.val (.int ip0), .val (.int (4 : Int32)), .val (.ref w_FAILED), .val (.int (1 : Int32))] [(.int (1 : Int32)), (.int (1 : Int32))])
      refine own_st (fun t k => XS.icmpNo X11.here hx rfl (hb hby at_102) rfl (teq (by decide : (1 : Int32) = (1 : Int32))).2 k) ?_
      show own_Go _ _ _ _ T11 (mkF m 105 #[.val (.int ip0), .val (.int (4 : Int32)), .val (.ref w_FAILED), .val (.int (1 : Int32))] [])
      refine own_st (fun t k => XS.iconst X11.here hx rfl (hb hby at_105) k) ?_
      show own_Go _ _ _ _ T11 (mkF m 106 #[.val (.int ip0), .val (.int (4 : Int32)), .val (.ref w_FAILED), .val (.int (1 : Int32))] [(.int (1 : Int32))])
      refine own_st (fun t k => XS.goto X11.here hx rfl (pc0 := 106) (pc' := 110) rfl (hb hby at_106) (by decide) (by decide) k) ?_
      show own_Go _ _ _ _ T11 (mkF m 110 #[.val (.int ip0), .val (.int (4 : Int32)), .val (.ref w_FAILED), .val (.int (1 : Int32))] [(.int (1 : Int32))])
      exact own_retZ X11 hx hlk (t := .boolean) hret (by simp) (hb hby at_110) (by decide) (by decide) e11 ⟨rfl, N11⟩
    · skip
      exact absurd (rfl : w_FAILED = w_FAILED) hq11_2_1
    · skip
      exact absurd (rfl : w_FAILED = w_FAILED) hq11_3_1
    · skip
      exact absurd (rfl : w_FAILED = w_FAILED) hq11_4_1
  · rw [qr1]
    show own_Go _ _ _ _ s₁ (mkF m 7 #[.val (.int ip0), .unset, .unset, .unset] [(.int (5 : Int32))])
    refine own_st (fun t k => XS.istoreN X0.here hx rfl (hb hby at_7) rfl (l' := #[.val (.int ip0), .val (.int (5 : Int32)), .unset, .unset]) rfl k) ?_
    show own_Go _ _ _ _ s₁ (mkF m 8 #[.val (.int ip0), .val (.int (5 : Int32)), .unset, .unset] [])
    refine own_st (fun t k => XS.iloadN X0.here hx rfl (hb hby at_8) rfl k) ?_
    show own_Go _ _ _ _ s₁ (mkF m 9 #[.val (.int ip0), .val (.int (5 : Int32)), .unset, .unset] [(.int (5 : Int32))])
    refine own_st (fun t k => XS.ifYes X0.here hx rfl (pc0 := 9) (pc' := 21) rfl (hb hby at_9) rfl ((if0 _ _).trans (feq (by decide : ¬ ((5 : Int32) = (0 : Int32)))).2) (by decide) (by decide) k) ?_
    show own_Go _ _ _ _ s₁ (mkF m 21 #[.val (.int ip0), .val (.int (5 : Int32)), .unset, .unset] [])
    refine own_st (fun t k => XS.iloadN X0.here hx rfl (hb hby at_21) rfl k) ?_
    show own_Go _ _ _ _ s₁ (mkF m 22 #[.val (.int ip0), .val (.int (5 : Int32)), .unset, .unset] [(.int (5 : Int32))])
    refine own_st (fun t k => XS.iconst X0.here hx rfl (hb hby at_22) k) ?_
    show own_Go _ _ _ _ s₁ (mkF m 23 #[.val (.int ip0), .val (.int (5 : Int32)), .unset, .unset] [(.int (1 : Int32)), (.int (5 : Int32))])
    refine own_st (fun t k => XS.icmpYes X0.here hx rfl (pc0 := 23) (pc' := 35) rfl (hb hby at_23) rfl (feq (by decide : ¬ ((5 : Int32) = (1 : Int32)))).2 (by decide) (by decide) k) ?_
    show own_Go _ _ _ _ s₁ (mkF m 35 #[.val (.int ip0), .val (.int (5 : Int32)), .unset, .unset] [])
    refine own_st (fun t k => XS.iloadN X0.here hx rfl (hb hby at_35) rfl k) ?_
    show own_Go _ _ _ _ s₁ (mkF m 36 #[.val (.int ip0), .val (.int (5 : Int32)), .unset, .unset] [(.int (5 : Int32))])
    refine own_st (fun t k => XS.iconst X0.here hx rfl (hb hby at_36) k) ?_
    show own_Go _ _ _ _ s₁ (mkF m 37 #[.val (.int ip0), .val (.int (5 : Int32)), .unset, .unset] [(.int (2 : Int32)), (.int (5 : Int32))])
    refine own_st (fun t k => XS.icmpYes X0.here hx rfl (pc0 := 37) (pc' := 49) rfl (hb hby at_37) rfl (feq (by decide : ¬ ((5 : Int32) = (2 : Int32)))).2 (by decide) (by decide) k) ?_
    show own_Go _ _ _ _ s₁ (mkF m 49 #[.val (.int ip0), .val (.int (5 : Int32)), .unset, .unset] [])
    refine own_st (fun t k => XS.iloadN X0.here hx rfl (hb hby at_49) rfl k) ?_
    show own_Go _ _ _ _ s₁ (mkF m 50 #[.val (.int ip0), .val (.int (5 : Int32)), .unset, .unset] [(.int (5 : Int32))])
    refine own_st (fun t k => XS.iconst X0.here hx rfl (hb hby at_50) k) ?_
    show own_Go _ _ _ _ s₁ (mkF m 51 #[.val (.int ip0), .val (.int (5 : Int32)), .unset, .unset] [(.int (3 : Int32)), (.int (5 : Int32))])
    refine own_st (fun t k => XS.icmpYes X0.here hx rfl (pc0 := 51) (pc' := 63) rfl (hb hby at_51) rfl (feq (by decide : ¬ ((5 : Int32) = (3 : Int32)))).2 (by decide) (by decide) k) ?_
    show own_Go _ _ _ _ s₁ (mkF m 63 #[.val (.int ip0), .val (.int (5 : Int32)), .unset, .unset] [])
    refine own_st (fun t k => XS.iloadN X0.here hx rfl (hb hby at_63) rfl k) ?_
    show own_Go _ _ _ _ s₁ (mkF m 64 #[.val (.int ip0), .val (.int (5 : Int32)), .unset, .unset] [(.int (5 : Int32))])
    refine own_st (fun t k => XS.iconst X0.here hx rfl (hb hby at_64) k) ?_
    show own_Go _ _ _ _ s₁ (mkF m 65 #[.val (.int ip0), .val (.int (5 : Int32)), .unset, .unset] [(.int (4 : Int32)), (.int (5 : Int32))])
    refine own_st (fun t k => XS.icmpYes X0.here hx rfl (pc0 := 65) (pc' := 77) rfl (hb hby at_65) rfl (feq (by decide : ¬ ((5 : Int32) = (4 : Int32)))).2 (by decide) (by decide) k) ?_
    show own_Go _ _ _ _ s₁ (mkF m 77 #[.val (.int ip0), .val (.int (5 : Int32)), .unset, .unset] [])
    refine own_st (fun t k => XS.iloadN X0.here hx rfl (hb hby at_77) rfl k) ?_
    show own_Go _ _ _ _ s₁ (mkF m 78 #[.val (.int ip0), .val (.int (5 : Int32)), .unset, .unset] [(.int (5 : Int32))])
    refine own_st (fun t k => XS.iconst X0.here hx rfl (hb hby at_78) k) ?_
    show own_Go _ _ _ _ s₁ (mkF m 79 #[.val (.int ip0), .val (.int (5 : Int32)), .unset, .unset] [(.int (5 : Int32)), (.int (5 : Int32))])
    refine own_st (fun t k => XS.icmpNo X0.here hx rfl (hb hby at_79) rfl (teq (by decide : (5 : Int32) = (5 : Int32))).2 k) ?_
    show own_Go _ _ _ _ s₁ (mkF m 82 #[.val (.int ip0), .val (.int (5 : Int32)), .unset, .unset] [])
    obtain ⟨T12, X12, e12, st12⟩ := getS2 X0 hx hZ hown (host := "") (Or.inl (own_w hw 18 rfl)) Via.refl e0 S_DEP_FAILED (g := (mkF m 82 #[.val (.int ip0), .val (.int (5 : Int32)), .unset, .unset] [])) rfl (hb hby at_82)
    refine own_st st12 ?_
    show own_Go _ _ _ _ T12 (mkF m 85 #[.val (.int ip0), .val (.int (5 : Int32)), .unset, .unset] [(.ref w_DEP_FAILED)])
    refine own_st (fun t k => XS.astoreN X12.here hx rfl (hb hby at_85) rfl rfl (l' := #[.val (.int ip0), .val (.int (5 : Int32)), .val (.ref w_DEP_FAILED), .unset]) rfl k) ?_
    show own_Go _ _ _ _ T12 (mkF m 86 #[.val (.int ip0), .val (.int (5 : Int32)), .val (.ref w_DEP_FAILED), .unset] [])
    refine own_st (fun t k => XS.iconst X12.here hx rfl (hb hby at_86) k) ?_
    show own_Go _ _ _ _ T12 (mkF m 87 #[.val (.int ip0), .val (.int (5 : Int32)), .val (.ref w_DEP_FAILED), .unset] [(.int (1 : Int32))])
    refine own_st (fun t k => XS.istoreN X12.here hx rfl (hb hby at_87) rfl (l' := #[.val (.int ip0), .val (.int (5 : Int32)), .val (.ref w_DEP_FAILED), .val (.int (1 : Int32))]) rfl k) ?_
    show own_Go _ _ _ _ T12 (mkF m 88 #[.val (.int ip0), .val (.int (5 : Int32)), .val (.ref w_DEP_FAILED), .val (.int (1 : Int32))] [])
    refine own_st (fun t k => XS.goto X12.here hx rfl (pc0 := 88) (pc' := 97) rfl (hb hby at_88) (by decide) (by decide) k) ?_
    show own_Go _ _ _ _ T12 (mkF m 97 #[.val (.int ip0), .val (.int (5 : Int32)), .val (.ref w_DEP_FAILED), .val (.int (1 : Int32))] [])
    refine own_st (fun t k => XS.aloadN X12.here hx rfl (hb hby at_97) rfl rfl k) ?_
    show own_Go _ _ _ _ T12 (mkF m 98 #[.val (.int ip0), .val (.int (5 : Int32)), .val (.ref w_DEP_FAILED), .val (.int (1 : Int32))] [(.ref w_DEP_FAILED)])
    obtain ⟨cq13, kq13, q13a, q13b, q13c⟩ := isOf hZ e12 E_w_DEP_FAILED
    obtain ⟨_, _, ⟨T13, L13, k13, n13⟩, -, X13, ⟨Lc13, hQ13, l13, y13, z13⟩, st13⟩ := X12.virtualBack hx (y := (⟨"com/example/ready_hands/readyhands/coordinator/JobState", "hasEnded", "()Z"⟩ : MethodName)) (z := (⟨"com/example/ready_hands/readyhands/coordinator/JobState", "hasEnded", "()Z"⟩ : MethodName)) hown (mvT hZ (own_w hw 4 rfl)) (mvT hZ (own_w hw 5 rfl)) (notFace_of_selects (args := #[]) (mvT hZ (own_w hw 7 rfl))) (mvT hZ (own_w hw 7 rfl)) (mvT hZ (own_w hw 6 rfl)) (by decide) (backOf (W := 0) (own_rm1 l Z a0 hw [] w_DEP_FAILED w_SUCCEEDED w_FAILED w_DEP_FAILED w_CANCELLED h0 n0 Z0 S_SUCCEEDED S_FAILED S_DEP_FAILED S_CANCELLED) hZ (own_w hw 8 rfl) (own_w hw 2 rfl) (by decide) (by decide)) q13a q13c (g := (mkF m 98 #[.val (.int ip0), .val (.int (5 : Int32)), .val (.ref w_DEP_FAILED), .val (.int (1 : Int32))] [(.ref w_DEP_FAILED)])) rfl (by rw [hml]; rfl) (Steps.refl _) (argsL := []) (rest := []) (lenOf own_pd0 rfl) rfl (by show 2 * 0 + _ ≤ _; exact Nat.le_of_eq rfl) (hb hby at_98) (fun _ _ => ⟨rfl, e12, (by decide : 0 + 0 ≤ _), (by decide : 0 + 0 ≤ _)⟩)
    dsimp only [Pt.U, Pt.locs, Pt.cells, Pt.slots] at X13 l13 y13 z13 st13 hQ13
    subst l13 y13 z13
    obtain ⟨N13q, e13, hL13⟩ := hQ13
    have N13 := Fr.app N0 N13q
    rcases hL13 with ⟨rfl, hq13_0_0, -⟩ | ⟨rfl, hq13_1_0, hq13_1_1, -⟩ | ⟨rfl, hq13_2_0, hq13_2_1, hq13_2_2, -⟩ | ⟨rfl, hq13_3_0, hq13_3_1, hq13_3_2, hq13_3_3, -⟩ | ⟨rfl, hq13_4_0, hq13_4_1, hq13_4_2, hq13_4_3, -⟩
    · skip
      exact absurd hq13_0_0 (Fld.ne F_ordinal_w_DEP_FAILED F_ordinal_w_SUCCEEDED (own_nei (by decide)))
    · skip
      exact absurd hq13_1_1 (Fld.ne F_ordinal_w_DEP_FAILED F_ordinal_w_FAILED (own_nei (by decide)))
    · skip
      refine own_st (fun t k => st13.trans k) ?_
      show own_Go _ _ _ _ T13 (mkF m 101 #[.val (.int ip0), .val (.int (5 : Int32)), .val (.ref w_DEP_FAILED), .val (.int (1 : Int32))] [(.int (1 : Int32))])
      refine own_st (fun t k => XS.iloadN X13.here hx rfl (hb hby at_101) rfl k) ?_
      show own_Go _ _ _ _ T13 (mkF m 102 #[.val (.int ip0), .val (.int (5 : Int32)), .val (.ref w_DEP_FAILED), .val (.int (1 : Int32))] [(.int (1 : Int32)), (.int (1 : Int32))])
      refine own_st (fun t k => XS.icmpNo X13.here hx rfl (hb hby at_102) rfl (teq (by decide : (1 : Int32) = (1 : Int32))).2 k) ?_
      show own_Go _ _ _ _ T13 (mkF m 105 #[.val (.int ip0), .val (.int (5 : Int32)), .val (.ref w_DEP_FAILED), .val (.int (1 : Int32))] [])
      refine own_st (fun t k => XS.iconst X13.here hx rfl (hb hby at_105) k) ?_
      show own_Go _ _ _ _ T13 (mkF m 106 #[.val (.int ip0), .val (.int (5 : Int32)), .val (.ref w_DEP_FAILED), .val (.int (1 : Int32))] [(.int (1 : Int32))])
      refine own_st (fun t k => XS.goto X13.here hx rfl (pc0 := 106) (pc' := 110) rfl (hb hby at_106) (by decide) (by decide) k) ?_
      show own_Go _ _ _ _ T13 (mkF m 110 #[.val (.int ip0), .val (.int (5 : Int32)), .val (.ref w_DEP_FAILED), .val (.int (1 : Int32))] [(.int (1 : Int32))])
      exact own_retZ X13 hx hlk (t := .boolean) hret (by simp) (hb hby at_110) (by decide) (by decide) e13 ⟨rfl, N13⟩
    · skip
      exact absurd (rfl : w_DEP_FAILED = w_DEP_FAILED) hq13_3_2
    · skip
      exact absurd (rfl : w_DEP_FAILED = w_DEP_FAILED) hq13_4_2
  · rw [qr1]
    show own_Go _ _ _ _ s₁ (mkF m 7 #[.val (.int ip0), .unset, .unset, .unset] [(.int (6 : Int32))])
    refine own_st (fun t k => XS.istoreN X0.here hx rfl (hb hby at_7) rfl (l' := #[.val (.int ip0), .val (.int (6 : Int32)), .unset, .unset]) rfl k) ?_
    show own_Go _ _ _ _ s₁ (mkF m 8 #[.val (.int ip0), .val (.int (6 : Int32)), .unset, .unset] [])
    refine own_st (fun t k => XS.iloadN X0.here hx rfl (hb hby at_8) rfl k) ?_
    show own_Go _ _ _ _ s₁ (mkF m 9 #[.val (.int ip0), .val (.int (6 : Int32)), .unset, .unset] [(.int (6 : Int32))])
    refine own_st (fun t k => XS.ifYes X0.here hx rfl (pc0 := 9) (pc' := 21) rfl (hb hby at_9) rfl ((if0 _ _).trans (feq (by decide : ¬ ((6 : Int32) = (0 : Int32)))).2) (by decide) (by decide) k) ?_
    show own_Go _ _ _ _ s₁ (mkF m 21 #[.val (.int ip0), .val (.int (6 : Int32)), .unset, .unset] [])
    refine own_st (fun t k => XS.iloadN X0.here hx rfl (hb hby at_21) rfl k) ?_
    show own_Go _ _ _ _ s₁ (mkF m 22 #[.val (.int ip0), .val (.int (6 : Int32)), .unset, .unset] [(.int (6 : Int32))])
    refine own_st (fun t k => XS.iconst X0.here hx rfl (hb hby at_22) k) ?_
    show own_Go _ _ _ _ s₁ (mkF m 23 #[.val (.int ip0), .val (.int (6 : Int32)), .unset, .unset] [(.int (1 : Int32)), (.int (6 : Int32))])
    refine own_st (fun t k => XS.icmpYes X0.here hx rfl (pc0 := 23) (pc' := 35) rfl (hb hby at_23) rfl (feq (by decide : ¬ ((6 : Int32) = (1 : Int32)))).2 (by decide) (by decide) k) ?_
    show own_Go _ _ _ _ s₁ (mkF m 35 #[.val (.int ip0), .val (.int (6 : Int32)), .unset, .unset] [])
    refine own_st (fun t k => XS.iloadN X0.here hx rfl (hb hby at_35) rfl k) ?_
    show own_Go _ _ _ _ s₁ (mkF m 36 #[.val (.int ip0), .val (.int (6 : Int32)), .unset, .unset] [(.int (6 : Int32))])
    refine own_st (fun t k => XS.iconst X0.here hx rfl (hb hby at_36) k) ?_
    show own_Go _ _ _ _ s₁ (mkF m 37 #[.val (.int ip0), .val (.int (6 : Int32)), .unset, .unset] [(.int (2 : Int32)), (.int (6 : Int32))])
    refine own_st (fun t k => XS.icmpYes X0.here hx rfl (pc0 := 37) (pc' := 49) rfl (hb hby at_37) rfl (feq (by decide : ¬ ((6 : Int32) = (2 : Int32)))).2 (by decide) (by decide) k) ?_
    show own_Go _ _ _ _ s₁ (mkF m 49 #[.val (.int ip0), .val (.int (6 : Int32)), .unset, .unset] [])
    refine own_st (fun t k => XS.iloadN X0.here hx rfl (hb hby at_49) rfl k) ?_
    show own_Go _ _ _ _ s₁ (mkF m 50 #[.val (.int ip0), .val (.int (6 : Int32)), .unset, .unset] [(.int (6 : Int32))])
    refine own_st (fun t k => XS.iconst X0.here hx rfl (hb hby at_50) k) ?_
    show own_Go _ _ _ _ s₁ (mkF m 51 #[.val (.int ip0), .val (.int (6 : Int32)), .unset, .unset] [(.int (3 : Int32)), (.int (6 : Int32))])
    refine own_st (fun t k => XS.icmpYes X0.here hx rfl (pc0 := 51) (pc' := 63) rfl (hb hby at_51) rfl (feq (by decide : ¬ ((6 : Int32) = (3 : Int32)))).2 (by decide) (by decide) k) ?_
    show own_Go _ _ _ _ s₁ (mkF m 63 #[.val (.int ip0), .val (.int (6 : Int32)), .unset, .unset] [])
    refine own_st (fun t k => XS.iloadN X0.here hx rfl (hb hby at_63) rfl k) ?_
    show own_Go _ _ _ _ s₁ (mkF m 64 #[.val (.int ip0), .val (.int (6 : Int32)), .unset, .unset] [(.int (6 : Int32))])
    refine own_st (fun t k => XS.iconst X0.here hx rfl (hb hby at_64) k) ?_
    show own_Go _ _ _ _ s₁ (mkF m 65 #[.val (.int ip0), .val (.int (6 : Int32)), .unset, .unset] [(.int (4 : Int32)), (.int (6 : Int32))])
    refine own_st (fun t k => XS.icmpYes X0.here hx rfl (pc0 := 65) (pc' := 77) rfl (hb hby at_65) rfl (feq (by decide : ¬ ((6 : Int32) = (4 : Int32)))).2 (by decide) (by decide) k) ?_
    show own_Go _ _ _ _ s₁ (mkF m 77 #[.val (.int ip0), .val (.int (6 : Int32)), .unset, .unset] [])
    refine own_st (fun t k => XS.iloadN X0.here hx rfl (hb hby at_77) rfl k) ?_
    show own_Go _ _ _ _ s₁ (mkF m 78 #[.val (.int ip0), .val (.int (6 : Int32)), .unset, .unset] [(.int (6 : Int32))])
    refine own_st (fun t k => XS.iconst X0.here hx rfl (hb hby at_78) k) ?_
    show own_Go _ _ _ _ s₁ (mkF m 79 #[.val (.int ip0), .val (.int (6 : Int32)), .unset, .unset] [(.int (5 : Int32)), (.int (6 : Int32))])
    refine own_st (fun t k => XS.icmpYes X0.here hx rfl (pc0 := 79) (pc' := 91) rfl (hb hby at_79) rfl (feq (by decide : ¬ ((6 : Int32) = (5 : Int32)))).2 (by decide) (by decide) k) ?_
    show own_Go _ _ _ _ s₁ (mkF m 91 #[.val (.int ip0), .val (.int (6 : Int32)), .unset, .unset] [])
    obtain ⟨T14, X14, e14, st14⟩ := getS2 X0 hx hZ hown (host := "") (Or.inl (own_w hw 19 rfl)) Via.refl e0 S_CANCELLED (g := (mkF m 91 #[.val (.int ip0), .val (.int (6 : Int32)), .unset, .unset] [])) rfl (hb hby at_91)
    refine own_st st14 ?_
    show own_Go _ _ _ _ T14 (mkF m 94 #[.val (.int ip0), .val (.int (6 : Int32)), .unset, .unset] [(.ref w_CANCELLED)])
    refine own_st (fun t k => XS.astoreN X14.here hx rfl (hb hby at_94) rfl rfl (l' := #[.val (.int ip0), .val (.int (6 : Int32)), .val (.ref w_CANCELLED), .unset]) rfl k) ?_
    show own_Go _ _ _ _ T14 (mkF m 95 #[.val (.int ip0), .val (.int (6 : Int32)), .val (.ref w_CANCELLED), .unset] [])
    refine own_st (fun t k => XS.iconst X14.here hx rfl (hb hby at_95) k) ?_
    show own_Go _ _ _ _ T14 (mkF m 96 #[.val (.int ip0), .val (.int (6 : Int32)), .val (.ref w_CANCELLED), .unset] [(.int (1 : Int32))])
    refine own_st (fun t k => XS.istoreN X14.here hx rfl (hb hby at_96) rfl (l' := #[.val (.int ip0), .val (.int (6 : Int32)), .val (.ref w_CANCELLED), .val (.int (1 : Int32))]) rfl k) ?_
    show own_Go _ _ _ _ T14 (mkF m 97 #[.val (.int ip0), .val (.int (6 : Int32)), .val (.ref w_CANCELLED), .val (.int (1 : Int32))] [])
    refine own_st (fun t k => XS.aloadN X14.here hx rfl (hb hby at_97) rfl rfl k) ?_
    show own_Go _ _ _ _ T14 (mkF m 98 #[.val (.int ip0), .val (.int (6 : Int32)), .val (.ref w_CANCELLED), .val (.int (1 : Int32))] [(.ref w_CANCELLED)])
    obtain ⟨cq15, kq15, q15a, q15b, q15c⟩ := isOf hZ e14 E_w_CANCELLED
    obtain ⟨_, _, ⟨T15, L15, k15, n15⟩, -, X15, ⟨Lc15, hQ15, l15, y15, z15⟩, st15⟩ := X14.virtualBack hx (y := (⟨"com/example/ready_hands/readyhands/coordinator/JobState", "hasEnded", "()Z"⟩ : MethodName)) (z := (⟨"com/example/ready_hands/readyhands/coordinator/JobState", "hasEnded", "()Z"⟩ : MethodName)) hown (mvT hZ (own_w hw 4 rfl)) (mvT hZ (own_w hw 5 rfl)) (notFace_of_selects (args := #[]) (mvT hZ (own_w hw 7 rfl))) (mvT hZ (own_w hw 7 rfl)) (mvT hZ (own_w hw 6 rfl)) (by decide) (backOf (W := 0) (own_rm1 l Z a0 hw [] w_CANCELLED w_SUCCEEDED w_FAILED w_DEP_FAILED w_CANCELLED h0 n0 Z0 S_SUCCEEDED S_FAILED S_DEP_FAILED S_CANCELLED) hZ (own_w hw 8 rfl) (own_w hw 2 rfl) (by decide) (by decide)) q15a q15c (g := (mkF m 98 #[.val (.int ip0), .val (.int (6 : Int32)), .val (.ref w_CANCELLED), .val (.int (1 : Int32))] [(.ref w_CANCELLED)])) rfl (by rw [hml]; rfl) (Steps.refl _) (argsL := []) (rest := []) (lenOf own_pd0 rfl) rfl (by show 2 * 0 + _ ≤ _; exact Nat.le_of_eq rfl) (hb hby at_98) (fun _ _ => ⟨rfl, e14, (by decide : 0 + 0 ≤ _), (by decide : 0 + 0 ≤ _)⟩)
    dsimp only [Pt.U, Pt.locs, Pt.cells, Pt.slots] at X15 l15 y15 z15 st15 hQ15
    subst l15 y15 z15
    obtain ⟨N15q, e15, hL15⟩ := hQ15
    have N15 := Fr.app N0 N15q
    rcases hL15 with ⟨rfl, hq15_0_0, -⟩ | ⟨rfl, hq15_1_0, hq15_1_1, -⟩ | ⟨rfl, hq15_2_0, hq15_2_1, hq15_2_2, -⟩ | ⟨rfl, hq15_3_0, hq15_3_1, hq15_3_2, hq15_3_3, -⟩ | ⟨rfl, hq15_4_0, hq15_4_1, hq15_4_2, hq15_4_3, -⟩
    · skip
      exact absurd hq15_0_0 (Fld.ne F_ordinal_w_CANCELLED F_ordinal_w_SUCCEEDED (own_nei (by decide)))
    · skip
      exact absurd hq15_1_1 (Fld.ne F_ordinal_w_CANCELLED F_ordinal_w_FAILED (own_nei (by decide)))
    · skip
      exact absurd hq15_2_2 (Fld.ne F_ordinal_w_CANCELLED F_ordinal_w_DEP_FAILED (own_nei (by decide)))
    · skip
      refine own_st (fun t k => st15.trans k) ?_
      show own_Go _ _ _ _ T15 (mkF m 101 #[.val (.int ip0), .val (.int (6 : Int32)), .val (.ref w_CANCELLED), .val (.int (1 : Int32))] [(.int (1 : Int32))])
      refine own_st (fun t k => XS.iloadN X15.here hx rfl (hb hby at_101) rfl k) ?_
      show own_Go _ _ _ _ T15 (mkF m 102 #[.val (.int ip0), .val (.int (6 : Int32)), .val (.ref w_CANCELLED), .val (.int (1 : Int32))] [(.int (1 : Int32)), (.int (1 : Int32))])
      refine own_st (fun t k => XS.icmpNo X15.here hx rfl (hb hby at_102) rfl (teq (by decide : (1 : Int32) = (1 : Int32))).2 k) ?_
      show own_Go _ _ _ _ T15 (mkF m 105 #[.val (.int ip0), .val (.int (6 : Int32)), .val (.ref w_CANCELLED), .val (.int (1 : Int32))] [])
      refine own_st (fun t k => XS.iconst X15.here hx rfl (hb hby at_105) k) ?_
      show own_Go _ _ _ _ T15 (mkF m 106 #[.val (.int ip0), .val (.int (6 : Int32)), .val (.ref w_CANCELLED), .val (.int (1 : Int32))] [(.int (1 : Int32))])
      refine own_st (fun t k => XS.goto X15.here hx rfl (pc0 := 106) (pc' := 110) rfl (hb hby at_106) (by decide) (by decide) k) ?_
      show own_Go _ _ _ _ T15 (mkF m 110 #[.val (.int ip0), .val (.int (6 : Int32)), .val (.ref w_CANCELLED), .val (.int (1 : Int32))] [(.int (1 : Int32))])
      exact own_retZ X15 hx hlk (t := .boolean) hret (by simp) (hb hby at_110) (by decide) (by decide) e15 ⟨rfl, N15⟩
    · skip
      exact absurd (rfl : w_CANCELLED = w_CANCELLED) hq15_4_3
set_option maxRecDepth 65536 in
set_option maxHeartbeats 40000000 in
theorem own_comes {Post : Tables → Env → Array Value → State → Outcome → State → Prop} (hpost : ∀ tb e args s v u, (limb_1_1.after args s (.returned v) u = true ∧ limb_1_2.after args s (.returned v) u = true ∧ True) → FrameEnd s (.returned v) u (Jvm.fieldLocs frame_1_writes args s ++ Jvm.arrayLocs frame_1_arrays args s ++ Jvm.staticLocs frame_1_statics s) 0 0 → Post tb e args s (.returned v) u) :
    ArmFor flags0 classFile x code maxLocals ret World_1 tables_1 room_1 Calls_1 rest_1 Pre_1 Post := by
  intro l hfl _ _ p e ha hc hk s m args below hf hA hF happ hP
  obtain ⟨hcalls, hrest, hpre⟩ := hP
  obtain ⟨-, -, -, hnamed, -, -, -, hat⟩ := (Spec.applies_iff hf).mp happ
  obtain ⟨hg, hn⟩ := and_e (Cond.before_iff.mp (show (Jvm.Cond.and given_1 narrow_1).before args s = true from hpre))
  obtain ⟨g27, g28⟩ := and_e hg
  obtain ⟨w0, rfl⟩ : ∃ w0 : Value, args = #[w0] := by
    have hs : args.size = 1 := by simpa [Cond.value, given_1] using g27
    obtain ⟨L⟩ := args
    match L, hs with
    | [w0], _ => exact ⟨w0, rfl⟩
  have hw := fun d (hd : d ∈ tables_1) => atoms_spec (ws := Jvm.Cond.code x code maxLocals ret :: tables_1) hat d (List.mem_cons_of_mem _ hd)
  obtain ⟨i0, ei0⟩ := is_v g28
  obtain rfl : w0 = (.int i0) := Option.some.inj ei0
  have hfit : Fit s := fun {y c} hc i hi => by
    obtain ⟨ha, rfl⟩ := Array.getElem?_eq_some_iff.mp hc
    have q := List.all_eq_true.mp ((Array.all_eq_true_iff_forall_mem.mp hF) _ (Array.getElem_mem ha)) i (List.mem_range.mpr hi)
    simpa [Array.getElem?_eq_getElem hi] using q
  obtain ⟨g1, g2⟩ := and_e hn
  obtain ⟨g3, g4⟩ := and_e g2
  obtain ⟨g5, g6⟩ := and_e g4
  obtain ⟨g7, g8⟩ := and_e g6
  obtain ⟨g9, g10⟩ := and_e g8
  obtain ⟨g11, g12⟩ := and_e g10
  obtain ⟨g13, g14⟩ := and_e g12
  obtain ⟨g15, g16⟩ := and_e g14
  obtain ⟨g17, g18⟩ := and_e g16
  obtain ⟨g19, g20⟩ := and_e g18
  obtain ⟨g21, g22⟩ := and_e g20
  obtain ⟨g23, g24⟩ := and_e g22
  obtain ⟨g25, g26⟩ := and_e g24
  obtain ⟨w_WAITING, ev_w_WAITING⟩ := exa_v g1
  have S_WAITING := Sta.start ev_w_WAITING (Or.inr ⟨(own_w hw 2 rfl), (own_w hw 3 rfl)⟩)
  have E_w_WAITING := Exa.start ev_w_WAITING g1
  obtain ⟨w_SUCCEEDED, ev_w_SUCCEEDED⟩ := exa_v g3
  have S_SUCCEEDED := Sta.start ev_w_SUCCEEDED (Or.inr ⟨(own_w hw 2 rfl), (own_w hw 10 rfl)⟩)
  have E_w_SUCCEEDED := Exa.start ev_w_SUCCEEDED g3
  obtain ⟨w_FAILED, ev_w_FAILED⟩ := exa_v g9
  have S_FAILED := Sta.start ev_w_FAILED (Or.inr ⟨(own_w hw 2 rfl), (own_w hw 12 rfl)⟩)
  have E_w_FAILED := Exa.start ev_w_FAILED g9
  obtain ⟨w_DEP_FAILED, ev_w_DEP_FAILED⟩ := exa_v g13
  have S_DEP_FAILED := Sta.start ev_w_DEP_FAILED (Or.inr ⟨(own_w hw 2 rfl), (own_w hw 14 rfl)⟩)
  have E_w_DEP_FAILED := Exa.start ev_w_DEP_FAILED g13
  obtain ⟨w_CANCELLED, ev_w_CANCELLED⟩ := exa_v g17
  have S_CANCELLED := Sta.start ev_w_CANCELLED (Or.inr ⟨(own_w hw 2 rfl), (own_w hw 16 rfl)⟩)
  have E_w_CANCELLED := Exa.start ev_w_CANCELLED g17
  obtain ⟨w_RUNNING, ev_w_RUNNING⟩ := exa_v g21
  have S_RUNNING := Sta.start ev_w_RUNNING (Or.inr ⟨(own_w hw 2 rfl), (own_w hw 22 rfl)⟩)
  have E_w_RUNNING := Exa.start ev_w_RUNNING g21
  obtain ⟨w_QUEUED, ev_w_QUEUED⟩ := exa_v g25
  have S_QUEUED := Sta.start ev_w_QUEUED (Or.inr ⟨(own_w hw 2 rfl), (own_w hw 24 rfl)⟩)
  have E_w_QUEUED := Exa.start ev_w_QUEUED g25
  have F_ordinal_w_WAITING := Fld.start ((fld_at ev_w_WAITING).symm.trans (own_eqI g5 (Term.int_eval _)))
  have F_ordinal_w_SUCCEEDED := Fld.start ((fld_at ev_w_SUCCEEDED).symm.trans (own_eqI g7 (Term.int_eval _)))
  have F_ordinal_w_FAILED := Fld.start ((fld_at ev_w_FAILED).symm.trans (own_eqI g11 (Term.int_eval _)))
  have F_ordinal_w_DEP_FAILED := Fld.start ((fld_at ev_w_DEP_FAILED).symm.trans (own_eqI g15 (Term.int_eval _)))
  have F_ordinal_w_CANCELLED := Fld.start ((fld_at ev_w_CANCELLED).symm.trans (own_eqI g19 (Term.int_eval _)))
  have F_ordinal_w_RUNNING := Fld.start ((fld_at ev_w_RUNNING).symm.trans (own_eqI g23 (Term.int_eval _)))
  have F_ordinal_w_QUEUED := Fld.start ((fld_at ev_w_QUEUED).symm.trans (own_eqI g26 (Term.int_eval _)))
  obtain ⟨n, o, h1, h2, h3, _, L, rfl, ⟨rfl, N⟩, hq⟩ := own_rm0 l s _ hw tables_1 i0 w_WAITING w_SUCCEEDED w_FAILED w_DEP_FAILED w_CANCELLED w_RUNNING w_QUEUED s.heap s.heap.size (Nat.le_refl _) S_WAITING E_w_WAITING S_SUCCEEDED E_w_SUCCEEDED S_FAILED E_w_FAILED S_DEP_FAILED E_w_DEP_FAILED S_CANCELLED E_w_CANCELLED S_RUNNING E_w_RUNNING S_QUEUED E_w_QUEUED F_ordinal_w_WAITING F_ordinal_w_SUCCEEDED F_ordinal_w_FAILED F_ordinal_w_DEP_FAILED F_ordinal_w_CANCELLED F_ordinal_w_RUNNING F_ordinal_w_QUEUED p e ha hc hk s m _ below hf ((Spec.applies_iff_loose hf).mp happ).1 ⟨rfl, State.Warmed39.refl s, rfl⟩ trivial
  exact ⟨n, _, h1, h2, h3, hpost _ _ _ _ _ _ ⟨Cond.after_iff.mpr rfl, Cond.after_iff.mpr (eq_i res_at (Term.int_eval (1)) rfl), trivial⟩ ⟨hq.1, hq.2.1, (hq.2.2.sift fun y hy => Or.inr (N y hy)).mono (by decide) (by decide)⟩⟩
theorem main_1_1 : Claimed_1_1 := own_comes fun _ _ _ _ _ _ h hF => ⟨h.1, hF⟩
theorem main_1_2 : Claimed_1_2 := own_comes fun _ _ _ _ _ _ h hF => ⟨h.2.1, hF⟩
end Jvm.Pilot.@@N@@
namespace Jvm.Pilot.@@N@@
open Jvm Jvm.ClassFile Sem Op Lib Jvm.Free Jvm.Stand Jvm.Pilot.@@N@@.Jvm.D
/-! MADE BY PROGRAM (witnessworld.py) out of the Statement's table words and the real class files: 12 classes; the members and pool entries that the words name. The judged class is class 1, her method 1. -/
namespace start1
open Jvm.ClassFile
def u (s : String) : CpInfo := .utf8 (stringToUtf16 s)
/-- a pool by its gaps: so many unusable entries, then the entry; so many at the end -/
def gap : Nat → List CpInfo → List CpInfo
  | 0, r => r
  | n + 1, r => .unusable :: gap n r
def poolList (es : List (Nat × CpInfo)) (last : Nat) : List CpInfo := es.foldr (fun e r => gap e.1 (e.2 :: r)) (gap last [])
def pool (es : List (Nat × CpInfo)) (last : Nat) : Array CpInfo := ⟨poolList es last⟩
def fileOf (pool : Array CpInfo) (this : Nat) (attrs : Array Attribute := #[]) (ms : Array MethodInfo := #[]) (fl : Nat := 33) (sup : Nat := 0) (ifs : Array Nat := #[]) (fds : Array FieldInfo := #[]) : ClassFile where
  minorVersion := 0
  majorVersion := 65
  constantPool := pool
  accessFlags := fl
  thisClass := this
  superClass := sup
  interfaces := ifs
  fields := fds
  methods := ms
  attributes := attrs
def plain (name : String) (sup : Option ClassId) : Class where
  name := name
  kind := .ordinary
  loader := none
  accessFlags := 33
  super := sup
  interfaces := #[]
  cf := none
  fields := #[]
  methods := #[]
  instanceTypes := #[]
  staticTypes := #[]
  resolved := #[]
  callSites := []
  init := .initialized
  statics := none
  mirror := none

def pool0 : Array CpInfo := pool [(5, u "<init>"), (0, u "()V"), (1, .class_ 10), (1, u "java/lang/Object")] 113

def k0m0 : Method := { name := "<init>", desc := "()V", sig := { parameters := [], returnType := none }, accessFlags := 1, code := none }
/-- java/lang/Object -/
def k0 : Class := { plain "java/lang/Object" none with
  accessFlags := 33
  interfaces := #[]
  cf := some (fileOf pool0 8 #[] #[{ accessFlags := 1, nameIndex := 5, descriptorIndex := 6, attributes := #[] }] 33 0 #[] #[])
  fields := #[]
  methods := #[k0m0]
  instanceTypes := #[]
  staticTypes := #[]
  resolved := Array.replicate 124 none
  statics := none }

def pool1 : Array CpInfo := pool [(2, .class_ 4), (1, u "java/lang/Object"), (0, u "<init>"), (0, u "()V"), (0, .integer 2147483647), (0, .fieldref 9 10), (0, .class_ 11), (0, .nameAndType 12 13), (0, u "com/example/ready_hands/readyhands/coordinator/JobState"), (0, u "WAITING"), (0, u "Lcom/example/ready_hands/readyhands/coordinator/JobState;"), (0, .fieldref 9 15), (0, .nameAndType 16 13), (0, u "QUEUED"), (0, .fieldref 9 18), (0, .nameAndType 19 13), (0, u "RUNNING"), (0, .fieldref 9 21), (0, .nameAndType 22 13), (0, u "SUCCEEDED"), (0, .fieldref 9 24), (0, .nameAndType 25 13), (0, u "FAILED"), (0, .fieldref 9 27), (0, .nameAndType 28 13), (0, u "DEP_FAILED"), (0, .fieldref 9 30), (0, .nameAndType 31 13), (0, u "CANCELLED"), (0, .methodref 9 33), (0, .nameAndType 34 35), (0, u "hasEnded"), (0, u "()Z"), (0, .class_ 37), (0, u "com/example/ready_hands/readyhands/coordinator/JobStateHasEndedPinLaw"), (2, u "law"), (0, u "(I)Z")] 3

def k1m0 : Method := { name := "<init>", desc := "()V", sig := { parameters := [], returnType := none }, accessFlags := 1, code := none }
def k1c1 : Code := { maxStack := 2, maxLocals := 4, code := code, exceptionTable := #[], attributes := #[] }
def k1m1 : Method := { name := "law", desc := "(I)Z", sig := { parameters := [.int], returnType := some .boolean }, accessFlags := 9, code := some k1c1 }
/-- com/example/ready_hands/readyhands/coordinator/JobStateHasEndedPinLaw -/
def k1 : Class := { plain "com/example/ready_hands/readyhands/coordinator/JobStateHasEndedPinLaw" (some 0) with
  accessFlags := 49
  interfaces := #[]
  cf := some (fileOf pool1 36 #[] #[{ accessFlags := 1, nameIndex := 5, descriptorIndex := 6, attributes := #[] }, { accessFlags := 9, nameIndex := 40, descriptorIndex := 41, attributes := #[] }] 49 2 #[] #[])
  fields := #[]
  methods := #[k1m0, k1m1]
  instanceTypes := #[]
  staticTypes := #[]
  resolved := Array.replicate 45 none
  statics := none }

def pool2 : Array CpInfo := pool [(1, .class_ 2), (0, u "java/lang/constant/Constable"), (0, .class_ 4), (0, u "java/lang/Object")] 6

/-- java/lang/constant/Constable -/
def k2 : Class := { plain "java/lang/constant/Constable" (some 0) with
  accessFlags := 1537
  interfaces := #[]
  cf := some (fileOf pool2 1 #[] #[] 1537 3 #[] #[])
  fields := #[]
  methods := #[]
  instanceTypes := #[]
  staticTypes := #[]
  resolved := Array.replicate 11 none
  statics := none }

def pool3 : Array CpInfo := pool [(1, .class_ 2), (0, u "java/lang/Comparable"), (0, .class_ 4), (0, u "java/lang/Object")] 7

/-- java/lang/Comparable -/
def k3 : Class := { plain "java/lang/Comparable" (some 0) with
  accessFlags := 1537
  interfaces := #[]
  cf := some (fileOf pool3 1 #[] #[] 1537 3 #[] #[])
  fields := #[]
  methods := #[]
  instanceTypes := #[]
  staticTypes := #[]
  resolved := Array.replicate 12 none
  statics := none }

def pool4 : Array CpInfo := pool [(1, .class_ 2), (0, u "java/io/Serializable"), (0, .class_ 4), (0, u "java/lang/Object")] 2

/-- java/io/Serializable -/
def k4 : Class := { plain "java/io/Serializable" (some 0) with
  accessFlags := 1537
  interfaces := #[]
  cf := some (fileOf pool4 1 #[] #[] 1537 3 #[] #[])
  fields := #[]
  methods := #[]
  instanceTypes := #[]
  staticTypes := #[]
  resolved := Array.replicate 7 none
  statics := none }

def pool5 : Array CpInfo := pool [(2, .class_ 4), (1, u "java/lang/Enum"), (0, u "name"), (0, u "Ljava/lang/String;"), (2, u "ordinal"), (0, u "I"), (1, .class_ 14), (1, u "java/lang/Object"), (4, u "hash"), (86, .class_ 108), (1, u "java/lang/Enum$EnumDesc"), (2, .class_ 112), (0, u "java/lang/constant/Constable"), (0, .class_ 114), (0, u "java/lang/Comparable"), (0, .class_ 116), (0, u "java/io/Serializable")] 87

/-- java/lang/Enum -/
def k5 : Class := { plain "java/lang/Enum" (some 0) with
  accessFlags := 1057
  interfaces := #[2, 3, 4]
  cf := some (fileOf pool5 2 #[.nestMembers #[106]] #[] 1057 12 #[111, 113, 115] #[{ accessFlags := 18, nameIndex := 5, descriptorIndex := 6, attributes := #[] }, { accessFlags := 18, nameIndex := 9, descriptorIndex := 10, attributes := #[] }, { accessFlags := 2, nameIndex := 19, descriptorIndex := 10, attributes := #[] }])
  fields := #[{ name := "name", type := (.object "java/lang/String"), accessFlags := 18, slot := 0, constantValue := 0 }, { name := "ordinal", type := .int, accessFlags := 18, slot := 1, constantValue := 0 }, { name := "hash", type := .int, accessFlags := 2, slot := 2, constantValue := 0 }]
  methods := #[]
  instanceTypes := #[(.object "java/lang/String"), .int, .int]
  staticTypes := #[]
  resolved := Array.replicate 204 none
  statics := none }

def pool6 : Array CpInfo := pool [(1, .class_ 2), (0, u "com/example/ready_hands/readyhands/coordinator/JobState"), (2, u "WAITING"), (0, u "Lcom/example/ready_hands/readyhands/coordinator/JobState;"), (2, u "QUEUED"), (2, u "RUNNING"), (0, .fieldref 1 14), (0, .nameAndType 15 6), (0, u "SUCCEEDED"), (0, .fieldref 1 17), (0, .nameAndType 18 6), (0, u "FAILED"), (0, .fieldref 1 20), (0, .nameAndType 21 6), (0, u "DEP_FAILED"), (0, .fieldref 1 23), (0, .nameAndType 24 6), (0, u "CANCELLED"), (2, u "$VALUES"), (0, u "[Lcom/example/ready_hands/readyhands/coordinator/JobState;"), (6, .class_ 37), (1, u "java/lang/Enum"), (22, u "BY_WIRE_NAME"), (0, u "Ljava/util/Map;"), (79, u "hasEnded"), (0, u "()Z")] 34

def k6c0 : Code := { maxStack := 2, maxLocals := 1, code := prog_10_method_8_code, exceptionTable := #[], attributes := #[] }
def k6m0 : Method := { name := "hasEnded", desc := "()Z", sig := { parameters := [], returnType := some .boolean }, accessFlags := 0, code := some k6c0 }
/-- com/example/ready_hands/readyhands/coordinator/JobState -/
def k6 : Class := { plain "com/example/ready_hands/readyhands/coordinator/JobState" (some 5) with
  accessFlags := 16432
  interfaces := #[]
  cf := some (fileOf pool6 1 #[] #[{ accessFlags := 0, nameIndex := 141, descriptorIndex := 142, attributes := #[] }] 16432 35 #[] #[{ accessFlags := 16409, nameIndex := 5, descriptorIndex := 6, attributes := #[] }, { accessFlags := 16409, nameIndex := 9, descriptorIndex := 6, attributes := #[] }, { accessFlags := 16409, nameIndex := 12, descriptorIndex := 6, attributes := #[] }, { accessFlags := 16409, nameIndex := 15, descriptorIndex := 6, attributes := #[] }, { accessFlags := 16409, nameIndex := 18, descriptorIndex := 6, attributes := #[] }, { accessFlags := 16409, nameIndex := 21, descriptorIndex := 6, attributes := #[] }, { accessFlags := 16409, nameIndex := 24, descriptorIndex := 6, attributes := #[] }, { accessFlags := 26, nameIndex := 60, descriptorIndex := 61, attributes := #[] }, { accessFlags := 4122, nameIndex := 27, descriptorIndex := 28, attributes := #[] }])
  fields := #[{ name := "WAITING", type := (.object "com/example/ready_hands/readyhands/coordinator/JobState"), accessFlags := 16409, slot := 0, constantValue := 0 }, { name := "QUEUED", type := (.object "com/example/ready_hands/readyhands/coordinator/JobState"), accessFlags := 16409, slot := 1, constantValue := 0 }, { name := "RUNNING", type := (.object "com/example/ready_hands/readyhands/coordinator/JobState"), accessFlags := 16409, slot := 2, constantValue := 0 }, { name := "SUCCEEDED", type := (.object "com/example/ready_hands/readyhands/coordinator/JobState"), accessFlags := 16409, slot := 3, constantValue := 0 }, { name := "FAILED", type := (.object "com/example/ready_hands/readyhands/coordinator/JobState"), accessFlags := 16409, slot := 4, constantValue := 0 }, { name := "DEP_FAILED", type := (.object "com/example/ready_hands/readyhands/coordinator/JobState"), accessFlags := 16409, slot := 5, constantValue := 0 }, { name := "CANCELLED", type := (.object "com/example/ready_hands/readyhands/coordinator/JobState"), accessFlags := 16409, slot := 6, constantValue := 0 }, { name := "BY_WIRE_NAME", type := (.object "java/util/Map"), accessFlags := 26, slot := 7, constantValue := 0 }, { name := "$VALUES", type := (.array (.object "com/example/ready_hands/readyhands/coordinator/JobState")), accessFlags := 4122, slot := 8, constantValue := 0 }]
  methods := #[k6m0]
  instanceTypes := #[(.object "java/lang/String"), .int, .int]
  staticTypes := #[(.object "com/example/ready_hands/readyhands/coordinator/JobState"), (.object "com/example/ready_hands/readyhands/coordinator/JobState"), (.object "com/example/ready_hands/readyhands/coordinator/JobState"), (.object "com/example/ready_hands/readyhands/coordinator/JobState"), (.object "com/example/ready_hands/readyhands/coordinator/JobState"), (.object "com/example/ready_hands/readyhands/coordinator/JobState"), (.object "com/example/ready_hands/readyhands/coordinator/JobState"), (.object "java/util/Map"), (.array (.object "com/example/ready_hands/readyhands/coordinator/JobState"))]
  resolved := Array.replicate 177 none
  statics := some 0 }

def pool7 : Array CpInfo := pool [(1, u "java/lang/Cloneable"), (0, .class_ 1), (0, u "java/lang/Object"), (0, .class_ 3)] 3

/-- java/lang/Cloneable -/
def k7 : Class := { plain "java/lang/Cloneable" (some 0) with
  accessFlags := 1537
  interfaces := #[]
  cf := some (fileOf pool7 2 #[] #[] 1537 4 #[] #[])
  fields := #[]
  methods := #[]
  instanceTypes := #[]
  staticTypes := #[]
  resolved := Array.replicate 8 none
  statics := none }

/-- the primitive byte -/
def k8 : Class := { plain "byte" none with kind := .primitive 'B', accessFlags := 0x411 }
/-- [B -/
def k9 : Class := { plain "[B" (some 0) with kind := .array 8 .byte, interfaces := #[7, 4], accessFlags := 1041 }

/-- the primitive int -/
def k10 : Class := { plain "int" none with kind := .primitive 'I', accessFlags := 0x411 }
/-- [I -/
def k11 : Class := { plain "[I" (some 0) with kind := .array 10 .int, interfaces := #[7, 4], accessFlags := 1041 }

def heap : Heap := #[{ cls := 6, slots := #[.ref 1, .ref 7, .ref 6, .ref 2, .ref 3, .ref 4, .ref 5, .null, .null], vm := .statics 6 },
  { cls := 6, slots := #[.null, .int 0, .int 0], vm := .none },
  { cls := 6, slots := #[.null, .int 3, .int 0], vm := .none },
  { cls := 6, slots := #[.null, .int 4, .int 0], vm := .none },
  { cls := 6, slots := #[.null, .int 5, .int 0], vm := .none },
  { cls := 6, slots := #[.null, .int 6, .int 0], vm := .none },
  { cls := 6, slots := #[.null, .int 2, .int 0], vm := .none },
  { cls := 6, slots := #[.null, .int 1, .int 0], vm := .none }]
def classes : Array Class := #[k0, k1, k2, k3, k4, k5, k6, k7, k8, k9, k10, k11]
def interned : List (Array UInt16 × Addr) := []
def slotsUsed : Nat := 30
def theMethod : MethodId := ⟨1, 1⟩
def args0 : Array Value := #[.int 5]
def aboutOver (below : List Frame) : State where
  vm := { classes := classes, interned := interned.toArray }
  heap := heap
  slotsUsed := slotsUsed
  threads := #[{ frames := .invoking theMethod args0 :: below }]
def below0 : List Frame := [.native { method := ⟨0, 0⟩, args := #[] }]
def about1 : State := aboutOver below0
def p0 : Program := .bare "" "" ""
def e0 : Env := launch0.env 0 0 0
theorem w_frames : about1.frames = Frame.invoking theMethod args0 :: below0 := rfl
set_option maxRecDepth 65536 in
theorem w_args : argsFit about1.vm theMethod args0 = true := by decide +kernel
set_option maxRecDepth 65536 in
theorem w_heap : heapFits about1 = true := by decide +kernel
set_option maxRecDepth 65536 in
theorem w_runnable : about1.curStatus? = some .runnable := by decide +kernel
set_option maxRecDepth 65536 in
theorem w_alone : about1.alone = true := by decide +kernel
set_option maxRecDepth 65536 in
theorem w_named : about1.methodNamed? x = some theMethod := by decide +kernel
set_option maxRecDepth 65536 in
theorem w_hears : about1.hears theMethod below0 = true := by decide +kernel
set_option maxRecDepth 65536 in
theorem w_ripe : about1.ripe theMethod args0 below0 = true := by decide +kernel
theorem w_running : about1.status = .running := rfl
set_option maxRecDepth 65536 in
theorem w_room : about1.hasRoom e0.platform room_1 = true :=
  launch0.hasRoom_least _ room_1 (by decide +kernel) (by decide +kernel) (by decide +kernel) (by decide +kernel) (by decide +kernel) (by decide +kernel)
theorem allAtoms_all (ts : List Jvm.Cond) (a : Array Jvm.Value) (st : Jvm.State) : (allAtoms ts).before a st = ts.all (fun c => c.before a st) := by
  induction ts with
  | nil => rfl
  | cons c t ih =>
    show (Jvm.Cond.and c (allAtoms t)).before a st = _
    rw [Jvm.Cond.before_and, ih, List.all_cons]
def words1 : List Jvm.Cond := Jvm.Cond.code x code maxLocals ret :: tables_1
/-- a 'code' word, met by the world's own term for the bytes: nothing is compared byte by byte -/
theorem code_word {y : MethodName} {bytes : ByteArray} {mx : Nat} {rt : Option FieldType} {a : Array Value} {s : State} {m : MethodId} {meth : Method} {c : Code} (h1 : s.methodNamed? y = some m) (h2 : s.vm.method? m = some meth) (h3 : meth.code = some c) (h4 : c.code = bytes)
    (h5 : (c.maxLocals == mx && c.exceptionTable.isEmpty && decide (c.maxStack ≤ mostOperands) && decide (meth.sig.returnType = rt) && !meth.locks && decide (parseMethodDescriptor y.desc = some meth.sig)) = true) : (Jvm.Cond.code y bytes mx rt).before a s = true := by
  simp only [Bool.and_eq_true, beq_iff_eq, Bool.not_eq_true', decide_eq_true_eq] at h5
  obtain ⟨⟨⟨⟨⟨g1, g2⟩, g3⟩, g4⟩, g5⟩, g6⟩ := h5
  simp [Cond.before, Cond.holds, Cond.value, h1, h2, h3, h4, g1, g2, g3, g4, g5, g6]
def isCode : Jvm.Cond → Bool
  | .code _ _ _ _ => true
  | _ => false
theorem all_split {L : List Jvm.Cond} {P : Jvm.Cond → Bool} (h1 : L.all (fun c => isCode c || P c) = true) (h2 : ∀ c ∈ L.filter isCode, P c = true) : L.all P = true := by
  refine List.all_eq_true.mpr fun c hc => ?_
  have h := List.all_eq_true.mp h1 c hc
  rcases Bool.eq_false_or_eq_true (isCode c) with hi | hi
  · exact h2 c (List.mem_filter.mpr ⟨hc, hi⟩)
  · simpa [hi] using h
set_option maxRecDepth 65536 in
theorem w_c0 : (Jvm.Cond.code x code maxLocals ret).before args0 about1 = true := code_word (m := ⟨1, 1⟩) (meth := k1m1) (c := k1c1) (by decide +kernel) rfl rfl rfl (by decide +kernel)
set_option maxRecDepth 65536 in
theorem w_c1 : (Jvm.Cond.code ({ cls := "com/example/ready_hands/readyhands/coordinator/JobState", name := "hasEnded", desc := "()Z" } : Jvm.MethodName) prog_10_method_8_code (1 : Nat) (Option.some Jvm.ClassFile.FieldType.boolean)).before args0 about1 = true := code_word (m := ⟨6, 0⟩) (meth := k6m0) (c := k6c0) (by decide +kernel) rfl rfl rfl (by decide +kernel)
def codes1 : List Jvm.Cond := [Jvm.Cond.code x code maxLocals ret, Jvm.Cond.code ({ cls := "com/example/ready_hands/readyhands/coordinator/JobState", name := "hasEnded", desc := "()Z" } : Jvm.MethodName) prog_10_method_8_code (1 : Nat) (Option.some Jvm.ClassFile.FieldType.boolean)]
set_option maxRecDepth 65536 in
theorem codes_eq : words1.filter isCode = codes1 := rfl
theorem w_codes : ∀ c ∈ words1.filter isCode, c.before args0 about1 = true := by
  rw [codes_eq]
  intro c hc
  simp only [codes1, List.mem_cons, List.not_mem_nil, or_false] at hc
  rcases hc with rfl | rfl
  · exact w_c0
  · exact w_c1
set_option maxRecDepth 65536 in
theorem w_t1 : (words1.take 24).all (fun c => isCode c || c.before args0 about1) = true := by decide +kernel
set_option maxRecDepth 65536 in
theorem w_t2 : (words1.drop 24).all (fun c => isCode c || c.before args0 about1) = true := by decide +kernel
theorem w_tables : (allAtoms (Jvm.Cond.code x code maxLocals ret :: tables_1)).before args0 about1 = true := by
  rw [allAtoms_all]
  show words1.all (fun c => c.before args0 about1) = true
  refine all_split ?_ w_codes
  rw [← List.take_append_drop 24 words1, List.all_append, w_t1, w_t2]
  rfl
set_option maxRecDepth 65536 in
theorem w_case : (Jvm.Cond.and given_1 narrow_1).before args0 about1 = true := by decide +kernel
theorem w_applies : (headSpec (Jvm.Cond.code x code maxLocals ret :: tables_1) room_1).applies x e0.platform about1 = true :=
  (Spec.applies_iff w_frames).mpr ⟨w_running, w_runnable, w_alone, w_named, w_hears, w_ripe, w_room, w_tables⟩
theorem atStart : AtStart classFile x code maxLocals ret World_1 tables_1 room_1 Calls_1 rest_1 Pre_1 launch0 p0 e0 about1 theMethod args0 below0 :=
  ⟨lists_1, trivial, launch0.admits_env _ _ _, launch0.least_env, fairChoices_fair.cas, fairChoices_fair.clock, w_frames, w_args, w_heap, w_applies, trivial, trivial, w_case⟩
end start1
theorem witness_1 : WitnessClaimed_1 := ⟨start1.p0, start1.e0, start1.about1, start1.theMethod, start1.args0, start1.below0, start1.atStart⟩
end Jvm.Pilot.@@N@@
