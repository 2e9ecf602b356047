import JvmDerived
import JvmDerived.Pilot.@@N@@Statement
import JvmDerived.Pilot.@@N@@Code
set_option linter.unusedVariables false
set_option linter.unusedSimpArgs false
@@BLOCK:NumsL.lean.txt@@
namespace Jvm.Pilot.@@N@@
open Jvm Jvm.ClassFile Sem Op Lib Jvm.Free Jvm.Stand Jvm.LawKit Jvm.RoadKit Bundle Jvm.Pilot.@@N@@.Jvm.D
theorem own_w {ws : List Jvm.Cond} {a0 : Array Value} {Z : State} (hw : ∀ d ∈ ws, d.before a0 Z = true) (i : Nat) {d : Jvm.Cond} (h : ws[i]? = some d) : d.before a0 Z = true := hw d (List.mem_of_getElem? h)
/-! the run from a frame comes to an end of which A holds: one walk a body, branches by cases -/
def own_Go (tb : Tables) (e : Env) (below : List Frame) (A : State → Prop) (T : State) (g : JFrame) : Prop := ∃ t, Steps tb e below (T.setTop g) t ∧ A t
theorem own_st {tb : Tables} {e : Env} {below : List Frame} {A : State → Prop} {T T1 : State} {g g1 : JFrame} (k : ∀ t, Steps tb e below (T1.setTop g1) t → Steps tb e below (T.setTop g) t) (h : own_Go tb e below A T1 g1) : own_Go tb e below A T g := by
  obtain ⟨t, a, b⟩ := h
  exact ⟨t, k t a, b⟩
def own_End (s : State) (below : List Frame) (Q : Option Value → Heap → List Loc → Prop) (k n : Nat) (t : State) : Prop := ∃ o, t.status = .running ∧ Ended t below o ∧ ∃ v L, o = .returned v ∧ Q v t.heap L ∧ FrameEnd s o t L k n
theorem own_open {tb : Tables} {e : Env} {below : List Frame} {s₁ s : State} {g g' : JFrame} {Q : Option Value → Heap → List Loc → Prop} {k n : Nat} (hg : g = g') (h : own_Go tb e below (own_End s below Q k n) s₁ g') : ∃ s₂ o, Steps tb e below (s₁.setTop g) s₂ ∧ s₂.status = .running ∧ Ended s₂ below o ∧ ∃ v L, o = .returned v ∧ Q v s₂.heap L ∧ FrameEnd s o s₂ L k n := by
  subst hg
  obtain ⟨t, a, o, b, c, d⟩ := h
  exact ⟨t, o, a, b, c, d⟩
theorem own_nar {t : FieldType} {w : Value} (hw : w.isRef = true) : narrow t w = w := by cases w <;> first | (cases t <;> rfl) | simp [Value.isRef] at hw
section OwnEnds
variable {p : Program} {l : Launch} {e : Env} {R : Room} {s : State} {m : MethodId} {args : Array Value} {below : List Frame} {meth : Method} {c : Code} {T : State} {locs : List Loc} {cells slots : Nat} {Q : Option Value → Heap → List Loc → Prop} {k n : Nat} {h : Heap}
theorem own_end (X : Stand p l e R s m args below meth c T locs cells slots) (hlk : meth.locks = false) (v : Option Value) (hv : meth.sig.returnType = none → v = none) (hk : cells ≤ k) (hn : slots ≤ n) (eT : T.heap = h) (hq : Q v h locs) {g : JFrame}
    (hs : ∀ fs, (∀ (f : JFrame) (acts : List Action), f.method = m → f.locked = none → f.entered = [] → (doReturn e (T.setTop f) acts v).1 = T.setFrames fs) → Steps p.tables e below (T.setTop g) (T.setFrames fs)) : own_Go p.tables e below (own_End s below Q k n) T g := by
  obtain ⟨fs, hr, hrun, hended, hW, hsame⟩ := X.leave (v := v) hv
  exact ⟨_, hs fs hr, _, hrun, hended, v, locs, rfl, (by show Q v T.heap locs; rw [eT]; exact hq), ⟨_, rfl⟩, hW, hsame.mono hk hn⟩
theorem own_retZ (X : Stand p l e R s m args below meth c T locs cells slots) (hx : p.tables.exec = Jvm.exec) (hlk : meth.locks = false) {pc : Nat} {Ls : Array Slot} {z : Int32} {rest : List Value} {t : FieldType} (hret : meth.sig.returnType = some t) (ht : t = .boolean ∨ t = .byte ∨ t = .char ∨ t = .short) (hd : decode c.code pc = .ok (.ireturn, 1)) (hk : cells ≤ k) (hn : slots ≤ n) (eT : T.heap = h) (hq : Q (some (.int (nar t z))) h locs) :
    own_Go p.tables e below (own_End s below Q k n) T (mkF m pc Ls (.int z :: rest)) :=
  own_end X hlk _ (fun q => by rw [hret] at q; cases q) hk hn eT hq (fun fs hr => retN X hx hret ht hd hr)
theorem own_retI (X : Stand p l e R s m args below meth c T locs cells slots) (hx : p.tables.exec = Jvm.exec) (hlk : meth.locks = false) {pc : Nat} {Ls : Array Slot} {z : Int32} {rest : List Value} (hret : meth.sig.returnType = some .int) (hd : decode c.code pc = .ok (.ireturn, 1)) (hk : cells ≤ k) (hn : slots ≤ n) (eT : T.heap = h) (hq : Q (some (.int z)) h locs) :
    own_Go p.tables e below (own_End s below Q k n) T (mkF m pc Ls (.int z :: rest)) :=
  own_end X hlk _ (fun q => by rw [hret] at q; cases q) hk hn eT hq (fun fs hr => retOut X hx hret rfl (Or.inl ⟨rfl, Or.inl rfl, z, rfl⟩) hd hr)
theorem own_retJ (X : Stand p l e R s m args below meth c T locs cells slots) (hx : p.tables.exec = Jvm.exec) (hlk : meth.locks = false) {pc : Nat} {Ls : Array Slot} {z : Int64} {rest : List Value} (hret : meth.sig.returnType = some .long) (hd : decode c.code pc = .ok (.lreturn, 1)) (hk : cells ≤ k) (hn : slots ≤ n) (eT : T.heap = h) (hq : Q (some (.long z)) h locs) :
    own_Go p.tables e below (own_End s below Q k n) T (mkF m pc Ls (.long z :: rest)) :=
  own_end X hlk _ (fun q => by rw [hret] at q; cases q) hk hn eT hq (fun fs hr => retOut X hx hret rfl (Or.inr (Or.inl ⟨rfl, rfl, z, rfl⟩)) hd hr)
theorem own_retA (X : Stand p l e R s m args below meth c T locs cells slots) (hx : p.tables.exec = Jvm.exec) (hlk : meth.locks = false) {pc : Nat} {Ls : Array Slot} {w : Value} {rest : List Value} {t : FieldType} (hret : meth.sig.returnType = some t) (ht : t.isReference = true) (hw : w.isRef = true) (hd : decode c.code pc = .ok (.areturn, 1)) (hk : cells ≤ k) (hn : slots ≤ n) (eT : T.heap = h) (hq : Q (some w) h locs) :
    own_Go p.tables e below (own_End s below Q k n) T (mkF m pc Ls (w :: rest)) :=
  own_end X hlk _ (fun q => by rw [hret] at q; cases q) hk hn eT hq (fun fs hr => retOut X hx hret (own_nar hw) (Or.inr (Or.inr (Or.inr (Or.inr ⟨rfl, ht, hw⟩)))) hd hr)
theorem own_retV (X : Stand p l e R s m args below meth c T locs cells slots) (hx : p.tables.exec = Jvm.exec) (hlk : meth.locks = false) {pc : Nat} {Ls : Array Slot} (hret : meth.sig.returnType = none) (hd : decode c.code pc = .ok (.return_, 1)) (hk : cells ≤ k) (hn : slots ≤ n) (eT : T.heap = h) (hq : Q none h locs) :
    own_Go p.tables e below (own_End s below Q k n) T (mkF m pc Ls []) :=
  own_end X hlk _ (fun _ => rfl) hk hn eT hq (fun fs hr => X.returnOut hx hret hd hr)
end OwnEnds
section OwnWords
variable {args : Array Value} {first s : State} {o : Option Outcome} {idx : List Nat} {a b : Jvm.Term}
theorem own_eqI {k : Int32} (h : (Jvm.Cond.eq a b).value args first o s idx = some true) (hb : b.eval args first o idx s = some (.int k)) : a.eval args first o idx s = some (.int k) := by
  cases ha : a.eval args first o idx s with
  | none => simp [Cond.value, ha] at h
  | some x => cases x <;> simp [Cond.value, ha, hb] at h ⊢; exact h
theorem own_eqR {y : Addr} (h : (Jvm.Cond.eq a b).value args first o s idx = some true) (hb : b.eval args first o idx s = some (.ref y)) : a.eval args first o idx s = some (.ref y) := by
  cases ha : a.eval args first o idx s with
  | none => simp [Cond.value, ha] at h
  | some x => cases x <;> simp [Cond.value, ha, hb] at h ⊢; exact h
end OwnWords
theorem own_nei {i j : Int32} (h : i ≠ j) : Value.int i ≠ Value.int j := fun q => h (Value.int.inj q)
theorem own_plE {Z : State} {h : Heap} {a : Addr} {C : String} (F : Exa Z h a C) : ∃ c : Cell, h[a]? = some c ∧ c.vm.isStatics = false := by
  obtain ⟨c, -, h1, -, -, h2, -⟩ := F
  exact ⟨c, h1, h2⟩
theorem own_plV {Z : State} {h : Heap} {a : Addr} {k : ClassId} {ty : FieldType} {n : Int32} {vs : List Value} {d : Value} (F : Arv Z h a k ty n vs d) : ∃ c : Cell, h[a]? = some c ∧ c.vm.isStatics = false := by
  obtain ⟨c, A, -⟩ := F
  exact ⟨c, A.1, A.plain⟩
theorem own_stak {Z : State} {h h' : Heap} {C n d : String} {v : Value} {ws : List Addr} (F : Sta Z h C n d v) (K : Keep h h' ws) (q : ∀ x ∈ ws, ∃ c : Cell, h[x]? = some c ∧ c.vm.isStatics = false) : Sta Z h' C n d v := by
  obtain ⟨cf, i, k, f, st, cell, h1, h2, h3, h4, h5, h6, h7⟩ := F
  refine ⟨cf, i, k, f, st, cell, h1, h2, h3, h4, K.2.1 _ _ h5 (fun m => ?_), h6, h7⟩
  obtain ⟨c, e1, e2⟩ := q _ m
  cases h5.symm.trans e1
  rw [h6] at e2; cases e2
theorem own_nev {Z : State} {h : Heap} {a b : Addr} {C : String} {k : ClassId} {ty : FieldType} {n : Int32} {vs : List Value} {d : Value} {a0 : Array Value} {kk : Nat} (F : Exa Z h a C) (wi : (Jvm.Cond.instantiable C kk).before a0 Z = true) (G : Arv Z h b k ty n vs d) : a ≠ b := by
  obtain ⟨c, A, -⟩ := G
  exact ne_arr F wi A
section OwnArrays
variable {p : Program} {l : Launch} {e : Env} {R : Room} {s : State} {m : MethodId} {args : Array Value} {below : List Frame} {meth : Method} {c : Code} {T : State} {locs : List Loc} {cells slots : Nat} {Z : State} {h : Heap} {a : Addr} {k : ClassId} {ty : FieldType} {n j : Int32} {vs : List Value} {d v : Value} {rest : List Value}
theorem own_aaload (X : Stand p l e R s m args below meth c T locs cells slots) (hx : p.tables.exec = Jvm.exec) (hZ : Z.Warmed39 s.vm) (eT : T.heap = h) (F : Arv Z h a k ty n vs d) (hty : ty.isReference = true) (hj : ¬ j < 0 ∧ j < n) (hv : vs.getD j.toNatClampNeg d = v) {g : JFrame} (hg : g.method = m) (hs : g.stack = .int j :: .ref a :: rest) (hd : decode c.code g.pc = .ok (.aaload, 1)) :
    ∀ target, Steps p.tables e below (T.setTop { g with pc := g.pc + 1, stack := v :: rest }) target → Steps p.tables e below (T.setTop g) target := by
  obtain ⟨cl, A, -, S, -, H, -⟩ := F
  exact X.aaload hx (by rw [eT]; exact A.1) (State.isArrayOf_alike hZ.alike A.2.1) hty A.2.2 (inb_of S hj) (H.at (inb_of S hj) hv) hg hs hd
theorem own_iaload (X : Stand p l e R s m args below meth c T locs cells slots) (hx : p.tables.exec = Jvm.exec) (hZ : Z.Warmed39 s.vm) (eT : T.heap = h) (F : Arv Z h a k .int n vs d) (hj : ¬ j < 0 ∧ j < n) (hv : vs.getD j.toNatClampNeg d = v) {g : JFrame} (hg : g.method = m) (hs : g.stack = .int j :: .ref a :: rest) (hd : decode c.code g.pc = .ok (.iaload, 1)) :
    ∀ target, Steps p.tables e below (T.setTop { g with pc := g.pc + 1, stack := v :: rest }) target → Steps p.tables e below (T.setTop g) target := by
  obtain ⟨cl, A, -, S, -, H, -⟩ := F
  exact X.iaload hx (by rw [eT]; exact A.1) (State.isArrayOf_alike hZ.alike A.2.1) A.2.2 (inb_of S hj) (H.at (inb_of S hj) hv) hg hs hd
theorem own_laload (X : Stand p l e R s m args below meth c T locs cells slots) (hx : p.tables.exec = Jvm.exec) (hZ : Z.Warmed39 s.vm) (eT : T.heap = h) (F : Arv Z h a k .long n vs d) (hj : ¬ j < 0 ∧ j < n) (hv : vs.getD j.toNatClampNeg d = v) {g : JFrame} (hg : g.method = m) (hs : g.stack = .int j :: .ref a :: rest) (hd : decode c.code g.pc = .ok (.laload, 1)) :
    ∀ target, Steps p.tables e below (T.setTop { g with pc := g.pc + 1, stack := v :: rest }) target → Steps p.tables e below (T.setTop g) target := by
  obtain ⟨cl, A, -, S, -, H, -⟩ := F
  exact X.laload hx (by rw [eT]; exact A.1) (State.isArrayOf_alike hZ.alike A.2.1) A.2.2 (inb_of S hj) (H.at (inb_of S hj) hv) hg hs hd
theorem own_baloadB (X : Stand p l e R s m args below meth c T locs cells slots) (hx : p.tables.exec = Jvm.exec) (hZ : Z.Warmed39 s.vm) (eT : T.heap = h) (F : Arv Z h a k .byte n vs d) (hj : ¬ j < 0 ∧ j < n) (hv : vs.getD j.toNatClampNeg d = v) {g : JFrame} (hg : g.method = m) (hs : g.stack = .int j :: .ref a :: rest) (hd : decode c.code g.pc = .ok (.baload, 1)) :
    ∀ target, Steps p.tables e below (T.setTop { g with pc := g.pc + 1, stack := v :: rest }) target → Steps p.tables e below (T.setTop g) target := by
  obtain ⟨cl, A, -, S, -, H, -⟩ := F
  exact X.baloadBytes hx (by rw [eT]; exact A.1) (State.isArrayOf_alike hZ.alike A.2.1) A.2.2 (inb_of S hj) (H.at (inb_of S hj) hv) hg hs hd
theorem own_baloadZ (X : Stand p l e R s m args below meth c T locs cells slots) (hx : p.tables.exec = Jvm.exec) (hZ : Z.Warmed39 s.vm) (eT : T.heap = h) (F : Arv Z h a k .boolean n vs d) (hj : ¬ j < 0 ∧ j < n) (hv : vs.getD j.toNatClampNeg d = v) {g : JFrame} (hg : g.method = m) (hs : g.stack = .int j :: .ref a :: rest) (hd : decode c.code g.pc = .ok (.baload, 1)) :
    ∀ target, Steps p.tables e below (T.setTop { g with pc := g.pc + 1, stack := v :: rest }) target → Steps p.tables e below (T.setTop g) target := by
  obtain ⟨cl, A, -, S, -, H, -⟩ := F
  exact X.baloadBooleans hx (by rw [eT]; exact A.1) (State.isArrayOf_alike hZ.alike A.2.1) A.2.2 (inb_of S hj) (H.at (inb_of S hj) hv) hg hs hd
theorem own_alen (X : Stand p l e R s m args below meth c T locs cells slots) (hx : p.tables.exec = Jvm.exec) (hZ : Z.Warmed39 s.vm) (eT : T.heap = h) (F : Arv Z h a k ty n vs d) {g : JFrame} (hg : g.method = m) (hs : g.stack = .ref a :: rest) (hd : decode c.code g.pc = .ok (.arraylength, 1)) :
    ∀ target, Steps p.tables e below (T.setTop { g with pc := g.pc + 1, stack := .int n :: rest }) target → Steps p.tables e below (T.setTop g) target := by
  obtain ⟨cl, A, -, S, N, -, -⟩ := F
  have q := X.arraylength hx (by rw [eT]; exact A.1) (State.isArrayOf_alike hZ.alike A.2.1) hg hs hd
  rw [len_of S N] at q
  exact q
end OwnArrays
theorem own_psel {Z s : State} {a0 args : Array Value} {y : MethodName} {n : Nat} (hZ : Z.Warmed39 s.vm) (wi : (Jvm.Cond.instantiable y.cls n).before a0 Z = true) (wp : (Jvm.Cond.privateMethod y).before a0 Z = true) (wm : (Jvm.Cond.instanceMethod y).before a0 Z = true) (hy : y.cls ≠ "java/lang/invoke/MethodHandle" ∧ y.cls ≠ "java/lang/invoke/VarHandle") : (Jvm.Cond.selects y.cls y y).before args s = true := by
  have wi' : (Jvm.Cond.instantiable y.cls n).before args s = true := mvT hZ wi
  obtain ⟨c2, k2, i1, i2, -, i4, -⟩ := Cond.instantiable_spec wi'
  simp only [Bool.or_eq_false_iff] at i4
  exact selects_self_of_private i1 i2 i4.1 (Cond.privateMethod_at (mvP hZ wp (args := args))) (mvT hZ wm) hy
section OwnMore
variable {args : Array Value} {s : State} {t u : Jvm.Term} {x y : Addr} {cl : Cell} {ty : FieldType} {n j : Int32}
theorem own_len (h : (Jvm.Cond.eq (Jvm.Term.length t) (Jvm.Term.int n)).value args s none s [] = some true) (ht : t.eval args s none [] s = some (.ref x)) (A : Jvm.RoadKit.Arr s s.heap x cl ty) : cl.slots.size < 2 ^ 31 ∧ cl.slots.size.toInt32 = n := by
  have e := own_eqI h (Term.int_eval _)
  have ha : s.arrayAt? x = some cl := A.fin (Vm.Alike.refl _)
  by_cases hl : cl.slots.size < 2 ^ 31
  · refine ⟨hl, ?_⟩
    rw [len_f ht ha hl] at e
    exact Value.int.inj (Option.some.inj e)
  · simp [Term.eval, ht, ha, hl] at e
theorem own_elem (h : (Jvm.Cond.eq (Jvm.Term.elem t (Jvm.Term.int j)) u).value args s none s [] = some true) (hu : u.eval args s none [] s = some (.ref y)) (ht : t.eval args s none [] s = some (.ref x)) (A : Jvm.RoadKit.Arr s s.heap x cl ty) : cl.slots[j.toNatClampNeg]? = some (.ref y) :=
  (elem_in (own_eqR h hu) ht (Term.int_eval _) A.1).2
end OwnMore
theorem own_sto {Z : State} {h : Heap} {a y : Addr} {k : ClassId} {ty : FieldType} {n : Int32} {vs : List Value} {d : Value} {C : String} (F : Arv Z h a k ty n vs d) (O : Ovr Z k C) (I : Ins Z h y C true) : Sto Z h a (.ref y) := by
  obtain ⟨c, A, q, -⟩ := F
  exact Sto.ofV A q O I
theorem own_cp0 {p : Program} {l : Launch} {e : Env} {R : Room} {s : State} {m : MethodId} {args : Array Value} {below : List Frame} {meth : Method} {c : Code} {T : State} {locs : List Loc} {cells slots : Nat} {Z : State} {h : Heap} {a b : Addr} {k k' : ClassId} {ty ty' : FieldType} {z z' : Int32} {vs vd : List Value} {dv dd : Value}
    (X : Stand p l e R s m args below meth c T locs cells slots) (hx : p.tables.exec = Jvm.exec) (hZ : Z.Warmed39 s.vm) {a0 : Array Value} {own : String} {index : Nat} (hown : s.vm.findClass own = some m.cls)
    (w1 : (Jvm.Cond.methodLink own index Jvm.Stand.acN).before a0 Z = true) (w2 : (Jvm.Cond.native Jvm.Stand.acN).before a0 Z = true) (w3 : (Jvm.Cond.static Jvm.Stand.acN).before a0 Z = true) (w4 : (Jvm.Cond.initialized "java/lang/System").before a0 Z = true) (eT : T.heap = h)
    {sp dp nn : Int32} (A : Arv Z h a k ty z vs dv) (B : Arv Z h b k' ty' z' vd dd) (h0 : nn = 0) (hty : (ty = ty' ∧ refKind ty = false) ∨ (refKind ty = true ∧ refKind ty' = true))
    (h1 : ¬ sp < 0) (h2 : ¬ dp < 0) (h4 : sp.toNatClampNeg ≤ z.toNatClampNeg) (h5 : dp.toNatClampNeg ≤ z'.toNatClampNeg)
    {g : JFrame} (hg : g.method = m) (hsize : g.locals.size = c.maxLocals) {rest : List Value} (hs : g.stack = .int nn :: .int dp :: .ref b :: .int sp :: .ref a :: rest) (hd : decode c.code g.pc = .ok (.invokestatic index, 3))
    (hf : 1 ≤ R.frames) {W : Nat} (hW : 2 * g.monitorRoom + (rest.map fun v => v.category).sum ≤ W) (hlo : W + (nativeFrameWords "java/lang/System" "arraycopy" 5 + 11) ≤ R.locals) :
    ∃ T', Stand p l e R s m args below meth c T' locs cells slots ∧ T'.heap = h ∧ ∀ target, Steps p.tables e below (T'.setTop { g with pc := g.pc + 3, stack := rest }) target → Steps p.tables e below (T.setTop g) target := by
  subst h0
  obtain ⟨cs, As, -, Ss, -, Hs, Gs⟩ := A
  obtain ⟨cd, Ad, qd, Sd, Nd, Hd, Gd⟩ := B
  obtain ⟨os, ks, hks, sc, hsk⟩ := State.isArrayOf_alike hZ.alike As.2.1
  obtain ⟨od, kd, hkd, dc, hdk⟩ := State.isArrayOf_alike hZ.alike Ad.2.1
  have nat : ∀ {x : Int32}, ¬ x < 0 → x.toInt = x.toNatClampNeg := fun {x} q => by
    rw [Int32.lt_iff_toInt_lt] at q; have : (0 : Int32).toInt = 0 := rfl
    simp only [Int32.toNatClampNeg]; omega
  have z0 : (0 : Int32).toInt = 0 := rfl
  obtain ⟨vm₁, hW₁, X', st⟩ := X.arraycopyK (srcPos := sp) (destPos := dp) (n := 0) hx hown (mvT hZ w1) (mvT hZ w2) (mvT hZ w3) (mvT hZ w4) (by rw [eT]; exact As.1) (by rw [eT]; exact Ad.1) os od As.2.2 Ad.2.2 hks hkd hsk hdk
    (by rcases hty with ⟨rfl, r⟩ | ⟨r1, r2⟩; simp [r]; simp [r1, r2]) h1 h2 (by decide) (by rw [nat h1, z0, Ss]; omega) (by rw [nat h2, z0, Sd]; omega) (fun vm₁ hw i hi => absurd hi (Nat.not_lt_zero i)) hg hsize hs hd hf (by omega)
  have ec : copied cs cd sp dp 0 = cd := rfl
  have el : locs ++ copyLocs b dp.toNatClampNeg (0 : Int32).toNatClampNeg = locs := List.append_nil _
  rw [ec] at X' st
  rw [el] at X'
  refine ⟨_, X', ?_, st⟩
  show T.heap.setIfInBounds b cd = h
  rw [eT]
  have hb : b < h.size := Ad.lt
  have hg2 := Ad.1
  apply Array.ext_getElem?
  intro i
  by_cases hi : b = i
  · subst hi; rw [Array.getElem?_setIfInBounds_self_of_lt hb, hg2]
  · rw [Array.getElem?_setIfInBounds_ne hi]
theorem own_nb (x : Int32) : nar .byte (x.toInt8.toInt32) = x.toInt8.toInt32 := by simp [nar]
theorem own_clone {p : Program} {l : Launch} {e : Env} {R : Room} {s : State} {m : MethodId} {args : Array Value} {below : List Frame} {meth : Method} {c : Code} {T : State} {locs : List Loc} {cells slots : Nat} {Z : State} {h : Heap} {a : Addr} {ty : FieldType}
    (X : Stand p l e R s m args below meth c T locs cells slots) (hx : p.tables.exec = Jvm.exec) (hZ : Z.Warmed39 s.vm) {a0 : Array Value} {own ad : String} {index : Nat} (hown : s.vm.findClass own = some m.cls)
    (w1 : (Jvm.Cond.methodLink own index ⟨ad, "clone", "()Ljava/lang/Object;"⟩).before a0 Z = true) (w2 : (Jvm.Cond.sameMethod ad "java/lang/Object" "clone" "()Ljava/lang/Object;").before a0 Z = true) (w3 : (Jvm.Cond.native ⟨"java/lang/Object", "clone", "()Ljava/lang/Object;"⟩).before a0 Z = true)
    (w4 : (Jvm.Cond.instanceMethod ⟨"java/lang/Object", "clone", "()Ljava/lang/Object;"⟩).before a0 Z = true) (w5 : (Jvm.Cond.selects ad ⟨ad, "clone", "()Ljava/lang/Object;"⟩ ⟨"java/lang/Object", "clone", "()Ljava/lang/Object;"⟩).before a0 Z = true) (w6 : (Jvm.Cond.castable ad "java/lang/Cloneable").before a0 Z = true)
    (eT : T.heap = h) {k : ClassId} {z : Int32} {vs : List Value} {dv : Value} (F : Arv Z h a k ty z vs dv) (E : Exa Z h a ad) {g : JFrame} (hg : g.method = m) (hsize : g.locals.size = c.maxLocals) {rest : List Value} (hst : g.stack = .ref a :: rest) (hd : decode c.code g.pc = .ok (.invokevirtual index, 3))
    (hf : 1 ≤ R.frames) {W cap : Nat} (hW : 2 * g.monitorRoom + (rest.map fun v => v.category).sum ≤ W) (hl : W + 14 ≤ R.locals) (hcap : z.toNatClampNeg ≤ cap) (hc : cells + 1 ≤ R.cells) (hsl : slots + cap ≤ R.slots) :
    ∃ T' h', Stand p l e R s m args below meth c T' locs (cells + 1) (slots + cap) ∧ T'.heap = h' ∧ Ext h h' ∧ Arv Z h' h.size k ty z vs dv ∧ Exa Z h' h.size ad ∧
      ∀ target, Steps p.tables e below (T'.setTop { g with pc := g.pc + 3, stack := .ref h.size :: rest }) target → Steps p.tables e below (T.setTop g) target := by
  obtain ⟨cl, A, q1, S, q3, H, G⟩ := F
  have FC : FitC Z cl := fitC_of A fun i hi v hv => by rw [H i hi] at hv; cases hv; exact G i hi
  obtain ⟨T', h', X', e', ex, A', E', st⟩ := cloneA X hx hZ hown w1 w2 w3 w4 w5 w6 eT A E FC hg hsize hst hd hf hW hl (by rw [S]; exact hcap) hc hsl
  exact ⟨T', h', X', e', ex, ⟨cloneOf cl, A', q1, S, q3, H, G⟩, E', st⟩
section OwnCps
variable {p : Program} {l : Launch} {e : Env} {R : Room} {s : State} {m : MethodId} {args : Array Value} {below : List Frame} {meth : Method} {c : Code} {T : State} {locs : List Loc} {cells slots : Nat} {Z : State} {a0 : Array Value} {h : Heap} {A : State → Prop}
theorem own_gF (X : Stand p l e R s m args below meth c T locs cells slots) (hx : p.tables.exec = Jvm.exec) (hZ : Z.Warmed39 s.vm) {own R0 O n d : String} {index : Nat} (hown : s.vm.findClass own = some m.cls) (w : (Jvm.Cond.fieldLink own index R0 n d).before a0 Z = true) (via : Via Z R0 O n d) (eT : T.heap = h) {a : Addr} {v : Value} (F : Fld Z h a O n d v)
    {g : JFrame} {rest : List Value} (hd : decode c.code g.pc = .ok (.getfield index, 3)) (hg : g.method = m) (hs : g.stack = .ref a :: rest) (k : ∀ T', Stand p l e R s m args below meth c T' locs cells slots → T'.heap = h → own_Go p.tables e below A T' { g with pc := g.pc + 3, stack := v :: rest }) : own_Go p.tables e below A T g := by
  obtain ⟨T', X', e', st⟩ := getF (host := "") X hx hZ hown (Or.inl w) via eT F hg hs hd
  exact own_st st (k T' X' e')
theorem own_gS (X : Stand p l e R s m args below meth c T locs cells slots) (hx : p.tables.exec = Jvm.exec) (hZ : Z.Warmed39 s.vm) {own O n d : String} {index : Nat} (hown : s.vm.findClass own = some m.cls) (w : (Jvm.Cond.fieldLink own index O n d).before a0 Z = true) (eT : T.heap = h) {v : Value} (F : Sta Z h O n d v)
    {g : JFrame} (hd : decode c.code g.pc = .ok (.getstatic index, 3)) (hg : g.method = m) (k : ∀ T', Stand p l e R s m args below meth c T' locs cells slots → T'.heap = h → own_Go p.tables e below A T' { g with pc := g.pc + 3, stack := v :: g.stack }) : own_Go p.tables e below A T g := by
  obtain ⟨T', X', e', st⟩ := getS2 (host := "") X hx hZ hown (Or.inl w) Via.refl eT F hg hd
  exact own_st st (k T' X' e')
theorem own_pF (X : Stand p l e R s m args below meth c T locs cells slots) (hx : p.tables.exec = Jvm.exec) (hZ : Z.Warmed39 s.vm) {own R0 O n d C : String} {index kk : Nat} {ty : FieldType} (hown : s.vm.findClass own = some m.cls) (w : (Jvm.Cond.fieldLink own index R0 n d).before a0 Z = true) (via : Via Z R0 O n d)
    (eT : T.heap = h) {a : Addr} {v old : Value} (F : Fld Z h a O n d old) (E : Exa Z h a C) (L : (Jvm.Cond.lays C O n d).before a0 Z = true ∨ ((Jvm.Cond.laysFinal C O n d).before a0 Z = true ∧ own = O ∧ meth.name = "<init>")) (wi : (Jvm.Cond.instantiable C kk).before a0 Z = true)
    (hty : parseFieldDescriptor d = some ty) {g : JFrame} {rest : List Value} (hd : decode c.code g.pc = .ok (.putfield index, 3)) (hg : g.method = m) (hs : g.stack = v :: .ref a :: rest) (hn : narrow ty v = v) (hf : fits ty v = true)
    (k : ∀ T' h', Stand p l e R s m args below meth c T' (locs ++ [⟨a, Jvm.RoadKit.slotOf Z O n d⟩]) cells slots → T'.heap = h' → Wr h h' a (Jvm.RoadKit.slotOf Z O n d) v → own_Go p.tables e below A T' { g with pc := g.pc + 3, stack := rest }) : own_Go p.tables e below A T g := by
  obtain ⟨T', h', X', e', W, st⟩ := putF (host := "") X hx hZ hown (Or.inl w) via eT F E L wi hty hn hf hg hs hd
  exact own_st st (k T' h' X' e' W)
section Calls
variable {own C : String} {index maxL W : Nat} {y z : MethodName} {bytes : ByteArray} {ret : Option FieldType} {rm : Room} {Q : Option Value → Heap → List Loc → Prop} {g : JFrame} {argsL rest : List Value} {a : Addr}
theorem own_cS (X : Stand p l e R s m args below meth c T locs cells slots) (hx : p.tables.exec = Jvm.exec) (hZ : Z.Warmed39 s.vm) (hown : s.vm.findClass own = some m.cls) (w1 : (Jvm.Cond.methodLink own index y).before a0 Z = true) (w2 : (Jvm.Cond.static y).before a0 Z = true) (w3 : (Jvm.Cond.initialized y.cls).before a0 Z = true) (w4 : (Jvm.Cond.code y bytes maxL ret).before a0 Z = true)
    (argsL rest : List Value) (hM : MetFree l y (head1 [Jvm.Cond.code y bytes maxL ret] rm) (fun a U => a = argsL.toArray ∧ Z.Warmed39 U.vm ∧ U.heap = h) (fun _ _ _ _ _ => True) (fun _ U o U' => ∃ v L, o = .returned v ∧ Q v U'.heap L ∧ FrameEnd U o U' L rm.cells rm.slots)) (W : Nat) (hd : decode c.code g.pc = .ok (.invokestatic index, 3)) (hsize : g.locals.size = c.maxLocals)
    (hlen : ∀ sig, parseMethodDescriptor y.desc = some sig → argsL.length = sig.parameters.length) (eT : T.heap = h) (hg : g.method = m) (hst : g.stack = argsL.reverse ++ rest) (hW : 2 * g.monitorRoom + (rest.map fun v => v.category).sum ≤ W) (hf : rm.frames + 1 ≤ R.frames) (hl : W + (maxL + 11) + rm.locals ≤ R.locals) (hy : y.cls ≠ "java/lang/invoke/MethodHandle" ∧ y.cls ≠ "java/lang/invoke/VarHandle")
    (hc : cells + rm.cells ≤ R.cells) (hs : slots + rm.slots ≤ R.slots) (k : ∀ v T' L, Stand p l e R s m args below meth c T' (locs ++ L) (cells + rm.cells) (slots + rm.slots) → Q v T'.heap L → own_Go p.tables e below A T' { g with pc := g.pc + 3, stack := v.toList ++ rest }) : own_Go p.tables e below A T g := by
  obtain ⟨v, _, ⟨T', L', k', n'⟩, -, X', ⟨Lc, hQ, l', y', z'⟩, st⟩ := Jvm.LawKit.callS X hx hown (mvT hZ w1) (mvT hZ w2) (mvT hZ w3) (mvT hZ w4) hy (backOf (W := W) hM hZ w4 w3 hf hl) hg hsize (argsL := argsL) (rest := rest) hlen hst hW hd (fun _ _ => ⟨rfl, eT, hc, hs⟩)
  dsimp only [Pt.U, Pt.locs, Pt.cells, Pt.slots] at X' l' y' z' st hQ
  subst l' y' z'
  exact own_st st (k v T' Lc X' hQ)
theorem own_cV (X : Stand p l e R s m args below meth c T locs cells slots) (hx : p.tables.exec = Jvm.exec) (hZ : Z.Warmed39 s.vm) (hown : s.vm.findClass own = some m.cls) (w1 : (Jvm.Cond.methodLink own index y).before a0 Z = true) (w2 : (Jvm.Cond.declares y).before a0 Z = true) (w5 : (Jvm.Cond.selects C y y).before a0 Z = true) (w6 : (Jvm.Cond.instanceMethod y).before a0 Z = true) (w3 : (Jvm.Cond.initialized y.cls).before a0 Z = true) (w4 : (Jvm.Cond.code y bytes maxL ret).before a0 Z = true)
    (argsL rest : List Value) (E : Exa Z h a C) (hM : MetFree l y (head1 [Jvm.Cond.code y bytes maxL ret] rm) (fun b U => b = (.ref a :: argsL).toArray ∧ Z.Warmed39 U.vm ∧ U.heap = h) (fun _ _ _ _ _ => True) (fun _ U o U' => ∃ v L, o = .returned v ∧ Q v U'.heap L ∧ FrameEnd U o U' L rm.cells rm.slots)) (W : Nat) (hd : decode c.code g.pc = .ok (.invokevirtual index, 3)) (hsize : g.locals.size = c.maxLocals)
    (hlen : ∀ sig, parseMethodDescriptor y.desc = some sig → argsL.length = sig.parameters.length) (eT : T.heap = h) (hg : g.method = m) (hst : g.stack = argsL.reverse ++ .ref a :: rest) (hW : 2 * g.monitorRoom + (rest.map fun v => v.category).sum ≤ W) (hf : rm.frames + 1 ≤ R.frames) (hl : W + (maxL + 11) + rm.locals ≤ R.locals) (hy : y.cls ≠ "java/lang/invoke/MethodHandle" ∧ y.cls ≠ "java/lang/invoke/VarHandle")
    (hc : cells + rm.cells ≤ R.cells) (hs : slots + rm.slots ≤ R.slots) (k : ∀ v T' L, Stand p l e R s m args below meth c T' (locs ++ L) (cells + rm.cells) (slots + rm.slots) → Q v T'.heap L → own_Go p.tables e below A T' { g with pc := g.pc + 3, stack := v.toList ++ rest }) : own_Go p.tables e below A T g := by
  obtain ⟨cq, kq, qa, qb, qc⟩ := isOf hZ eT E
  obtain ⟨v, _, ⟨T', L', k', n'⟩, -, X', ⟨Lc, hQ, l', y', z'⟩, st⟩ := X.virtualBack hx (y := y) (z := y) hown (mvT hZ w1) (mvT hZ w2) (notFace_of_selects (args := #[]) (mvT hZ w5)) (mvT hZ w5) (mvT hZ w6) hy (backOf (W := W) hM hZ w4 w3 hf hl) qa qc hg hsize (Steps.refl _) (argsL := argsL) (rest := rest) hlen hst hW hd (fun _ _ => ⟨rfl, eT, hc, hs⟩)
  dsimp only [Pt.U, Pt.locs, Pt.cells, Pt.slots] at X' l' y' z' st hQ
  subst l' y' z'
  exact own_st (fun t q => st.trans q) (k v T' Lc X' hQ)
theorem own_cP (X : Stand p l e R s m args below meth c T locs cells slots) (hx : p.tables.exec = Jvm.exec) (hZ : Z.Warmed39 s.vm) (hown : s.vm.findClass own = some m.cls) {ni : Nat} (w1 : (Jvm.Cond.methodLink own index y).before a0 Z = true) (w2 : (Jvm.Cond.privateMethod y).before a0 Z = true) (w5 : (Jvm.Cond.instantiable y.cls ni).before a0 Z = true) (w6 : (Jvm.Cond.instanceMethod y).before a0 Z = true) (w3 : (Jvm.Cond.initialized y.cls).before a0 Z = true) (w4 : (Jvm.Cond.code y bytes maxL ret).before a0 Z = true)
    (argsL rest : List Value) (E : Exa Z h a C) (hM : MetFree l y (head1 [Jvm.Cond.code y bytes maxL ret] rm) (fun b U => b = (.ref a :: argsL).toArray ∧ Z.Warmed39 U.vm ∧ U.heap = h) (fun _ _ _ _ _ => True) (fun _ U o U' => ∃ v L, o = .returned v ∧ Q v U'.heap L ∧ FrameEnd U o U' L rm.cells rm.slots)) (W : Nat) (hd : decode c.code g.pc = .ok (.invokevirtual index, 3)) (hsize : g.locals.size = c.maxLocals)
    (hlen : ∀ sig, parseMethodDescriptor y.desc = some sig → argsL.length = sig.parameters.length) (eT : T.heap = h) (hg : g.method = m) (hst : g.stack = argsL.reverse ++ .ref a :: rest) (hW : 2 * g.monitorRoom + (rest.map fun v => v.category).sum ≤ W) (hf : rm.frames + 1 ≤ R.frames) (hl : W + (maxL + 11) + rm.locals ≤ R.locals) (hy : y.cls ≠ "java/lang/invoke/MethodHandle" ∧ y.cls ≠ "java/lang/invoke/VarHandle")
    (hc : cells + rm.cells ≤ R.cells) (hs : slots + rm.slots ≤ R.slots) (k : ∀ v T' L, Stand p l e R s m args below meth c T' (locs ++ L) (cells + rm.cells) (slots + rm.slots) → Q v T'.heap L → own_Go p.tables e below A T' { g with pc := g.pc + 3, stack := v.toList ++ rest }) : own_Go p.tables e below A T g := by
  obtain ⟨cq, q1, q2⟩ := E.cell
  obtain ⟨v, _, ⟨T', L', k', n'⟩, -, X', ⟨Lc, hQ, l', y', z'⟩, st⟩ := X.privateBack hx (y := y) hown (mvT hZ w1) (mvT hZ w6) (own_psel hZ w5 w2 w6 hy) (Cond.privateMethod_at (mvP hZ w2 (args := #[]))) (mvT hZ w4) hy (backOf (W := W) hM hZ w4 w3 hf hl) hg hsize (Steps.refl _) (a := a) (by rw [eT]; exact q1) q2 (argsL := argsL) (rest := rest) hlen hst hW hd (fun _ _ => ⟨rfl, eT, hc, hs⟩)
  dsimp only [Pt.U, Pt.locs, Pt.cells, Pt.slots] at X' l' y' z' st hQ
  subst l' y' z'
  exact own_st (fun t q => st.trans q) (k v T' Lc X' hQ)
theorem own_cI (X : Stand p l e R s m args below meth c T locs cells slots) (hx : p.tables.exec = Jvm.exec) (hZ : Z.Warmed39 s.vm) (hown : s.vm.findClass own = some m.cls) (w1 : (Jvm.Cond.methodLink own index y).before a0 Z = true) (w6 : (Jvm.Cond.instanceMethod y).before a0 Z = true) (w3 : (Jvm.Cond.initialized y.cls).before a0 Z = true) (w4 : (Jvm.Cond.code y bytes maxL none).before a0 Z = true)
    (argsL rest : List Value) (hM : MetFree l y (head1 [Jvm.Cond.code y bytes maxL none] rm) (fun b U => b = (.ref a :: argsL).toArray ∧ Z.Warmed39 U.vm ∧ U.heap = h) (fun _ _ _ _ _ => True) (fun _ U o U' => ∃ v L, o = .returned v ∧ Q v U'.heap L ∧ FrameEnd U o U' L rm.cells rm.slots)) (W : Nat) (hd : decode c.code g.pc = .ok (.invokespecial index, 3)) (hsize : g.locals.size = c.maxLocals)
    (hlen : ∀ sig, parseMethodDescriptor y.desc = some sig → argsL.length = sig.parameters.length) (eT : T.heap = h) (hg : g.method = m) (hst : g.stack = argsL.reverse ++ .ref a :: rest) (hW : 2 * g.monitorRoom + (rest.map fun v => v.category).sum ≤ W) (hf : rm.frames + 1 ≤ R.frames) (hl : W + (maxL + 11) + rm.locals ≤ R.locals) (hy : y.cls ≠ "java/lang/invoke/MethodHandle" ∧ y.cls ≠ "java/lang/invoke/VarHandle") (hn : y.name = "<init>")
    (hc : cells + rm.cells ≤ R.cells) (hs : slots + rm.slots ≤ R.slots) (k : ∀ v T' L, Stand p l e R s m args below meth c T' (locs ++ L) (cells + rm.cells) (slots + rm.slots) → Q v T'.heap L → own_Go p.tables e below A T' { g with pc := g.pc + 3, stack := v.toList ++ rest }) : own_Go p.tables e below A T g := by
  obtain ⟨v, _, ⟨T', L', k', n'⟩, -, X', ⟨Lc, hQ, l', y', z'⟩, st⟩ := X.specialBack hx (y := y) hn hown (mvT hZ w1) (mvT hZ w6) (mvT hZ w4) hy (backOf (W := W) hM hZ w4 w3 hf hl) hg hsize (Steps.refl _) (a := a) (argsL := argsL) (rest := rest) hlen hst hW hd (fun _ _ => ⟨rfl, eT, hc, hs⟩)
  dsimp only [Pt.U, Pt.locs, Pt.cells, Pt.slots] at X' l' y' z' st hQ
  subst l' y' z'
  exact own_st (fun t q => st.trans q) (k v T' Lc X' hQ)
end Calls
end OwnCps
def own_home (k : Int64) : Int32 := ((((k * (-7046029254386353131 : Int64)).toUInt64 >>> ((61 : Int32) &&& 0x3f).toInt64.toUInt64).toInt64).toInt32)
theorem own_home_r (k : Int64) : own_home k = (0 : Int32) ∨ own_home k = (1 : Int32) ∨ own_home k = (2 : Int32) ∨ own_home k = (3 : Int32) ∨ own_home k = (4 : Int32) ∨ own_home k = (5 : Int32) ∨ own_home k = (6 : Int32) ∨ own_home k = (7 : Int32) := by
  have e : own_home k = (((k * (-7046029254386353131 : Int64)).toUInt64 >>> (61 : UInt64)).toInt64).toInt32 := rfl
  have h : ((k * (-7046029254386353131 : Int64)).toUInt64 >>> (61 : UInt64)).toNat < 8 := by
    rw [UInt64.toNat_shiftRight, Nat.shiftRight_eq_div_pow]
    have q := (k * (-7046029254386353131 : Int64)).toUInt64.toNat_lt
    have z : (61 : UInt64).toNat % 64 = 61 := rfl
    rw [z]
    omega
  rw [e]
  generalize (k * (-7046029254386353131 : Int64)).toUInt64 >>> (61 : UInt64) = w at h
  have r : w = 0 ∨ w = 1 ∨ w = 2 ∨ w = 3 ∨ w = 4 ∨ w = 5 ∨ w = 6 ∨ w = 7 := by
    have z0 : (0 : UInt64).toNat = 0 := rfl
    have z1 : (1 : UInt64).toNat = 1 := rfl
    have z2 : (2 : UInt64).toNat = 2 := rfl
    have z3 : (3 : UInt64).toNat = 3 := rfl
    have z4 : (4 : UInt64).toNat = 4 := rfl
    have z5 : (5 : UInt64).toNat = 5 := rfl
    have z6 : (6 : UInt64).toNat = 6 := rfl
    have z7 : (7 : UInt64).toNat = 7 := rfl
    simp only [← UInt64.toNat_inj]
    omega
  rcases r with rfl | rfl | rfl | rfl | rfl | rfl | rfl | rfl <;> decide
abbrev own_D8 : List Int32 := [0, 1, 2, 3, 4, 5, 6, 7]
abbrev own_D4 : List Int32 := [0, 1, 2, 3]
theorem own_m8 {s : Int32} (r : s = (0 : Int32) ∨ s = (1 : Int32) ∨ s = (2 : Int32) ∨ s = (3 : Int32) ∨ s = (4 : Int32) ∨ s = (5 : Int32) ∨ s = (6 : Int32) ∨ s = (7 : Int32)) : s ∈ own_D8 := by
  simp only [own_D8, List.mem_cons, List.not_mem_nil, or_false]; exact r
theorem own_m4 {s : Int32} (r : s = (0 : Int32) ∨ s = (1 : Int32) ∨ s = (2 : Int32) ∨ s = (3 : Int32)) : s ∈ own_D4 := by
  simp only [own_D4, List.mem_cons, List.not_mem_nil, or_false]; exact r
theorem own_again {Z : State} {h : Heap} {a : Addr} {k : ClassId} {ty : FieldType} {n j : Int32} {hs : List (Int32 × Value)} {vs : List Value} {d v : Value} (F : Arh Z h a k ty n ((j, v) :: hs) vs d) (hj : ¬ j < 0 ∧ j < n) (e : getH hs vs d j.toNatClampNeg = v) : Arh Z h a k ty n hs vs d := by
  have q : ∀ i : Nat, getH ((j, v) :: hs) vs d i = getH hs vs d i := fun i => by
    show (if j.toInt = (i : Int) then v else getH hs vs d i) = _
    split
    · rename_i c
      have : j.toNatClampNeg = i := by have := nat_of hj.1; omega
      rw [← e, this]
    · rfl
  obtain ⟨c, A, r1, r2, r3, H, G⟩ := F
  exact ⟨c, A, r1, r2, r3, fun i hi => by rw [← q]; exact H i hi, fun i hi => by rw [← q]; exact G i hi⟩
theorem own_r8 {P : Int32 → Prop} {s : Int32} (r : s = (0 : Int32) ∨ s = (1 : Int32) ∨ s = (2 : Int32) ∨ s = (3 : Int32) ∨ s = (4 : Int32) ∨ s = (5 : Int32) ∨ s = (6 : Int32) ∨ s = (7 : Int32)) (h : ∀ i : Fin 8, P (Int32.ofNat i.val)) : P s := by
  rcases r with rfl | rfl | rfl | rfl | rfl | rfl | rfl | rfl
  · exact h 0
  · exact h 1
  · exact h 2
  · exact h 3
  · exact h 4
  · exact h 5
  · exact h 6
  · exact h 7
theorem own_r88 {P : Int32 → Int32 → Prop} {s t : Int32} (r : s = (0 : Int32) ∨ s = (1 : Int32) ∨ s = (2 : Int32) ∨ s = (3 : Int32) ∨ s = (4 : Int32) ∨ s = (5 : Int32) ∨ s = (6 : Int32) ∨ s = (7 : Int32)) (r' : t = (0 : Int32) ∨ t = (1 : Int32) ∨ t = (2 : Int32) ∨ t = (3 : Int32) ∨ t = (4 : Int32) ∨ t = (5 : Int32) ∨ t = (6 : Int32) ∨ t = (7 : Int32)) (h : ∀ i j : Fin 8, P (Int32.ofNat i.val) (Int32.ofNat j.val)) : P s t :=
  own_r8 (P := fun s => P s t) r fun i => own_r8 (P := fun t => P (Int32.ofNat i.val) t) r' fun j => h i j
theorem own_and3 (x : Int32) : x &&& (3 : Int32) = (0 : Int32) ∨ x &&& (3 : Int32) = (1 : Int32) ∨ x &&& (3 : Int32) = (2 : Int32) ∨ x &&& (3 : Int32) = (3 : Int32) := by
  have e1 : (x &&& (3 : Int32)).toInt = x.toInt % 2 ^ 2 := Jvm.Kit.i32_mask x 3 (k := 2) (by decide) (by decide)
  have z0 : (0 : Int32).toInt = 0 := rfl
  have z1 : (1 : Int32).toInt = 1 := rfl
  have z2 : (2 : Int32).toInt = 2 := rfl
  have z3 : (3 : Int32).toInt = 3 := rfl
  simp only [← Int32.toInt_inj]
  omega
theorem own_lcS (x : Int64) : ¬ lcmpW x (x + (1 : Int64)) = (0 : Int32) := fun q => by
  have e := congrArg Int64.toInt ((lw_eq _ _).mp q)
  rw [Int64.toInt_add, Int.bmod_def] at e
  have z1 : (1 : Int64).toInt = 1 := rfl
  have a := x.toInt_lt
  have b := x.le_toInt
  rw [z1] at e
  split at e <;> omega
theorem own_lcC {x y : Int64} (h : ¬ lcmpW y x = 0) : ¬ lcmpW x y = 0 := fun q => h ((lw_eq y x).mpr ((lw_eq x y).mp q).symm)
def own_Al (Z : State) (h : Heap) (a : Addr) (n : Int32) : Prop := ∃ (c : Cell) (ty : FieldType), Arr Z h a c ty ∧ c.slots.size = n.toNatClampNeg ∧ ¬ n < 0
def own_Ca (Z : State) (h : Heap) (a : Addr) : Prop := ∃ c : Cell, Arr Z h a c (.object "java/lang/Integer") ∧ c.slots.size = 256 ∧ ∀ i, i < 256 → ∃ x, c.slots[i]? = some (.ref x) ∧ Exa Z h x "java/lang/Integer"
section OwnTables
variable {Z : State} {h h' : Heap} {a b : Addr} {sl : Nat} {v : Value} {n : Int32} {ws : List Addr}
theorem own_Al.lt (F : own_Al Z h a n) : a < h.size := by obtain ⟨c, ty, A, -⟩ := F; exact A.lt
theorem own_Al.ext (F : own_Al Z h a n) (E : Ext h h') : own_Al Z h' a n := by obtain ⟨c, ty, A, r⟩ := F; exact ⟨c, ty, A.ext E, r⟩
theorem own_Al.other (F : own_Al Z h b n) (W : Wr h h' a sl v) (q : b ≠ a) : own_Al Z h' b n := by obtain ⟨c, ty, A, r⟩ := F; exact ⟨c, ty, A.other W q, r⟩
theorem own_Al.keep (F : own_Al Z h a n) (K : Keep h h' ws) (q : a ∉ ws) : own_Al Z h' a n := by obtain ⟨c, ty, A, r⟩ := F; exact ⟨c, ty, ⟨K.2.1 a c A.1 q, A.2⟩, r⟩
theorem own_Al.of {k : ClassId} {ty : FieldType} {hs : List (Int32 × Value)} {vs : List Value} {d : Value} (F : Arh Z h a k ty n hs vs d) : own_Al Z h a n := by obtain ⟨c, A, -, S, M, -⟩ := F; exact ⟨c, ty, A, S, M⟩
theorem own_Ca.lt (F : own_Ca Z h a) : a < h.size := by obtain ⟨c, A, -⟩ := F; exact A.lt
theorem own_Ca.ext (F : own_Ca Z h a) (E : Ext h h') : own_Ca Z h' a := by
  obtain ⟨c, A, S, H⟩ := F
  exact ⟨c, A.ext E, S, fun i hi => by obtain ⟨x, p, q⟩ := H i hi; exact ⟨x, p, q.ext E⟩⟩
theorem own_Ca.other (F : own_Ca Z h b) (W : Wr h h' a sl v) (q : b ≠ a) : own_Ca Z h' b := by
  obtain ⟨c, A, S, H⟩ := F
  exact ⟨c, A.other W q, S, fun i hi => by obtain ⟨x, p, q⟩ := H i hi; exact ⟨x, p, q.wr W⟩⟩
theorem own_Ca.keep (F : own_Ca Z h a) (K : Keep h h' ws) (q : a ∉ ws) : own_Ca Z h' a := by
  obtain ⟨c, A, S, H⟩ := F
  exact ⟨c, ⟨K.2.1 a c A.1 q, A.2⟩, S, fun i hi => by obtain ⟨x, p, q⟩ := H i hi; exact ⟨x, p, q.keep K⟩⟩
end OwnTables
section OwnHits
variable {p : Program} {l : Launch} {e : Env} {R : Room} {s : State} {m : MethodId} {args : Array Value} {below : List Frame} {meth : Method} {c : Code} {T : State} {locs : List Loc} {cells slots : Nat} {Z : State} {h : Heap} {a : Addr} {k : ClassId} {ty : FieldType} {n j : Int32} {vs : List Value} {hs : List (Int32 × Value)} {d v : Value} {rest : List Value}
theorem own_aaloadH (X : Stand p l e R s m args below meth c T locs cells slots) (hx : p.tables.exec = Jvm.exec) (hZ : Z.Warmed39 s.vm) (eT : T.heap = h) (F : Arh Z h a k ty n hs vs d) (hty : ty.isReference = true) (hj : ¬ j < 0 ∧ j < n) (hv : getH hs vs d j.toNatClampNeg = v) {g : JFrame} (hg : g.method = m) (hst : g.stack = .int j :: .ref a :: rest) (hd : decode c.code g.pc = .ok (.aaload, 1)) :
    ∀ target, Steps p.tables e below (T.setTop { g with pc := g.pc + 1, stack := v :: rest }) target → Steps p.tables e below (T.setTop g) target := by
  obtain ⟨cl, A, -, S, -, H, -⟩ := F
  exact X.aaload hx (by rw [eT]; exact A.1) (State.isArrayOf_alike hZ.alike A.2.1) hty A.2.2 (inb_of S hj) (atH H (inb_of S hj) hv) hg hst hd
theorem own_laloadH (X : Stand p l e R s m args below meth c T locs cells slots) (hx : p.tables.exec = Jvm.exec) (hZ : Z.Warmed39 s.vm) (eT : T.heap = h) (F : Arh Z h a k .long n hs vs d) (hj : ¬ j < 0 ∧ j < n) (hv : getH hs vs d j.toNatClampNeg = v) {g : JFrame} (hg : g.method = m) (hst : g.stack = .int j :: .ref a :: rest) (hd : decode c.code g.pc = .ok (.laload, 1)) :
    ∀ target, Steps p.tables e below (T.setTop { g with pc := g.pc + 1, stack := v :: rest }) target → Steps p.tables e below (T.setTop g) target := by
  obtain ⟨cl, A, -, S, -, H, -⟩ := F
  exact X.laload hx (by rw [eT]; exact A.1) (State.isArrayOf_alike hZ.alike A.2.1) A.2.2 (inb_of S hj) (atH H (inb_of S hj) hv) hg hst hd
theorem own_baloadZH (X : Stand p l e R s m args below meth c T locs cells slots) (hx : p.tables.exec = Jvm.exec) (hZ : Z.Warmed39 s.vm) (eT : T.heap = h) (F : Arh Z h a k .boolean n hs vs d) (hj : ¬ j < 0 ∧ j < n) (hv : getH hs vs d j.toNatClampNeg = v) {g : JFrame} (hg : g.method = m) (hst : g.stack = .int j :: .ref a :: rest) (hd : decode c.code g.pc = .ok (.baload, 1)) :
    ∀ target, Steps p.tables e below (T.setTop { g with pc := g.pc + 1, stack := v :: rest }) target → Steps p.tables e below (T.setTop g) target := by
  obtain ⟨cl, A, -, S, -, H, -⟩ := F
  exact X.baloadBooleans hx (by rw [eT]; exact A.1) (State.isArrayOf_alike hZ.alike A.2.1) A.2.2 (inb_of S hj) (atH H (inb_of S hj) hv) hg hst hd
theorem own_alenA (X : Stand p l e R s m args below meth c T locs cells slots) (hx : p.tables.exec = Jvm.exec) (hZ : Z.Warmed39 s.vm) (eT : T.heap = h) (F : own_Al Z h a n) {g : JFrame} (hg : g.method = m) (hs : g.stack = .ref a :: rest) (hd : decode c.code g.pc = .ok (.arraylength, 1)) :
    ∀ target, Steps p.tables e below (T.setTop { g with pc := g.pc + 1, stack := .int n :: rest }) target → Steps p.tables e below (T.setTop g) target := by
  obtain ⟨cl, ty, A, S, N⟩ := F
  have q := X.arraylength hx (by rw [eT]; exact A.1) (State.isArrayOf_alike hZ.alike A.2.1) hg hs hd
  rw [len_of S N] at q
  exact q
theorem own_alenH (X : Stand p l e R s m args below meth c T locs cells slots) (hx : p.tables.exec = Jvm.exec) (hZ : Z.Warmed39 s.vm) (eT : T.heap = h) (F : Arh Z h a k ty n hs vs d) {g : JFrame} (hg : g.method = m) (hs : g.stack = .ref a :: rest) (hd : decode c.code g.pc = .ok (.arraylength, 1)) :
    ∀ target, Steps p.tables e below (T.setTop { g with pc := g.pc + 1, stack := .int n :: rest }) target → Steps p.tables e below (T.setTop g) target := own_alenA X hx hZ eT (own_Al.of F) hg hs hd
end OwnHits
theorem own_neA {Z : State} {h : Heap} {a b : Addr} {C : String} {n : Int32} {a0 : Array Value} {kk : Nat} (F : Exa Z h a C) (wi : (Jvm.Cond.instantiable C kk).before a0 Z = true) (G : own_Al Z h b n) : a ≠ b := by
  obtain ⟨c, ty, A, -⟩ := G
  exact ne_arr F wi A
theorem own_neC {Z : State} {h : Heap} {a b : Addr} {C : String} {a0 : Array Value} {kk : Nat} (F : Exa Z h a C) (wi : (Jvm.Cond.instantiable C kk).before a0 Z = true) (G : own_Ca Z h b) : a ≠ b := by
  obtain ⟨c, A, -⟩ := G
  exact ne_arr F wi A
theorem own_cast {args : Array Value} {s : State} {t : Jvm.Term} {cl : Cell} {x : Addr} {rest : Jvm.Cond} (ht : ∀ idx, t.eval args s none idx s = some (.ref x)) (A : Jvm.RoadKit.Arr s s.heap x cl (.object "java/lang/Integer")) (hl : (Jvm.Cond.eq (Jvm.Term.length t) (Jvm.Term.int (256 : Int32))).value args s none s [] = some true)
    (hall : (Jvm.Cond.all t (Jvm.Cond.and (Jvm.Cond.exactly (Jvm.Term.elem t (Jvm.Term.index (0 : Nat))) "java/lang/Integer") rest)).value args s none s [] = some true) : own_Ca s s.heap x := by
  obtain ⟨hsz, hz⟩ := own_len hl (ht []) A
  have ha : s.arrayAt? x = some cl := A.fin (Vm.Alike.refl _)
  have h256 : cl.slots.size = 256 := by
    have q := len_toInt hsz
    rw [hz] at q
    have z : (256 : Int32).toInt = 256 := rfl
    omega
  refine ⟨cl, A, h256, fun i hi => ?_⟩
  have hj := Cond.all_elim (ht []) ha hall i (by rw [h256]; exact hi)
  obtain ⟨h1, -⟩ := and_e hj
  obtain ⟨hnn, hback⟩ := Jvm.Free.IntBox.place_nonneg i hi
  have he : (Jvm.Term.elem t (Jvm.Term.index (0 : Nat))).eval args s none [i] s = cl.slots[i]? := by
    simp [Term.eval, ht, hnn, ha, hback]
  obtain ⟨box, c', cell, k, e1, e2, e3, e4, e5, e6, e7⟩ := Cond.exactly_spec (beq_iff_eq.mpr h1 : (Jvm.Cond.exactly (Jvm.Term.elem t (Jvm.Term.index (0 : Nat))) "java/lang/Integer").holds args s none s [i] = true)
  rw [he] at e1
  subst e6
  exact ⟨box, e1, cell, k, e3, e2, e4, e5, e7⟩
abbrev own_s0 : String := "com/example/backchannel/backchannel/server/LongTable"
abbrev own_s1 : String := "java/lang/Object"
abbrev own_s2 : String := "[Ljava/lang/Object;"
abbrev own_s3 : String := "(I)Ljava/lang/Object;"
abbrev own_s4 : String := " (.int (1 : Int32)) ∧ True) ∨ (∃ k7x3_12c9c5002c5004 : ClassId, ∃ k3x3_12c9c5002c25c5004c33 : ClassId, v = some (.int (((own_home jp1x6_34) + (1 : Int32)) &&& ((8 : Int32) - (1 : Int32)))) ∧ ((own_home jp1x6_34) = (own_home jp0)) ∧ (¬ ((lcmpW jp0 jp1x6_34) = (0 : Int32))) ∧ ((own_home jp1x6_34) = (own_home jp0)) ∧ Arh Z h b7x3_12c9c5002 k7x3_12c9c5002c5004 .boolean (8 : Int32) [((((own_home jp1x6_34) + (1 : Int32)) &&& ((8 : Int32) - (1 : Int32))), (.int (1 : Int32))), ((own_home jp0), (.int (1 : Int32)))] [] (.int (0 : Int32)) ∧ Arh Z h b3x3_12c9c5002 k3x3_12c9c5002c25c5004c33 .long ((((8 : Int32).toInt64) * (((1 : Int32) + fv0).toInt64)).toInt32) [(((((own_home jp1x6_34) + (1 : Int32)) &&& ((8 : Int32) - (1 : Int32))) * ((1 : Int32) + fv0)), (.long jp1x6_34)), (((own_home jp0) * ((1 : Int32) + fv0)), (.long jp0))] [] (.long (0 : Int64)) ∧ Fld Z h b5001 "
abbrev own_y0 : MethodName := ⟨own_s0, "value", own_s3⟩
abbrev own_y1 : MethodName := ⟨own_s0, "setValue", "(ILjava/lang/Object;)V"⟩
abbrev own_y2 : MethodName := ⟨"java/util/Arrays", "fill", "([JIIJ)V"⟩
abbrev own_y3 : MethodName := ⟨own_s0, "freeSlot", "(J)I"⟩
abbrev own_y4 : MethodName := ⟨own_s0, "find", "(J)I"⟩
abbrev own_y5 : MethodName := ⟨own_s0, "add", "(J)I"⟩
theorem own_d4_0 : decode jdk_29_method_28_code 0 = .ok (.iload_n 0, 1) := by decide +kernel
theorem own_d4_1 : decode jdk_29_method_28_code 1 = .ok (.i2l, 1) := by decide +kernel
theorem own_d4_2 : decode jdk_29_method_28_code 2 = .ok (.iload_n 1, 1) := by decide +kernel
theorem own_d4_3 : decode jdk_29_method_28_code 3 = .ok (.i2l, 1) := by decide +kernel
theorem own_d4_4 : decode jdk_29_method_28_code 4 = .ok (.lmul, 1) := by decide +kernel
theorem own_d4_5 : decode jdk_29_method_28_code 5 = .ok (.lstore_n 2, 1) := by decide +kernel
theorem own_d4_6 : decode jdk_29_method_28_code 6 = .ok (.lload_n 2, 1) := by decide +kernel
theorem own_d4_7 : decode jdk_29_method_28_code 7 = .ok (.l2i, 1) := by decide +kernel
theorem own_d4_8 : decode jdk_29_method_28_code 8 = .ok (.i2l, 1) := by decide +kernel
theorem own_d4_9 : decode jdk_29_method_28_code 9 = .ok (.lload_n 2, 1) := by decide +kernel
theorem own_d4_10 : decode jdk_29_method_28_code 10 = .ok (.lcmp, 1) := by decide +kernel
theorem own_d4_11 : decode jdk_29_method_28_code 11 = .ok (.ifCond .eq 13, 3) := by decide +kernel
theorem own_d4_24 : decode jdk_29_method_28_code 24 = .ok (.lload_n 2, 1) := by decide +kernel
theorem own_d4_25 : decode jdk_29_method_28_code 25 = .ok (.l2i, 1) := by decide +kernel
theorem own_d4_26 : decode jdk_29_method_28_code 26 = .ok (.ireturn, 1) := by decide +kernel
theorem own_ef4 (m : MethodId) (x0 : Int32) (x1 : Int32) : entryFrame m #[(.int x0), (.int x1)] 4 = mkF m 0 #[.val (.int x0), .val (.int x1), .unset, .unset] [] := by first | (simp [entryFrame, mkF, argsToLocals, Value.category]; done) | rfl
def own_Q4_13 (Z : State) (fv0 : Int32) (h0 : Heap) (n0 : Nat) (v : Option Value) (h : Heap) (L : List Loc) : Prop := Fr n0 L ∧ Keep h0 h [] ∧ ((v = some (.int ((((8 : Int32).toInt64) * (((1 : Int32) + fv0).toInt64)).toInt32)) ∧ True))
set_option maxRecDepth 65536 in
set_option maxHeartbeats 40000000 in
theorem own_rm4_13 (l : Launch) (Z : State) (a0 : Array Value) (hw : ∀ d ∈ tables_1, d.before a0 Z = true) (ws : List Jvm.Cond) (fv0 : Int32) (h0 : Heap) (n0 : Nat) (Z0 : n0 ≤ h0.size) (R_fv0 : fv0 = (0 : Int32) ∨ fv0 = (1 : Int32) ∨ fv0 = (2 : Int32) ∨ fv0 = (3 : Int32)) :
    MetFree l (⟨"java/lang/Math", "multiplyExact", "(II)I"⟩ : MethodName) (head1 (Jvm.Cond.code (⟨"java/lang/Math", "multiplyExact", "(II)I"⟩ : MethodName) jdk_29_method_28_code 4 (some .int) :: ws) ({ frames := 0, cells := 0, slots := 0, locals := 0 } : Room)) (fun a U => a = #[(.int (8 : Int32)), (.int ((1 : Int32) + fv0))] ∧ Z.Warmed39 U.vm ∧ U.heap = h0) (fun _ _ _ _ _ => True) (fun _ U o U' => ∃ v L, o = .returned v ∧ own_Q4_13 Z fv0 h0 n0 v U'.heap L ∧ FrameEnd U o U' L ({ frames := 0, cells := 0, slots := 0, locals := 0 } : Room).cells ({ frames := 0, cells := 0, slots := 0, locals := 0 } : Room).slots) := by
  refine MetFree.of_bodySF (Jvm.Free.JP.mathPlain rfl (by decide +kernel)) hisR ?_
  intro p e s m args below meth c s₁ Bd hml0 hP hK
  obtain ⟨rfl, hZ, hh⟩ := hP
  have hx := Bd.exec
  have hlk := Bd.notSynchronized
  have hret := Bd.returns
  have hby := Bd.bytes
  have hml : c.maxLocals = 4 := hml0
  have hown : s.vm.findClass "java/lang/Math" = some m.cls := findClass_of_methodNamed Bd.named
  have hnm := (name_of_methodNamed Bd.named Bd.method).1
  have X0 : Stand p l e ({ frames := 0, cells := 0, slots := 0, locals := 0 } : Room) s m #[(.int (8 : Int32)), (.int ((1 : Int32) + fv0))] below meth c s₁ [] 0 0 := Stand.of_body Bd
  have e0 : s₁.heap = h0 := by rw [← hh, Bd.state]; rfl
  have N0 := Fr.nil n0
  refine own_open (Q := own_Q4_13 Z fv0 h0 n0) (own_ef4 m (8 : Int32) ((1 : Int32) + fv0)) ?_
  refine own_st (fun t k => XS.iloadN X0.here hx rfl (hb hby own_d4_0) rfl (XS.i2l X0.here hx rfl (hb hby own_d4_1) rfl k)) ?_
  show own_Go _ _ _ _ s₁ (mkF m 2 #[.val (.int (8 : Int32)), .val (.int ((1 : Int32) + fv0)), .unset, .unset] [(.long ((8 : Int32).toInt64))])
  refine own_st (fun t k => XS.iloadN X0.here hx rfl (hb hby own_d4_2) rfl (XS.i2l X0.here hx rfl (hb hby own_d4_3) rfl (XS.lmul X0.here hx rfl (hb hby own_d4_4) rfl k))) ?_
  show own_Go _ _ _ _ s₁ (mkF m 5 #[.val (.int (8 : Int32)), .val (.int ((1 : Int32) + fv0)), .unset, .unset] [(.long (((8 : Int32).toInt64) * (((1 : Int32) + fv0).toInt64)))])
  refine own_st (fun t k => XS.lstoreN X0.here hx rfl (hb hby own_d4_5) rfl (l' := #[.val (.int (8 : Int32)), .val (.int ((1 : Int32) + fv0)), .val (.long (((8 : Int32).toInt64) * (((1 : Int32) + fv0).toInt64))), .second]) rfl (XS.lloadN X0.here hx rfl (hb hby own_d4_6) rfl (XS.l2i X0.here hx rfl (hb hby own_d4_7) rfl k))) ?_
  show own_Go _ _ _ _ s₁ (mkF m 8 #[.val (.int (8 : Int32)), .val (.int ((1 : Int32) + fv0)), .val (.long (((8 : Int32).toInt64) * (((1 : Int32) + fv0).toInt64))), .second] [(.int ((((8 : Int32).toInt64) * (((1 : Int32) + fv0).toInt64)).toInt32))])
  refine own_st (fun t k => XS.i2l X0.here hx rfl (hb hby own_d4_8) rfl (XS.lloadN X0.here hx rfl (hb hby own_d4_9) rfl (XS.lcmp X0.here hx rfl (hb hby own_d4_10) rfl k))) ?_
  show own_Go _ _ _ _ s₁ (mkF m 11 #[.val (.int (8 : Int32)), .val (.int ((1 : Int32) + fv0)), .val (.long (((8 : Int32).toInt64) * (((1 : Int32) + fv0).toInt64))), .second] [(.int (lcmpW (((((8 : Int32).toInt64) * (((1 : Int32) + fv0).toInt64)).toInt32).toInt64) (((8 : Int32).toInt64) * (((1 : Int32) + fv0).toInt64))))])
  refine own_st (fun t k => XS.ifYes X0.here hx rfl (pc0 := 11) (pc' := 24) rfl (hb hby own_d4_11) rfl ((if0 _ _).trans (teq ((by decide +kernel : ∀ x ∈ own_D4, ((lcmpW (((((8 : Int32).toInt64) * (((1 : Int32) + x).toInt64)).toInt32).toInt64) (((8 : Int32).toInt64) * (((1 : Int32) + x).toInt64))) = (0 : Int32))) _ (own_m4 R_fv0) )).1) (by decide) (by decide) (XS.lloadN X0.here hx rfl (hb hby own_d4_24) rfl (XS.l2i X0.here hx rfl (hb hby own_d4_25) rfl k))) ?_
  show own_Go _ _ _ _ s₁ (mkF m 26 #[.val (.int (8 : Int32)), .val (.int ((1 : Int32) + fv0)), .val (.long (((8 : Int32).toInt64) * (((1 : Int32) + fv0).toInt64))), .second] [(.int ((((8 : Int32).toInt64) * (((1 : Int32) + fv0).toInt64)).toInt32))])
  exact own_retI X0 hx hlk hret (hb hby own_d4_26) (by decide) (by decide) e0 ⟨N0, (Keep.refl h0 []), ⟨rfl, trivial⟩⟩
theorem own_pd0 : parseMethodDescriptor "(II)I" = some ⟨[.int, .int], some .int⟩ := by decide +kernel
theorem own_d5_0 : decode jdk_33_method_48_code 0 = .ok (.iload_n 0, 1) := by decide +kernel
theorem own_d5_1 : decode jdk_33_method_48_code 1 = .ok (.iconst (-1), 1) := by decide +kernel
theorem own_d5_2 : decode jdk_33_method_48_code 2 = .ok (.ixor, 1) := by decide +kernel
theorem own_d5_3 : decode jdk_33_method_48_code 3 = .ok (.iload_n 0, 1) := by decide +kernel
theorem own_d5_4 : decode jdk_33_method_48_code 4 = .ok (.iconst 1, 1) := by decide +kernel
theorem own_d5_5 : decode jdk_33_method_48_code 5 = .ok (.isub, 1) := by decide +kernel
theorem own_d5_6 : decode jdk_33_method_48_code 6 = .ok (.iand, 1) := by decide +kernel
theorem own_d5_7 : decode jdk_33_method_48_code 7 = .ok (.istore_n 0, 1) := by decide +kernel
theorem own_d5_8 : decode jdk_33_method_48_code 8 = .ok (.iload_n 0, 1) := by decide +kernel
theorem own_d5_9 : decode jdk_33_method_48_code 9 = .ok (.ifCond .gt 8, 3) := by decide +kernel
theorem own_d5_17 : decode jdk_33_method_48_code 17 = .ok (.iconst 1, 1) := by decide +kernel
theorem own_d5_18 : decode jdk_33_method_48_code 18 = .ok (.istore_n 1, 1) := by decide +kernel
theorem own_d5_19 : decode jdk_33_method_48_code 19 = .ok (.iload_n 0, 1) := by decide +kernel
theorem own_d5_20 : decode jdk_33_method_48_code 20 = .ok (.ldc_w 264, 3) := by decide +kernel
theorem own_d5_23 : decode jdk_33_method_48_code 23 = .ok (.if_icmp .le 11, 3) := by decide +kernel
theorem own_d5_34 : decode jdk_33_method_48_code 34 = .ok (.iload_n 0, 1) := by decide +kernel
theorem own_d5_35 : decode jdk_33_method_48_code 35 = .ok (.sipush 256, 3) := by decide +kernel
theorem own_d5_38 : decode jdk_33_method_48_code 38 = .ok (.if_icmp .le 11, 3) := by decide +kernel
theorem own_d5_49 : decode jdk_33_method_48_code 49 = .ok (.iload_n 0, 1) := by decide +kernel
theorem own_d5_50 : decode jdk_33_method_48_code 50 = .ok (.bipush 16, 2) := by decide +kernel
theorem own_d5_52 : decode jdk_33_method_48_code 52 = .ok (.if_icmp .le 10, 3) := by decide +kernel
theorem own_d5_62 : decode jdk_33_method_48_code 62 = .ok (.iload_n 0, 1) := by decide +kernel
theorem own_d5_63 : decode jdk_33_method_48_code 63 = .ok (.iconst 4, 1) := by decide +kernel
theorem own_d5_64 : decode jdk_33_method_48_code 64 = .ok (.if_icmp .le 10, 3) := by decide +kernel
theorem own_d5_67 : decode jdk_33_method_48_code 67 = .ok (.iinc 1 2, 3) := by decide +kernel
theorem own_d5_70 : decode jdk_33_method_48_code 70 = .ok (.iload_n 0, 1) := by decide +kernel
theorem own_d5_71 : decode jdk_33_method_48_code 71 = .ok (.iconst 2, 1) := by decide +kernel
theorem own_d5_72 : decode jdk_33_method_48_code 72 = .ok (.iushr, 1) := by decide +kernel
theorem own_d5_73 : decode jdk_33_method_48_code 73 = .ok (.istore_n 0, 1) := by decide +kernel
theorem own_d5_74 : decode jdk_33_method_48_code 74 = .ok (.iload_n 1, 1) := by decide +kernel
theorem own_d5_75 : decode jdk_33_method_48_code 75 = .ok (.iload_n 0, 1) := by decide +kernel
theorem own_d5_76 : decode jdk_33_method_48_code 76 = .ok (.iconst 1, 1) := by decide +kernel
theorem own_d5_77 : decode jdk_33_method_48_code 77 = .ok (.iushr, 1) := by decide +kernel
theorem own_d5_78 : decode jdk_33_method_48_code 78 = .ok (.iadd, 1) := by decide +kernel
theorem own_d5_79 : decode jdk_33_method_48_code 79 = .ok (.ireturn, 1) := by decide +kernel
theorem own_ef5 (m : MethodId) (x0 : Int32) : entryFrame m #[(.int x0)] 2 = mkF m 0 #[.val (.int x0), .unset] [] := by first | (simp [entryFrame, mkF, argsToLocals, Value.category]; done) | rfl
theorem own_pn0 : plainName "java/lang/Integer" = true := by first | (simp [plainName, overriddenIn]; done) | decide +kernel
def own_Q5_14 (Z : State)  (h0 : Heap) (n0 : Nat) (v : Option Value) (h : Heap) (L : List Loc) : Prop := Fr n0 L ∧ Keep h0 h [] ∧ ((v = some (.int (3 : Int32)) ∧ True))
set_option maxRecDepth 65536 in
set_option maxHeartbeats 40000000 in
theorem own_rm5_14 (l : Launch) (Z : State) (a0 : Array Value) (hw : ∀ d ∈ tables_1, d.before a0 Z = true) (ws : List Jvm.Cond)  (h0 : Heap) (n0 : Nat) (Z0 : n0 ≤ h0.size) :
    MetFree l (⟨"java/lang/Integer", "numberOfTrailingZeros", "(I)I"⟩ : MethodName) (head1 (Jvm.Cond.code (⟨"java/lang/Integer", "numberOfTrailingZeros", "(I)I"⟩ : MethodName) jdk_33_method_48_code 2 (some .int) :: ws) ({ frames := 0, cells := 0, slots := 0, locals := 0 } : Room)) (fun a U => a = #[(.int (8 : Int32))] ∧ Z.Warmed39 U.vm ∧ U.heap = h0) (fun _ _ _ _ _ => True) (fun _ U o U' => ∃ v L, o = .returned v ∧ own_Q5_14 Z  h0 n0 v U'.heap L ∧ FrameEnd U o U' L ({ frames := 0, cells := 0, slots := 0, locals := 0 } : Room).cells ({ frames := 0, cells := 0, slots := 0, locals := 0 } : Room).slots) := by
  refine MetFree.of_bodySF (plainFor_of_name own_pn0) hisR ?_
  intro p e s m args below meth c s₁ Bd hml0 hP hK
  obtain ⟨rfl, hZ, hh⟩ := hP
  have hx := Bd.exec
  have hlk := Bd.notSynchronized
  have hret := Bd.returns
  have hby := Bd.bytes
  have hml : c.maxLocals = 2 := hml0
  have hown : s.vm.findClass "java/lang/Integer" = some m.cls := findClass_of_methodNamed Bd.named
  have hnm := (name_of_methodNamed Bd.named Bd.method).1
  have X0 : Stand p l e ({ frames := 0, cells := 0, slots := 0, locals := 0 } : Room) s m #[(.int (8 : Int32))] below meth c s₁ [] 0 0 := Stand.of_body Bd
  have e0 : s₁.heap = h0 := by rw [← hh, Bd.state]; rfl
  have N0 := Fr.nil n0
  refine own_open (Q := own_Q5_14 Z  h0 n0) (own_ef5 m (8 : Int32)) ?_
  refine own_st (fun t k => XS.iloadN X0.here hx rfl (hb hby own_d5_0) rfl (XS.iconst X0.here hx rfl (hb hby own_d5_1) k)) ?_
  show own_Go _ _ _ _ s₁ (mkF m 2 #[.val (.int (8 : Int32)), .unset] [(.int (-1 : Int32)), (.int (8 : Int32))])
  refine own_st (fun t k => XS.ixor X0.here hx rfl (hb hby own_d5_2) rfl (XS.iloadN X0.here hx rfl (hb hby own_d5_3) rfl (XS.iconst X0.here hx rfl (hb hby own_d5_4) k))) ?_
  show own_Go _ _ _ _ s₁ (mkF m 5 #[.val (.int (8 : Int32)), .unset] [(.int (1 : Int32)), (.int (8 : Int32)), (.int ((8 : Int32) ^^^ (-1 : Int32)))])
  refine own_st (fun t k => XS.isub X0.here hx rfl (hb hby own_d5_5) rfl (XS.iand X0.here hx rfl (hb hby own_d5_6) rfl (XS.istoreN X0.here hx rfl (hb hby own_d5_7) rfl (l' := #[.val (.int (((8 : Int32) ^^^ (-1 : Int32)) &&& ((8 : Int32) - (1 : Int32)))), .unset]) rfl k))) ?_
  show own_Go _ _ _ _ s₁ (mkF m 8 #[.val (.int (((8 : Int32) ^^^ (-1 : Int32)) &&& ((8 : Int32) - (1 : Int32)))), .unset] [])
  refine own_st (fun t k => XS.iloadN X0.here hx rfl (hb hby own_d5_8) rfl (XS.ifYes X0.here hx rfl (pc0 := 9) (pc' := 17) rfl (hb hby own_d5_9) rfl ((if0 _ _).trans (tlt (by decide : (0 : Int32) < (((8 : Int32) ^^^ (-1 : Int32)) &&& ((8 : Int32) - (1 : Int32))))).2.2.1) (by decide) (by decide) (XS.iconst X0.here hx rfl (hb hby own_d5_17) k))) ?_
  show own_Go _ _ _ _ s₁ (mkF m 18 #[.val (.int (((8 : Int32) ^^^ (-1 : Int32)) &&& ((8 : Int32) - (1 : Int32)))), .unset] [(.int (1 : Int32))])
  refine own_st (fun t k => XS.istoreN X0.here hx rfl (hb hby own_d5_18) rfl (l' := #[.val (.int (((8 : Int32) ^^^ (-1 : Int32)) &&& ((8 : Int32) - (1 : Int32)))), .val (.int (1 : Int32))]) rfl (XS.iloadN X0.here hx rfl (hb hby own_d5_19) rfl k)) ?_
  refine own_st (X0.ldcwInt hx hown (mvT hZ (own_w hw 31 rfl)) (g := (mkF m 20 #[.val (.int (((8 : Int32) ^^^ (-1 : Int32)) &&& ((8 : Int32) - (1 : Int32)))), .val (.int (1 : Int32))] [(.int (((8 : Int32) ^^^ (-1 : Int32)) &&& ((8 : Int32) - (1 : Int32))))])) rfl (hb hby own_d5_20)) ?_
  show own_Go _ _ _ _ s₁ (mkF m 23 #[.val (.int (((8 : Int32) ^^^ (-1 : Int32)) &&& ((8 : Int32) - (1 : Int32)))), .val (.int (1 : Int32))] [(.int (65536 : Int32)), (.int (((8 : Int32) ^^^ (-1 : Int32)) &&& ((8 : Int32) - (1 : Int32))))])
  refine own_st (fun t k => XS.icmpYes X0.here hx rfl (pc0 := 23) (pc' := 34) rfl (hb hby own_d5_23) rfl (flt (by decide : ¬ ((65536 : Int32) < (((8 : Int32) ^^^ (-1 : Int32)) &&& ((8 : Int32) - (1 : Int32)))))).2.2.2 (by decide) (by decide) (XS.iloadN X0.here hx rfl (hb hby own_d5_34) rfl (XS.sipush X0.here hx rfl (hb hby own_d5_35) k))) ?_
  show own_Go _ _ _ _ s₁ (mkF m 38 #[.val (.int (((8 : Int32) ^^^ (-1 : Int32)) &&& ((8 : Int32) - (1 : Int32)))), .val (.int (1 : Int32))] [(.int (256 : Int32)), (.int (((8 : Int32) ^^^ (-1 : Int32)) &&& ((8 : Int32) - (1 : Int32))))])
  refine own_st (fun t k => XS.icmpYes X0.here hx rfl (pc0 := 38) (pc' := 49) rfl (hb hby own_d5_38) rfl (flt (by decide : ¬ ((256 : Int32) < (((8 : Int32) ^^^ (-1 : Int32)) &&& ((8 : Int32) - (1 : Int32)))))).2.2.2 (by decide) (by decide) (XS.iloadN X0.here hx rfl (hb hby own_d5_49) rfl (XS.bipush X0.here hx rfl (hb hby own_d5_50) k))) ?_
  show own_Go _ _ _ _ s₁ (mkF m 52 #[.val (.int (((8 : Int32) ^^^ (-1 : Int32)) &&& ((8 : Int32) - (1 : Int32)))), .val (.int (1 : Int32))] [(.int (16 : Int32)), (.int (((8 : Int32) ^^^ (-1 : Int32)) &&& ((8 : Int32) - (1 : Int32))))])
  refine own_st (fun t k => XS.icmpYes X0.here hx rfl (pc0 := 52) (pc' := 62) rfl (hb hby own_d5_52) rfl (flt (by decide : ¬ ((16 : Int32) < (((8 : Int32) ^^^ (-1 : Int32)) &&& ((8 : Int32) - (1 : Int32)))))).2.2.2 (by decide) (by decide) (XS.iloadN X0.here hx rfl (hb hby own_d5_62) rfl (XS.iconst X0.here hx rfl (hb hby own_d5_63) k))) ?_
  show own_Go _ _ _ _ s₁ (mkF m 64 #[.val (.int (((8 : Int32) ^^^ (-1 : Int32)) &&& ((8 : Int32) - (1 : Int32)))), .val (.int (1 : Int32))] [(.int (4 : Int32)), (.int (((8 : Int32) ^^^ (-1 : Int32)) &&& ((8 : Int32) - (1 : Int32))))])
  refine own_st (fun t k => XS.icmpNo X0.here hx rfl (hb hby own_d5_64) rfl (tlt (by decide : (4 : Int32) < (((8 : Int32) ^^^ (-1 : Int32)) &&& ((8 : Int32) - (1 : Int32))))).2.2.2 (XS.iinc X0.here hx rfl (hb hby own_d5_67) rfl (l' := #[.val (.int (((8 : Int32) ^^^ (-1 : Int32)) &&& ((8 : Int32) - (1 : Int32)))), .val (.int ((1 : Int32) + (2 : Int32)))]) rfl (XS.iloadN X0.here hx rfl (hb hby own_d5_70) rfl k))) ?_
  show own_Go _ _ _ _ s₁ (mkF m 71 #[.val (.int (((8 : Int32) ^^^ (-1 : Int32)) &&& ((8 : Int32) - (1 : Int32)))), .val (.int ((1 : Int32) + (2 : Int32)))] [(.int (((8 : Int32) ^^^ (-1 : Int32)) &&& ((8 : Int32) - (1 : Int32))))])
  refine own_st (fun t k => XS.iconst X0.here hx rfl (hb hby own_d5_71) (XS.iushr X0.here hx rfl (hb hby own_d5_72) rfl (XS.istoreN X0.here hx rfl (hb hby own_d5_73) rfl (l' := #[.val (.int (((((8 : Int32) ^^^ (-1 : Int32)) &&& ((8 : Int32) - (1 : Int32))).toUInt32 >>> ((2 : Int32) &&& 31).toUInt32).toInt32)), .val (.int ((1 : Int32) + (2 : Int32)))]) rfl k))) ?_
  show own_Go _ _ _ _ s₁ (mkF m 74 #[.val (.int (((((8 : Int32) ^^^ (-1 : Int32)) &&& ((8 : Int32) - (1 : Int32))).toUInt32 >>> ((2 : Int32) &&& 31).toUInt32).toInt32)), .val (.int ((1 : Int32) + (2 : Int32)))] [])
  refine own_st (fun t k => XS.iloadN X0.here hx rfl (hb hby own_d5_74) rfl (XS.iloadN X0.here hx rfl (hb hby own_d5_75) rfl (XS.iconst X0.here hx rfl (hb hby own_d5_76) k))) ?_
  show own_Go _ _ _ _ s₁ (mkF m 77 #[.val (.int (((((8 : Int32) ^^^ (-1 : Int32)) &&& ((8 : Int32) - (1 : Int32))).toUInt32 >>> ((2 : Int32) &&& 31).toUInt32).toInt32)), .val (.int ((1 : Int32) + (2 : Int32)))] [(.int (1 : Int32)), (.int (((((8 : Int32) ^^^ (-1 : Int32)) &&& ((8 : Int32) - (1 : Int32))).toUInt32 >>> ((2 : Int32) &&& 31).toUInt32).toInt32)), (.int ((1 : Int32) + (2 : Int32)))])
  refine own_st (fun t k => XS.iushr X0.here hx rfl (hb hby own_d5_77) rfl (XS.iadd X0.here hx rfl (hb hby own_d5_78) rfl k)) ?_
  exact own_retI X0 hx hlk hret (hb hby own_d5_79) (by decide) (by decide) e0 ⟨N0, (Keep.refl h0 []), ⟨rfl, trivial⟩⟩
theorem own_pd1 : parseMethodDescriptor "(I)I" = some ⟨[.int], some .int⟩ := by decide +kernel
theorem own_d3_0 : decode prog_69_method_17_code 0 = .ok (.aload_n 0, 1) := by decide +kernel
theorem own_d3_1 : decode prog_69_method_17_code 1 = .ok (.iload_n 1, 1) := by decide +kernel
theorem own_d3_2 : decode prog_69_method_17_code 2 = .ok (.aload_n 0, 1) := by decide +kernel
theorem own_d3_3 : decode prog_69_method_17_code 3 = .ok (.getfield 7, 3) := by decide +kernel
theorem own_d3_6 : decode prog_69_method_17_code 6 = .ok (.invokestatic 87, 3) := by decide +kernel
theorem own_d3_9 : decode prog_69_method_17_code 9 = .ok (.newarray .long, 2) := by decide +kernel
theorem own_d3_11 : decode prog_69_method_17_code 11 = .ok (.putfield 28, 3) := by decide +kernel
theorem own_d3_14 : decode prog_69_method_17_code 14 = .ok (.aload_n 0, 1) := by decide +kernel
theorem own_d3_15 : decode prog_69_method_17_code 15 = .ok (.iload_n 1, 1) := by decide +kernel
theorem own_d3_16 : decode prog_69_method_17_code 16 = .ok (.newarray .boolean, 2) := by decide +kernel
theorem own_d3_18 : decode prog_69_method_17_code 18 = .ok (.putfield 20, 3) := by decide +kernel
theorem own_d3_21 : decode prog_69_method_17_code 21 = .ok (.aload_n 0, 1) := by decide +kernel
theorem own_d3_22 : decode prog_69_method_17_code 22 = .ok (.aconst_null, 1) := by decide +kernel
theorem own_d3_23 : decode prog_69_method_17_code 23 = .ok (.putfield 47, 3) := by decide +kernel
theorem own_d3_26 : decode prog_69_method_17_code 26 = .ok (.aload_n 0, 1) := by decide +kernel
theorem own_d3_27 : decode prog_69_method_17_code 27 = .ok (.bipush 64, 2) := by decide +kernel
theorem own_d3_29 : decode prog_69_method_17_code 29 = .ok (.iload_n 1, 1) := by decide +kernel
theorem own_d3_30 : decode prog_69_method_17_code 30 = .ok (.invokestatic 91, 3) := by decide +kernel
theorem own_d3_33 : decode prog_69_method_17_code 33 = .ok (.isub, 1) := by decide +kernel
theorem own_d3_34 : decode prog_69_method_17_code 34 = .ok (.putfield 84, 3) := by decide +kernel
theorem own_d3_37 : decode prog_69_method_17_code 37 = .ok (.return_, 1) := by decide +kernel
theorem own_ef3 (m : MethodId) (x0 : Addr) (x1 : Int32) : entryFrame m #[(.ref x0), (.int x1)] 2 = mkF m 0 #[.val (.ref x0), .val (.int x1)] [] := by first | (simp [entryFrame, mkF, argsToLocals, Value.category]; done) | rfl
theorem own_pn1 : plainName own_s0 = true := by first | (simp [plainName, overriddenIn]; done) | decide +kernel
def own_Q3_12 (Z : State) (b5001 : Addr) (fv0 : Int32) (h0 : Heap) (n0 : Nat) (v : Option Value) (h : Heap) (L : List Loc) : Prop := Fr n0 L ∧ Keep h0 h [b5001] ∧ ((∃ b3x3_12 : Addr, ∃ b7x3_12 : Addr, ∃ k3x3_12 : ClassId, ∃ k7x3_12 : ClassId, v = none ∧ h0.size ≤ b3x3_12 ∧ h0.size ≤ b7x3_12 ∧ Fld Z h b5001 own_s0 "width" "I" (.int ((1 : Int32) + fv0)) ∧ Fld Z h b5001 own_s0 "rows" "[J" (.ref b3x3_12) ∧ Fld Z h b5001 own_s0 "used" "[Z" (.ref b7x3_12) ∧ Fld Z h b5001 own_s0 "values" own_s2 .null ∧ Fld Z h b5001 own_s0 "shift" "I" (.int (61 : Int32)) ∧ Fld Z h b5001 own_s0 "size" "I" (.int (0 : Int32)) ∧ Arh Z h b3x3_12 k3x3_12 .long ((((8 : Int32).toInt64) * (((1 : Int32) + fv0).toInt64)).toInt32) [] [] (.long (0 : Int64)) ∧ Exa Z h b3x3_12 "[J" ∧ Arh Z h b7x3_12 k7x3_12 .boolean (8 : Int32) [] [] (.int (0 : Int32)) ∧ Exa Z h b7x3_12 "[Z" ∧ True))
set_option maxRecDepth 65536 in
set_option maxHeartbeats 40000000 in
theorem own_rm3_12 (l : Launch) (Z : State) (a0 : Array Value) (hw : ∀ d ∈ tables_1, d.before a0 Z = true) (ws : List Jvm.Cond) (b5001 : Addr) (fv0 : Int32) (h0 : Heap) (n0 : Nat) (Z0 : n0 ≤ h0.size) (P0 : Fld Z h0 b5001 own_s0 "width" "I" (.int ((1 : Int32) + fv0))) (R_fv0 : fv0 = (0 : Int32) ∨ fv0 = (1 : Int32) ∨ fv0 = (2 : Int32) ∨ fv0 = (3 : Int32)) (P2 : Exa Z h0 b5001 own_s0) (P3 : Fld Z h0 b5001 own_s0 "rows" "[J" .null) (g_b5001 : n0 ≤ b5001) (P5 : Fld Z h0 b5001 own_s0 "used" "[Z" .null) (P6 : Fld Z h0 b5001 own_s0 "values" own_s2 .null) (P7 : Fld Z h0 b5001 own_s0 "shift" "I" (.int (0 : Int32))) (P8 : Fld Z h0 b5001 own_s0 "size" "I" (.int (0 : Int32))) :
    MetFree l (⟨own_s0, "allocate", "(I)V"⟩ : MethodName) (head1 (Jvm.Cond.code (⟨own_s0, "allocate", "(I)V"⟩ : MethodName) prog_69_method_17_code 2 none :: ws) ({ frames := 1, cells := 2, slots := 40, locals := 16 } : Room)) (fun a U => a = #[(.ref b5001), (.int (8 : Int32))] ∧ Z.Warmed39 U.vm ∧ U.heap = h0) (fun _ _ _ _ _ => True) (fun _ U o U' => ∃ v L, o = .returned v ∧ own_Q3_12 Z b5001 fv0 h0 n0 v U'.heap L ∧ FrameEnd U o U' L ({ frames := 1, cells := 2, slots := 40, locals := 16 } : Room).cells ({ frames := 1, cells := 2, slots := 40, locals := 16 } : Room).slots) := by
  refine MetFree.of_bodySF (plainFor_of_name own_pn1) hisR ?_
  intro p e s m args below meth c s₁ Bd hml0 hP hK
  obtain ⟨rfl, hZ, hh⟩ := hP
  have hx := Bd.exec
  have hlk := Bd.notSynchronized
  have hret := Bd.returns
  have hby := Bd.bytes
  have hml : c.maxLocals = 2 := hml0
  have hown : s.vm.findClass own_s0 = some m.cls := findClass_of_methodNamed Bd.named
  have hnm := (name_of_methodNamed Bd.named Bd.method).1
  have X0 : Stand p l e ({ frames := 1, cells := 2, slots := 40, locals := 16 } : Room) s m #[(.ref b5001), (.int (8 : Int32))] below meth c s₁ [] 0 0 := Stand.of_body Bd
  have e0 : s₁.heap = h0 := by rw [← hh, Bd.state]; rfl
  have N0 := Fr.nil n0
  refine own_open (Q := own_Q3_12 Z b5001 fv0 h0 n0) (own_ef3 m b5001 (8 : Int32)) ?_
  refine own_st (fun t k => XS.aloadN X0.here hx rfl (hb hby own_d3_0) rfl rfl (XS.iloadN X0.here hx rfl (hb hby own_d3_1) rfl k)) ?_
  show own_Go _ _ _ _ s₁ (mkF m 2 #[.val (.ref b5001), .val (.int (8 : Int32))] [(.int (8 : Int32)), (.ref b5001)])
  refine own_st (fun t k => XS.aloadN X0.here hx rfl (hb hby own_d3_2) rfl rfl k) ?_
  refine own_gF X0 hx hZ hown (own_w hw 9 rfl) Via.refl e0 P0 (hb hby own_d3_3) rfl rfl fun T1 X1 e1 => ?_
  refine own_cS X1 hx hZ hown (own_w hw 15 rfl) (own_w hw 16 rfl) (own_w hw 17 rfl) (own_w hw 18 rfl) [(.int (8 : Int32)), (.int ((1 : Int32) + fv0))] [(.ref b5001)] (own_rm4_13 l Z a0 hw [] fv0 h0 n0 Z0 R_fv0) 1 (hb hby own_d3_6) (by rw [hml]; rfl) (lenOf own_pd0 rfl) e1 rfl rfl (by show 2 * 0 + _ ≤ _; exact Nat.le_of_eq rfl) (by decide) (by decide) (by decide) (by decide) (by decide) fun v2 T2 L2 X2 hQ2 => ?_
  obtain ⟨N2q, Kq2, hL2⟩ := hQ2
  have N2 := Fr.app N0 N2q
  have K2 : Keep h0 T2.heap [b5001] := (Keep.refl h0 [b5001]).trans Kq2 all0
  have Z2 := Nat.le_trans Z0 Kq2.1
  rcases hL2 with ⟨rfl, -⟩
  · skip
    show own_Go _ _ _ _ T2 (mkF m 9 #[.val (.ref b5001), .val (.int (8 : Int32))] [(.int ((((8 : Int32).toInt64) * (((1 : Int32) + fv0).toInt64)).toInt32)), (.ref b5001)])
    obtain ⟨T3, h3, k3x3_12, X3, e3, E3, A3, Ex3, st3⟩ := newPE X2 hx hZ (own_w hw 19 rfl) rfl (g := (mkF m 9 #[.val (.ref b5001), .val (.int (8 : Int32))] [(.int ((((8 : Int32).toInt64) * (((1 : Int32) + fv0).toInt64)).toInt32)), (.ref b5001)])) rfl (hb hby own_d3_9) rfl ((by decide +kernel : ∀ x ∈ own_D4, (¬ ((((8 : Int32).toInt64) * (((1 : Int32) + x).toInt64)).toInt32) < 0)) _ (own_m4 R_fv0) ) (cap := 32) ((by decide +kernel : ∀ x ∈ own_D4, (((((8 : Int32).toInt64) * (((1 : Int32) + x).toInt64)).toInt32).toNatClampNeg ≤ 32)) _ (own_m4 R_fv0) ) (by decide) (by decide) (by decide) (ad := "[J") (by decide +kernel)
    obtain ⟨b3x3_12, g3⟩ : ∃ z, z = T2.heap.size := ⟨_, rfl⟩
    rw [← g3] at A3 Ex3 st3
    have g_b3x3_12 : n0 ≤ b3x3_12 := Nat.le_trans Z2 (Nat.le_of_eq g3.symm)
    have sz_b3x3_12 : h0.size ≤ b3x3_12 := Nat.le_trans K2.1 (Nat.le_of_eq g3.symm)
    refine own_st st3 ?_
    have K3 : Keep h0 h3 [b5001] := K2.ext E3
    have Z3 := Nat.le_trans Z2 E3.1
    have V3 : Arh Z h3 b3x3_12 k3x3_12 .long ((((8 : Int32).toInt64) * (((1 : Int32) + fv0).toInt64)).toInt32) [] [] (.long (0 : Int64)) := (Arv.new A3 ((by decide +kernel : ∀ x ∈ own_D4, (¬ ((((8 : Int32).toInt64) * (((1 : Int32) + x).toInt64)).toInt32) < 0)) _ (own_m4 R_fv0) )).arh
    have f4 := (P2.keep K3)
    have f5 := ((P3.keep Kq2 nin0).ext E3)
    refine own_pF X3 hx hZ hown (own_w hw 20 rfl) Via.refl e3 f5 f4 (Or.inl (own_w hw 21 rfl)) (own_w hw 1 rfl) (ty := (.array .long)) (by decide) (hb hby own_d3_11) rfl rfl rfl rfl fun T6 h6 X6 e6 W6 => ?_
    have K6 : Keep h0 h6 [b5001] := K3.wr W6 (Or.inl (List.mem_of_getElem? (i := 0) rfl))
    have Z6 := Nat.le_trans Z3 (Keep.of_wr W6).1
    have N6 := Fr.snoc X6 N2 g_b5001
    have F6 : Fld Z h6 b5001 own_s0 "rows" "[J" (.ref b3x3_12) := f5.same W6
    refine own_st (fun t k => XS.aloadN X6.here hx rfl (hb hby own_d3_14) rfl rfl k) ?_
    show own_Go _ _ _ _ T6 (mkF m 15 #[.val (.ref b5001), .val (.int (8 : Int32))] [(.ref b5001)])
    refine own_st (fun t k => XS.iloadN X6.here hx rfl (hb hby own_d3_15) rfl k) ?_
    obtain ⟨T7, h7, k7x3_12, X7, e7, E7, A7, Ex7, st7⟩ := newPE X6 hx hZ (own_w hw 22 rfl) e6 (g := (mkF m 16 #[.val (.ref b5001), .val (.int (8 : Int32))] [(.int (8 : Int32)), (.ref b5001)])) rfl (hb hby own_d3_16) rfl (by decide) (cap := 8) (by decide) (by decide) (by decide) (by decide) (ad := "[Z") (by decide +kernel)
    obtain ⟨b7x3_12, g7⟩ : ∃ z, z = h6.size := ⟨_, rfl⟩
    rw [← g7] at A7 Ex7 st7
    have g_b7x3_12 : n0 ≤ b7x3_12 := Nat.le_trans Z6 (Nat.le_of_eq g7.symm)
    have sz_b7x3_12 : h0.size ≤ b7x3_12 := Nat.le_trans K6.1 (Nat.le_of_eq g7.symm)
    refine own_st st7 ?_
    have K7 : Keep h0 h7 [b5001] := K6.ext E7
    have Z7 := Nat.le_trans Z6 E7.1
    have V7 : Arh Z h7 b7x3_12 k7x3_12 .boolean (8 : Int32) [] [] (.int (0 : Int32)) := (Arv.new A7 (by decide)).arh
    have f8 := (P2.keep K7)
    have f9 := ((((P5.keep Kq2 nin0).ext E3).other W6 (Or.inr (slot_ne (Or.inl (own_w hw 24 rfl)) (Or.inl (own_w hw 21 rfl)) (by decide) (t := (.array .boolean)) (t' := (.array .long)) (by decide) (by decide)))).ext E7)
    refine own_pF X7 hx hZ hown (own_w hw 23 rfl) Via.refl e7 f9 f8 (Or.inl (own_w hw 24 rfl)) (own_w hw 1 rfl) (ty := (.array .boolean)) (by decide) (hb hby own_d3_18) rfl rfl rfl rfl fun T10 h10 X10 e10 W10 => ?_
    have K10 : Keep h0 h10 [b5001] := K7.wr W10 (Or.inl (List.mem_of_getElem? (i := 0) rfl))
    have Z10 := Nat.le_trans Z7 (Keep.of_wr W10).1
    have N10 := Fr.snoc X10 N6 g_b5001
    have F10 : Fld Z h10 b5001 own_s0 "used" "[Z" (.ref b7x3_12) := f9.same W10
    show own_Go _ _ _ _ T10 (mkF m 21 #[.val (.ref b5001), .val (.int (8 : Int32))] [])
    refine own_st (fun t k => XS.aloadN X10.here hx rfl (hb hby own_d3_21) rfl rfl (XS.aconstNull X10.here hx rfl (hb hby own_d3_22) k)) ?_
    have f11 := (f8.wr W10)
    have f12 := (((((P6.keep Kq2 nin0).ext E3).other W6 (Or.inr (slot_ne (Or.inl (own_w hw 26 rfl)) (Or.inl (own_w hw 21 rfl)) (by decide) (t := (.array (.object own_s1))) (t' := (.array .long)) (by decide) (by decide)))).ext E7).other W10 (Or.inr (slot_ne (Or.inl (own_w hw 26 rfl)) (Or.inl (own_w hw 24 rfl)) (by decide) (t := (.array (.object own_s1))) (t' := (.array .boolean)) (by decide) (by decide))))
    refine own_pF X10 hx hZ hown (own_w hw 25 rfl) Via.refl e10 f12 f11 (Or.inl (own_w hw 26 rfl)) (own_w hw 1 rfl) (ty := (.array (.object own_s1))) (by decide) (hb hby own_d3_23) rfl rfl rfl rfl fun T13 h13 X13 e13 W13 => ?_
    have K13 : Keep h0 h13 [b5001] := K10.wr W13 (Or.inl (List.mem_of_getElem? (i := 0) rfl))
    have Z13 := Nat.le_trans Z10 (Keep.of_wr W13).1
    have N13 := Fr.snoc X13 N10 g_b5001
    have F13 : Fld Z h13 b5001 own_s0 "values" own_s2 .null := f12.same W13
    show own_Go _ _ _ _ T13 (mkF m 26 #[.val (.ref b5001), .val (.int (8 : Int32))] [])
    refine own_st (fun t k => XS.aloadN X13.here hx rfl (hb hby own_d3_26) rfl rfl (XS.bipush X13.here hx rfl (hb hby own_d3_27) (XS.iloadN X13.here hx rfl (hb hby own_d3_29) rfl k))) ?_
    show own_Go _ _ _ _ T13 (mkF m 30 #[.val (.ref b5001), .val (.int (8 : Int32))] [(.int (8 : Int32)), (.int (64 : Int32)), (.ref b5001)])
    refine own_cS X13 hx hZ hown (own_w hw 27 rfl) (own_w hw 28 rfl) (own_w hw 29 rfl) (own_w hw 30 rfl) [(.int (8 : Int32))] [(.int (64 : Int32)), (.ref b5001)] (own_rm5_14 l Z a0 hw []  h13 n0 Z13 ) 2 (hb hby own_d3_30) (by rw [hml]; rfl) (lenOf own_pd1 rfl) e13 rfl rfl (by show 2 * 0 + _ ≤ _; exact Nat.le_of_eq rfl) (by decide) (by decide) (by decide) (by decide) (by decide) fun v14 T14 L14 X14 hQ14 => ?_
    obtain ⟨N14q, Kq14, hL14⟩ := hQ14
    have N14 := Fr.app N13 N14q
    have K14 : Keep h0 T14.heap [b5001] := K13.trans Kq14 all0
    have Z14 := Nat.le_trans Z13 Kq14.1
    rcases hL14 with ⟨rfl, -⟩
    · skip
      refine own_st (fun t k => XS.isub X14.here hx rfl (hb hby own_d3_33) rfl k) ?_
      have f15 := (P2.keep K14)
      have f16 := (((((((P7.keep Kq2 nin0).ext E3).other W6 (Or.inr (slot_ne (Or.inl (own_w hw 33 rfl)) (Or.inl (own_w hw 21 rfl)) (by decide) (t := .int) (t' := (.array .long)) (by decide) (by decide)))).ext E7).other W10 (Or.inr (slot_ne (Or.inl (own_w hw 33 rfl)) (Or.inl (own_w hw 24 rfl)) (by decide) (t := .int) (t' := (.array .boolean)) (by decide) (by decide)))).other W13 (Or.inr (slot_ne (Or.inl (own_w hw 33 rfl)) (Or.inl (own_w hw 26 rfl)) (by decide) (t := .int) (t' := (.array (.object own_s1))) (by decide) (by decide)))).keep Kq14 nin0)
      refine own_pF X14 hx hZ hown (own_w hw 32 rfl) Via.refl rfl f16 f15 (Or.inl (own_w hw 33 rfl)) (own_w hw 1 rfl) (ty := .int) (by decide) (hb hby own_d3_34) rfl rfl rfl rfl fun T17 h17 X17 e17 W17 => ?_
      have K17 : Keep h0 h17 [b5001] := K14.wr W17 (Or.inl (List.mem_of_getElem? (i := 0) rfl))
      have Z17 := Nat.le_trans Z14 (Keep.of_wr W17).1
      have N17 := Fr.snoc X17 N14 g_b5001
      have F17 : Fld Z h17 b5001 own_s0 "shift" "I" (.int (61 : Int32)) := f16.same W17
      show own_Go _ _ _ _ T17 (mkF m 37 #[.val (.ref b5001), .val (.int (8 : Int32))] [])
      have f18 := ((((((((P0.keep Kq2 nin0).ext E3).other W6 (Or.inr (slot_ne (Or.inr (own_w hw 10 rfl)) (Or.inl (own_w hw 21 rfl)) (by decide) (t := .int) (t' := (.array .long)) (by decide) (by decide)))).ext E7).other W10 (Or.inr (slot_ne (Or.inr (own_w hw 10 rfl)) (Or.inl (own_w hw 24 rfl)) (by decide) (t := .int) (t' := (.array .boolean)) (by decide) (by decide)))).other W13 (Or.inr (slot_ne (Or.inr (own_w hw 10 rfl)) (Or.inl (own_w hw 26 rfl)) (by decide) (t := .int) (t' := (.array (.object own_s1))) (by decide) (by decide)))).keep Kq14 nin0).other W17 (Or.inr (slot_ne (Or.inr (own_w hw 10 rfl)) (Or.inl (own_w hw 33 rfl)) (by decide) (t := .int) (t' := .int) (by decide) (by decide))))
      have f19 := (((((F6.ext E7).other W10 (Or.inr (slot_ne (Or.inl (own_w hw 21 rfl)) (Or.inl (own_w hw 24 rfl)) (by decide) (t := (.array .long)) (t' := (.array .boolean)) (by decide) (by decide)))).other W13 (Or.inr (slot_ne (Or.inl (own_w hw 21 rfl)) (Or.inl (own_w hw 26 rfl)) (by decide) (t := (.array .long)) (t' := (.array (.object own_s1))) (by decide) (by decide)))).keep Kq14 nin0).other W17 (Or.inr (slot_ne (Or.inl (own_w hw 21 rfl)) (Or.inl (own_w hw 33 rfl)) (by decide) (t := (.array .long)) (t' := .int) (by decide) (by decide))))
      have f20 := (((F10.other W13 (Or.inr (slot_ne (Or.inl (own_w hw 24 rfl)) (Or.inl (own_w hw 26 rfl)) (by decide) (t := (.array .boolean)) (t' := (.array (.object own_s1))) (by decide) (by decide)))).keep Kq14 nin0).other W17 (Or.inr (slot_ne (Or.inl (own_w hw 24 rfl)) (Or.inl (own_w hw 33 rfl)) (by decide) (t := (.array .boolean)) (t' := .int) (by decide) (by decide))))
      have f21 := ((F13.keep Kq14 nin0).other W17 (Or.inr (slot_ne (Or.inl (own_w hw 26 rfl)) (Or.inl (own_w hw 33 rfl)) (by decide) (t := (.array (.object own_s1))) (t' := .int) (by decide) (by decide))))
      have f22 := ((((((((P8.keep Kq2 nin0).ext E3).other W6 (Or.inr (slot_ne (Or.inl (own_w hw 50 rfl)) (Or.inl (own_w hw 21 rfl)) (by decide) (t := .int) (t' := (.array .long)) (by decide) (by decide)))).ext E7).other W10 (Or.inr (slot_ne (Or.inl (own_w hw 50 rfl)) (Or.inl (own_w hw 24 rfl)) (by decide) (t := .int) (t' := (.array .boolean)) (by decide) (by decide)))).other W13 (Or.inr (slot_ne (Or.inl (own_w hw 50 rfl)) (Or.inl (own_w hw 26 rfl)) (by decide) (t := .int) (t' := (.array (.object own_s1))) (by decide) (by decide)))).keep Kq14 nin0).other W17 (Or.inr (slot_ne (Or.inl (own_w hw 50 rfl)) (Or.inl (own_w hw 33 rfl)) (by decide) (t := .int) (t' := .int) (by decide) (by decide))))
      have ne23 : b5001 ≠ b3x3_12 := Nat.ne_of_lt (Nat.lt_of_lt_of_le P0.lt sz_b3x3_12)
      have f24 := ((((((V3.other W6 (Ne.symm ne23)).ext E7).other W10 (Ne.symm ne23)).other W13 (Ne.symm ne23)).keep Kq14 nin0).other W17 (Ne.symm ne23))
      have f25 := ((((((Ex3.wr W6).ext E7).wr W10).wr W13).keep Kq14).wr W17)
      have ne26 : b5001 ≠ b7x3_12 := Nat.ne_of_lt (Nat.lt_of_lt_of_le P0.lt sz_b7x3_12)
      have f27 := ((((V7.other W10 (Ne.symm ne26)).other W13 (Ne.symm ne26)).keep Kq14 nin0).other W17 (Ne.symm ne26))
      have f28 := ((((Ex7.wr W10).wr W13).keep Kq14).wr W17)
      exact own_retV X17 hx hlk hret (hb hby own_d3_37) (by decide) (by decide) e17 ⟨N17, K17, ⟨b3x3_12, b7x3_12, _, _, rfl, sz_b3x3_12, sz_b7x3_12, f18, f19, f20, f21, F17, f22, f24, f25, f27, f28, trivial⟩⟩
theorem own_pd2 : parseMethodDescriptor "(I)V" = some ⟨[.int], none⟩ := by decide +kernel
theorem own_d1_0 : decode prog_69_method_1_code 0 = .ok (.aload_n 0, 1) := by decide +kernel
theorem own_d1_1 : decode prog_69_method_1_code 1 = .ok (.invokespecial 1, 3) := by decide +kernel
theorem own_d1_4 : decode prog_69_method_1_code 4 = .ok (.aload_n 0, 1) := by decide +kernel
theorem own_d1_5 : decode prog_69_method_1_code 5 = .ok (.iconst 1, 1) := by decide +kernel
theorem own_d1_6 : decode prog_69_method_1_code 6 = .ok (.iload_n 1, 1) := by decide +kernel
theorem own_d1_7 : decode prog_69_method_1_code 7 = .ok (.iadd, 1) := by decide +kernel
theorem own_d1_8 : decode prog_69_method_1_code 8 = .ok (.putfield 7, 3) := by decide +kernel
theorem own_d1_11 : decode prog_69_method_1_code 11 = .ok (.aload_n 0, 1) := by decide +kernel
theorem own_d1_12 : decode prog_69_method_1_code 12 = .ok (.bipush 8, 2) := by decide +kernel
theorem own_d1_14 : decode prog_69_method_1_code 14 = .ok (.invokevirtual 13, 3) := by decide +kernel
theorem own_d1_17 : decode prog_69_method_1_code 17 = .ok (.return_, 1) := by decide +kernel
theorem own_ef1 (m : MethodId) (x0 : Addr) (x1 : Int32) : entryFrame m #[(.ref x0), (.int x1)] 2 = mkF m 0 #[.val (.ref x0), .val (.int x1)] [] := by first | (simp [entryFrame, mkF, argsToLocals, Value.category]; done) | rfl
def own_Q1_8 (Z : State) (b5001 : Addr) (fv0 : Int32) (h0 : Heap) (n0 : Nat) (v : Option Value) (h : Heap) (L : List Loc) : Prop := Fr n0 L ∧ Keep h0 h [b5001] ∧ ((∃ b3x3_12c9 : Addr, ∃ b7x3_12c9 : Addr, ∃ k3x3_12c9 : ClassId, ∃ k7x3_12c9 : ClassId, v = none ∧ h0.size ≤ b3x3_12c9 ∧ h0.size ≤ b7x3_12c9 ∧ Fld Z h b5001 own_s0 "width" "I" (.int ((1 : Int32) + fv0)) ∧ Fld Z h b5001 own_s0 "rows" "[J" (.ref b3x3_12c9) ∧ Fld Z h b5001 own_s0 "used" "[Z" (.ref b7x3_12c9) ∧ Fld Z h b5001 own_s0 "values" own_s2 .null ∧ Fld Z h b5001 own_s0 "shift" "I" (.int (61 : Int32)) ∧ Fld Z h b5001 own_s0 "size" "I" (.int (0 : Int32)) ∧ Arh Z h b3x3_12c9 k3x3_12c9 .long ((((8 : Int32).toInt64) * (((1 : Int32) + fv0).toInt64)).toInt32) [] [] (.long (0 : Int64)) ∧ Exa Z h b3x3_12c9 "[J" ∧ Arh Z h b7x3_12c9 k7x3_12c9 .boolean (8 : Int32) [] [] (.int (0 : Int32)) ∧ Exa Z h b7x3_12c9 "[Z" ∧ True))
set_option maxRecDepth 65536 in
set_option maxHeartbeats 40000000 in
theorem own_rm1_8 (l : Launch) (Z : State) (a0 : Array Value) (hw : ∀ d ∈ tables_1, d.before a0 Z = true) (ws : List Jvm.Cond) (b5001 : Addr) (fv0 : Int32) (h0 : Heap) (n0 : Nat) (Z0 : n0 ≤ h0.size) (P0 : Exa Z h0 b5001 own_s0) (P1 : Fld Z h0 b5001 own_s0 "width" "I" (.int (0 : Int32))) (g_b5001 : n0 ≤ b5001) (R_fv0 : fv0 = (0 : Int32) ∨ fv0 = (1 : Int32) ∨ fv0 = (2 : Int32) ∨ fv0 = (3 : Int32)) (P4 : Fld Z h0 b5001 own_s0 "rows" "[J" .null) (P5 : Fld Z h0 b5001 own_s0 "used" "[Z" .null) (P6 : Fld Z h0 b5001 own_s0 "values" own_s2 .null) (P7 : Fld Z h0 b5001 own_s0 "shift" "I" (.int (0 : Int32))) (P8 : Fld Z h0 b5001 own_s0 "size" "I" (.int (0 : Int32))) :
    MetFree l (⟨own_s0, "<init>", "(I)V"⟩ : MethodName) (head1 (Jvm.Cond.code (⟨own_s0, "<init>", "(I)V"⟩ : MethodName) prog_69_method_1_code 2 none :: ws) ({ frames := 2, cells := 2, slots := 40, locals := 29 } : Room)) (fun a U => a = #[(.ref b5001), (.int fv0)] ∧ Z.Warmed39 U.vm ∧ U.heap = h0) (fun _ _ _ _ _ => True) (fun _ U o U' => ∃ v L, o = .returned v ∧ own_Q1_8 Z b5001 fv0 h0 n0 v U'.heap L ∧ FrameEnd U o U' L ({ frames := 2, cells := 2, slots := 40, locals := 29 } : Room).cells ({ frames := 2, cells := 2, slots := 40, locals := 29 } : Room).slots) := by
  refine MetFree.of_bodySF (plainFor_of_name own_pn1) hisR ?_
  intro p e s m args below meth c s₁ Bd hml0 hP hK
  obtain ⟨rfl, hZ, hh⟩ := hP
  have hx := Bd.exec
  have hlk := Bd.notSynchronized
  have hret := Bd.returns
  have hby := Bd.bytes
  have hml : c.maxLocals = 2 := hml0
  have hown : s.vm.findClass own_s0 = some m.cls := findClass_of_methodNamed Bd.named
  have hnm := (name_of_methodNamed Bd.named Bd.method).1
  have X0 : Stand p l e ({ frames := 2, cells := 2, slots := 40, locals := 29 } : Room) s m #[(.ref b5001), (.int fv0)] below meth c s₁ [] 0 0 := Stand.of_body Bd
  have e0 : s₁.heap = h0 := by rw [← hh, Bd.state]; rfl
  have N0 := Fr.nil n0
  refine own_open (Q := own_Q1_8 Z b5001 fv0 h0 n0) (own_ef1 m b5001 fv0) ?_
  refine own_st (fun t k => XS.aloadN X0.here hx rfl (hb hby own_d1_0) rfl rfl k) ?_
  obtain ⟨T1, X1, e1, st1⟩ := initO X0 hx hZ hown (own_w hw 6 rfl) (own_w hw 7 rfl) (own_w hw 8 rfl) e0 (g := (mkF m 1 #[.val (.ref b5001), .val (.int fv0)] [(.ref b5001)])) rfl (by rw [hml]; rfl) rfl (hb hby own_d1_1) (by decide) (W := 0) (by show 2 * 0 + _ ≤ _; exact Nat.le_of_eq rfl) (by decide)
  refine own_st st1 ?_
  show own_Go _ _ _ _ T1 (mkF m 4 #[.val (.ref b5001), .val (.int fv0)] [])
  refine own_st (fun t k => XS.aloadN X1.here hx rfl (hb hby own_d1_4) rfl rfl (XS.iconst X1.here hx rfl (hb hby own_d1_5) (XS.iloadN X1.here hx rfl (hb hby own_d1_6) rfl k))) ?_
  show own_Go _ _ _ _ T1 (mkF m 7 #[.val (.ref b5001), .val (.int fv0)] [(.int fv0), (.int (1 : Int32)), (.ref b5001)])
  refine own_st (fun t k => XS.iadd X1.here hx rfl (hb hby own_d1_7) rfl k) ?_
  refine own_pF X1 hx hZ hown (own_w hw 9 rfl) Via.refl e1 P1 P0 (Or.inr ⟨(own_w hw 10 rfl), rfl, hnm⟩) (own_w hw 1 rfl) (ty := .int) (by decide) (hb hby own_d1_8) rfl rfl rfl rfl fun T2 h2 X2 e2 W2 => ?_
  have K2 : Keep h0 h2 [b5001] := (Keep.refl h0 [b5001]).wr W2 (Or.inl (List.mem_of_getElem? (i := 0) rfl))
  have Z2 := Nat.le_trans Z0 (Keep.of_wr W2).1
  have N2 := Fr.snoc X2 N0 g_b5001
  have F2 : Fld Z h2 b5001 own_s0 "width" "I" (.int ((1 : Int32) + fv0)) := P1.same W2
  refine own_st (fun t k => XS.aloadN X2.here hx rfl (hb hby own_d1_11) rfl rfl k) ?_
  show own_Go _ _ _ _ T2 (mkF m 12 #[.val (.ref b5001), .val (.int fv0)] [(.ref b5001)])
  refine own_st (fun t k => XS.bipush X2.here hx rfl (hb hby own_d1_12) k) ?_
  have f3 := (P0.wr W2)
  have f4 := (P4.other W2 (Or.inr (slot_ne (Or.inl (own_w hw 21 rfl)) (Or.inr (own_w hw 10 rfl)) (by decide) (t := (.array .long)) (t' := .int) (by decide) (by decide))))
  have f5 := (P5.other W2 (Or.inr (slot_ne (Or.inl (own_w hw 24 rfl)) (Or.inr (own_w hw 10 rfl)) (by decide) (t := (.array .boolean)) (t' := .int) (by decide) (by decide))))
  have f6 := (P6.other W2 (Or.inr (slot_ne (Or.inl (own_w hw 26 rfl)) (Or.inr (own_w hw 10 rfl)) (by decide) (t := (.array (.object own_s1))) (t' := .int) (by decide) (by decide))))
  have f7 := (P7.other W2 (Or.inr (slot_ne (Or.inl (own_w hw 33 rfl)) (Or.inr (own_w hw 10 rfl)) (by decide) (t := .int) (t' := .int) (by decide) (by decide))))
  have f8 := (P8.other W2 (Or.inr (slot_ne (Or.inl (own_w hw 50 rfl)) (Or.inr (own_w hw 10 rfl)) (by decide) (t := .int) (t' := .int) (by decide) (by decide))))
  refine own_cP (a := b5001) X2 hx hZ hown (own_w hw 11 rfl) (own_w hw 13 rfl) (own_w hw 1 rfl) (own_w hw 12 rfl) (own_w hw 2 rfl) (own_w hw 14 rfl) [(.int (8 : Int32))] [] f3 (own_rm3_12 l Z a0 hw [] b5001 fv0 h2 n0 Z2 F2 R_fv0 f3 f4 g_b5001 f5 f6 f7 f8) 0 (hb hby own_d1_14) (by rw [hml]; rfl) (lenOf own_pd2 rfl) e2 rfl rfl (by show 2 * 0 + _ ≤ _; exact Nat.le_of_eq rfl) (by decide) (by decide) (by decide) (by decide) (by decide) fun v9 T9 L9 X9 hQ9 => ?_
  obtain ⟨N9q, Kq9, hL9⟩ := hQ9
  have N9 := Fr.app N2 N9q
  have K9 : Keep h0 T9.heap [b5001] := K2.trans Kq9 (allS (Or.inl (List.mem_of_getElem? (i := 0) rfl)) all0)
  have Z9 := Nat.le_trans Z2 Kq9.1
  rcases hL9 with ⟨b3x3_12c9, b7x3_12c9, k3x3_12c9, k7x3_12c9, rfl, sq_b3x3_12c9, sq_b7x3_12c9, Fc9_0_0, Fc9_0_1, Fc9_0_2, Fc9_0_3, Fc9_0_4, Fc9_0_5, Fc9_0_6, Fc9_0_7, Fc9_0_8, Fc9_0_9, -⟩
  · skip
    have g_b3x3_12c9 : n0 ≤ b3x3_12c9 := Nat.le_trans Z2 sq_b3x3_12c9
    have sz_b3x3_12c9 : h0.size ≤ b3x3_12c9 := Nat.le_trans K2.1 sq_b3x3_12c9
    have g_b7x3_12c9 : n0 ≤ b7x3_12c9 := Nat.le_trans Z2 sq_b7x3_12c9
    have sz_b7x3_12c9 : h0.size ≤ b7x3_12c9 := Nat.le_trans K2.1 sq_b7x3_12c9
    exact own_retV X9 hx hlk hret (hb hby own_d1_17) (by decide) (by decide) rfl ⟨N9, K9, ⟨b3x3_12c9, b7x3_12c9, _, _, rfl, sz_b3x3_12c9, sz_b7x3_12c9, Fc9_0_0, Fc9_0_1, Fc9_0_2, Fc9_0_3, Fc9_0_4, Fc9_0_5, Fc9_0_6, Fc9_0_7, Fc9_0_8, Fc9_0_9, trivial⟩⟩
theorem own_d8_0 : decode prog_69_method_14_code 0 = .ok (.lload_n 1, 1) := by decide +kernel
theorem own_d8_1 : decode prog_69_method_14_code 1 = .ok (.ldc2_w 82, 3) := by decide +kernel
theorem own_d8_4 : decode prog_69_method_14_code 4 = .ok (.lmul, 1) := by decide +kernel
theorem own_d8_5 : decode prog_69_method_14_code 5 = .ok (.aload_n 0, 1) := by decide +kernel
theorem own_d8_6 : decode prog_69_method_14_code 6 = .ok (.getfield 84, 3) := by decide +kernel
theorem own_d8_9 : decode prog_69_method_14_code 9 = .ok (.lushr, 1) := by decide +kernel
theorem own_d8_10 : decode prog_69_method_14_code 10 = .ok (.l2i, 1) := by decide +kernel
theorem own_d8_11 : decode prog_69_method_14_code 11 = .ok (.ireturn, 1) := by decide +kernel
theorem own_ef8 (m : MethodId) (x0 : Addr) (x1 : Int64) : entryFrame m #[(.ref x0), (.long x1)] 3 = mkF m 0 #[.val (.ref x0), .val (.long x1), .second] [] := by first | (simp [entryFrame, mkF, argsToLocals, Value.category]; done) | rfl
def own_Q8 (rp0 : Addr) (jp1 : Int64) (u_shift_rp0 : Int32) (h0 : Heap) (n0 : Nat) (v : Option Value) (h : Heap) (L : List Loc) : Prop := Fr n0 L ∧ h = h0 ∧ ((v = some (.int ((((jp1 * (-7046029254386353131 : Int64)).toUInt64 >>> (u_shift_rp0 &&& 0x3f).toInt64.toUInt64).toInt64).toInt32)) ∧ True))
set_option maxRecDepth 65536 in
set_option maxHeartbeats 40000000 in
theorem own_rm8 (l : Launch) (Z : State) (a0 : Array Value) (hw : ∀ d ∈ tables_1, d.before a0 Z = true) (ws : List Jvm.Cond) (rp0 : Addr) (jp1 : Int64) (u_shift_rp0 : Int32) (h0 : Heap) (n0 : Nat) (Z0 : n0 ≤ h0.size) (F_shift_rp0 : Fld Z h0 rp0 own_s0 "shift" "I" (.int u_shift_rp0)) :
    MetFree l (⟨own_s0, "home", "(J)I"⟩ : MethodName) (head1 (Jvm.Cond.code (⟨own_s0, "home", "(J)I"⟩ : MethodName) prog_69_method_14_code 3 (some .int) :: ws) ({ frames := 0, cells := 0, slots := 0, locals := 0 } : Room)) (fun a U => a = #[(.ref rp0), (.long jp1)] ∧ Z.Warmed39 U.vm ∧ U.heap = h0) (fun _ _ _ _ _ => True) (fun _ U o U' => ∃ v L, o = .returned v ∧ own_Q8 rp0 jp1 u_shift_rp0 h0 n0 v U'.heap L ∧ FrameEnd U o U' L ({ frames := 0, cells := 0, slots := 0, locals := 0 } : Room).cells ({ frames := 0, cells := 0, slots := 0, locals := 0 } : Room).slots) := by
  refine MetFree.of_bodySF (plainFor_of_name own_pn1) hisR ?_
  intro p e s m args below meth c s₁ Bd hml0 hP hK
  obtain ⟨rfl, hZ, hh⟩ := hP
  have hx := Bd.exec
  have hlk := Bd.notSynchronized
  have hret := Bd.returns
  have hby := Bd.bytes
  have hml : c.maxLocals = 3 := hml0
  have hown : s.vm.findClass own_s0 = some m.cls := findClass_of_methodNamed Bd.named
  have hnm := (name_of_methodNamed Bd.named Bd.method).1
  have X0 : Stand p l e ({ frames := 0, cells := 0, slots := 0, locals := 0 } : Room) s m #[(.ref rp0), (.long jp1)] below meth c s₁ [] 0 0 := Stand.of_body Bd
  have e0 : s₁.heap = h0 := by rw [← hh, Bd.state]; rfl
  have N0 := Fr.nil n0
  refine own_open (Q := own_Q8 rp0 jp1 u_shift_rp0 h0 n0) (own_ef8 m rp0 jp1) ?_
  refine own_st (fun t k => XS.lloadN X0.here hx rfl (hb hby own_d8_0) rfl k) ?_
  refine own_st (X0.ldc2Long hx hown (mvT hZ (own_w hw 48 rfl)) (g := (mkF m 1 #[.val (.ref rp0), .val (.long jp1), .second] [(.long jp1)])) rfl (hb hby own_d8_1)) ?_
  show own_Go _ _ _ _ s₁ (mkF m 4 #[.val (.ref rp0), .val (.long jp1), .second] [(.long (-7046029254386353131 : Int64)), (.long jp1)])
  refine own_st (fun t k => XS.lmul X0.here hx rfl (hb hby own_d8_4) rfl (XS.aloadN X0.here hx rfl (hb hby own_d8_5) rfl rfl k)) ?_
  refine own_gF X0 hx hZ hown (own_w hw 32 rfl) Via.refl e0 F_shift_rp0 (hb hby own_d8_6) rfl rfl fun T1 X1 e1 => ?_
  show own_Go _ _ _ _ T1 (mkF m 9 #[.val (.ref rp0), .val (.long jp1), .second] [(.int u_shift_rp0), (.long (jp1 * (-7046029254386353131 : Int64)))])
  refine own_st (fun t k => XS.lushr X1.here hx rfl (hb hby own_d8_9) rfl (XS.l2i X1.here hx rfl (hb hby own_d8_10) rfl k)) ?_
  exact own_retI X1 hx hlk hret (hb hby own_d8_11) (by decide) (by decide) e1 ⟨N0, rfl, ⟨rfl, trivial⟩⟩
theorem own_pd3 : parseMethodDescriptor "(J)I" = some ⟨[.long], some .int⟩ := by decide +kernel
theorem own_d7_0 : decode prog_69_method_4_code 0 = .ok (.aload_n 0, 1) := by decide +kernel
theorem own_d7_1 : decode prog_69_method_4_code 1 = .ok (.getfield 20, 3) := by decide +kernel
theorem own_d7_4 : decode prog_69_method_4_code 4 = .ok (.arraylength, 1) := by decide +kernel
theorem own_d7_5 : decode prog_69_method_4_code 5 = .ok (.iconst 1, 1) := by decide +kernel
theorem own_d7_6 : decode prog_69_method_4_code 6 = .ok (.isub, 1) := by decide +kernel
theorem own_d7_7 : decode prog_69_method_4_code 7 = .ok (.istore_n 3, 1) := by decide +kernel
theorem own_d7_8 : decode prog_69_method_4_code 8 = .ok (.aload_n 0, 1) := by decide +kernel
theorem own_d7_9 : decode prog_69_method_4_code 9 = .ok (.lload_n 1, 1) := by decide +kernel
theorem own_d7_10 : decode prog_69_method_4_code 10 = .ok (.invokevirtual 24, 3) := by decide +kernel
theorem own_d7_13 : decode prog_69_method_4_code 13 = .ok (.istore 4, 2) := by decide +kernel
theorem own_d7_15 : decode prog_69_method_4_code 15 = .ok (.aload_n 0, 1) := by decide +kernel
theorem own_d7_16 : decode prog_69_method_4_code 16 = .ok (.getfield 20, 3) := by decide +kernel
theorem own_d7_19 : decode prog_69_method_4_code 19 = .ok (.iload 4, 2) := by decide +kernel
theorem own_d7_21 : decode prog_69_method_4_code 21 = .ok (.baload, 1) := by decide +kernel
theorem own_d7_22 : decode prog_69_method_4_code 22 = .ok (.ifCond .eq 34, 3) := by decide +kernel
theorem own_d7_56 : decode prog_69_method_4_code 56 = .ok (.iconst (-1), 1) := by decide +kernel
theorem own_d7_57 : decode prog_69_method_4_code 57 = .ok (.ireturn, 1) := by decide +kernel
theorem own_ef7 (m : MethodId) (x0 : Addr) (x1 : Int64) : entryFrame m #[(.ref x0), (.long x1)] 5 = mkF m 0 #[.val (.ref x0), .val (.long x1), .second, .unset, .unset] [] := by first | (simp [entryFrame, mkF, argsToLocals, Value.category]; done) | rfl
def own_Q7_23 (Z : State) (b5001 : Addr) (jp1x7_23 : Int64) (b7x3_12c9c5002 : Addr) (k7x3_12c9c5002 : ClassId) (h0 : Heap) (n0 : Nat) (v : Option Value) (h : Heap) (L : List Loc) : Prop := Fr n0 L ∧ Keep h0 h [] ∧ ((v = some (.int (-1 : Int32)) ∧ True))
set_option maxRecDepth 65536 in
set_option maxHeartbeats 40000000 in
theorem own_rm7_23 (l : Launch) (Z : State) (a0 : Array Value) (hw : ∀ d ∈ tables_1, d.before a0 Z = true) (ws : List Jvm.Cond) (b5001 : Addr) (jp1x7_23 : Int64) (b7x3_12c9c5002 : Addr) (k7x3_12c9c5002 : ClassId) (h0 : Heap) (n0 : Nat) (Z0 : n0 ≤ h0.size) (P0 : Fld Z h0 b5001 own_s0 "used" "[Z" (.ref b7x3_12c9c5002)) (P1 : Arh Z h0 b7x3_12c9c5002 k7x3_12c9c5002 .boolean (8 : Int32) [] [] (.int (0 : Int32))) (P2 : Fld Z h0 b5001 own_s0 "shift" "I" (.int (61 : Int32))) (P3 : Exa Z h0 b5001 own_s0) :
    MetFree l own_y4 (head1 (Jvm.Cond.code own_y4 prog_69_method_4_code 5 (some .int) :: ws) ({ frames := 1, cells := 0, slots := 0, locals := 14 } : Room)) (fun a U => a = #[(.ref b5001), (.long jp1x7_23)] ∧ Z.Warmed39 U.vm ∧ U.heap = h0) (fun _ _ _ _ _ => True) (fun _ U o U' => ∃ v L, o = .returned v ∧ own_Q7_23 Z b5001 jp1x7_23 b7x3_12c9c5002 k7x3_12c9c5002 h0 n0 v U'.heap L ∧ FrameEnd U o U' L ({ frames := 1, cells := 0, slots := 0, locals := 14 } : Room).cells ({ frames := 1, cells := 0, slots := 0, locals := 14 } : Room).slots) := by
  refine MetFree.of_bodySF (plainFor_of_name own_pn1) hisR ?_
  intro p e s m args below meth c s₁ Bd hml0 hP hK
  obtain ⟨rfl, hZ, hh⟩ := hP
  have hx := Bd.exec
  have hlk := Bd.notSynchronized
  have hret := Bd.returns
  have hby := Bd.bytes
  have hml : c.maxLocals = 5 := hml0
  have hown : s.vm.findClass own_s0 = some m.cls := findClass_of_methodNamed Bd.named
  have hnm := (name_of_methodNamed Bd.named Bd.method).1
  have X0 : Stand p l e ({ frames := 1, cells := 0, slots := 0, locals := 14 } : Room) s m #[(.ref b5001), (.long jp1x7_23)] below meth c s₁ [] 0 0 := Stand.of_body Bd
  have e0 : s₁.heap = h0 := by rw [← hh, Bd.state]; rfl
  have N0 := Fr.nil n0
  refine own_open (Q := own_Q7_23 Z b5001 jp1x7_23 b7x3_12c9c5002 k7x3_12c9c5002 h0 n0) (own_ef7 m b5001 jp1x7_23) ?_
  refine own_st (fun t k => XS.aloadN X0.here hx rfl (hb hby own_d7_0) rfl rfl k) ?_
  refine own_gF X0 hx hZ hown (own_w hw 23 rfl) Via.refl e0 P0 (hb hby own_d7_1) rfl rfl fun T1 X1 e1 => ?_
  show own_Go _ _ _ _ T1 (mkF m 4 #[.val (.ref b5001), .val (.long jp1x7_23), .second, .unset, .unset] [(.ref b7x3_12c9c5002)])
  refine own_st (own_alenH X1 hx hZ e1 P1 (g := (mkF m 4 #[.val (.ref b5001), .val (.long jp1x7_23), .second, .unset, .unset] [(.ref b7x3_12c9c5002)])) rfl rfl (hb hby own_d7_4)) ?_
  refine own_st (fun t k => XS.iconst X1.here hx rfl (hb hby own_d7_5) (XS.isub X1.here hx rfl (hb hby own_d7_6) rfl k)) ?_
  show own_Go _ _ _ _ T1 (mkF m 7 #[.val (.ref b5001), .val (.long jp1x7_23), .second, .unset, .unset] [(.int ((8 : Int32) - (1 : Int32)))])
  refine own_st (fun t k => XS.istoreN X1.here hx rfl (hb hby own_d7_7) rfl (l' := #[.val (.ref b5001), .val (.long jp1x7_23), .second, .val (.int ((8 : Int32) - (1 : Int32))), .unset]) rfl (XS.aloadN X1.here hx rfl (hb hby own_d7_8) rfl rfl (XS.lloadN X1.here hx rfl (hb hby own_d7_9) rfl k))) ?_
  show own_Go _ _ _ _ T1 (mkF m 10 #[.val (.ref b5001), .val (.long jp1x7_23), .second, .val (.int ((8 : Int32) - (1 : Int32))), .unset] [(.long jp1x7_23), (.ref b5001)])
  refine own_cP (a := b5001) X1 hx hZ hown (own_w hw 44 rfl) (own_w hw 46 rfl) (own_w hw 1 rfl) (own_w hw 45 rfl) (own_w hw 2 rfl) (own_w hw 47 rfl) [(.long jp1x7_23)] [] P3 (own_rm8 l Z a0 hw [] b5001 jp1x7_23 (61 : Int32) h0 n0 Z0 P2) 0 (hb hby own_d7_10) (by rw [hml]; rfl) (lenOf own_pd3 rfl) e1 rfl rfl (by show 2 * 0 + _ ≤ _; exact Nat.le_of_eq rfl) (by decide) (by decide) (by decide) (by decide) (by decide) fun v2 T2 L2 X2 hQ2 => ?_
  obtain ⟨N2q, e2, hL2⟩ := hQ2
  have N2 := Fr.app N0 N2q
  rcases hL2 with ⟨rfl, -⟩
  · skip
    refine own_st (fun t k => XS.istore X2.here hx rfl (hb hby own_d7_13) rfl (l' := #[.val (.ref b5001), .val (.long jp1x7_23), .second, .val (.int ((8 : Int32) - (1 : Int32))), .val (.int (own_home jp1x7_23))]) rfl (XS.aloadN X2.here hx rfl (hb hby own_d7_15) rfl rfl k)) ?_
    show own_Go _ _ _ _ T2 (mkF m 16 #[.val (.ref b5001), .val (.long jp1x7_23), .second, .val (.int ((8 : Int32) - (1 : Int32))), .val (.int (own_home jp1x7_23))] [(.ref b5001)])
    refine own_gF X2 hx hZ hown (own_w hw 23 rfl) Via.refl e2 P0 (hb hby own_d7_16) rfl rfl fun T3 X3 e3 => ?_
    refine own_st (fun t k => XS.iload X3.here hx rfl (hb hby own_d7_19) rfl k) ?_
    have i4 : ¬ (own_home jp1x7_23) < 0 ∧ (own_home jp1x7_23) < (8 : Int32) := ((by decide +kernel : ∀ x ∈ own_D8, (¬ x < 0 ∧ x < (8 : Int32))) _ (own_m8 (own_home_r jp1x7_23)) )
    refine own_st (own_baloadZH X3 hx hZ e3 P1 i4 (v := (.int (0 : Int32))) (getH_all rfl _) (g := (mkF m 21 #[.val (.ref b5001), .val (.long jp1x7_23), .second, .val (.int ((8 : Int32) - (1 : Int32))), .val (.int (own_home jp1x7_23))] [(.int (own_home jp1x7_23)), (.ref b7x3_12c9c5002)])) rfl rfl (hb hby own_d7_21)) ?_
    show own_Go _ _ _ _ T3 (mkF m 22 #[.val (.ref b5001), .val (.long jp1x7_23), .second, .val (.int ((8 : Int32) - (1 : Int32))), .val (.int (own_home jp1x7_23))] [(.int (0 : Int32))])
    refine own_st (fun t k => XS.ifYes X3.here hx rfl (pc0 := 22) (pc' := 56) rfl (hb hby own_d7_22) rfl ((if0 _ _).trans (teq (by decide : (0 : Int32) = (0 : Int32))).1) (by decide) (by decide) (XS.iconst X3.here hx rfl (hb hby own_d7_56) k)) ?_
    exact own_retI X3 hx hlk hret (hb hby own_d7_57) (by decide) (by decide) e3 ⟨N2, (Keep.refl h0 []), ⟨rfl, trivial⟩⟩
theorem own_d9_0 : decode prog_69_method_15_code 0 = .ok (.aload_n 0, 1) := by decide +kernel
theorem own_d9_1 : decode prog_69_method_15_code 1 = .ok (.getfield 20, 3) := by decide +kernel
theorem own_d9_4 : decode prog_69_method_15_code 4 = .ok (.arraylength, 1) := by decide +kernel
theorem own_d9_5 : decode prog_69_method_15_code 5 = .ok (.iconst 1, 1) := by decide +kernel
theorem own_d9_6 : decode prog_69_method_15_code 6 = .ok (.isub, 1) := by decide +kernel
theorem own_d9_7 : decode prog_69_method_15_code 7 = .ok (.istore_n 3, 1) := by decide +kernel
theorem own_d9_8 : decode prog_69_method_15_code 8 = .ok (.aload_n 0, 1) := by decide +kernel
theorem own_d9_9 : decode prog_69_method_15_code 9 = .ok (.lload_n 1, 1) := by decide +kernel
theorem own_d9_10 : decode prog_69_method_15_code 10 = .ok (.invokevirtual 24, 3) := by decide +kernel
theorem own_d9_13 : decode prog_69_method_15_code 13 = .ok (.istore 4, 2) := by decide +kernel
theorem own_d9_15 : decode prog_69_method_15_code 15 = .ok (.aload_n 0, 1) := by decide +kernel
theorem own_d9_16 : decode prog_69_method_15_code 16 = .ok (.getfield 20, 3) := by decide +kernel
theorem own_d9_19 : decode prog_69_method_15_code 19 = .ok (.iload 4, 2) := by decide +kernel
theorem own_d9_21 : decode prog_69_method_15_code 21 = .ok (.baload, 1) := by decide +kernel
theorem own_d9_22 : decode prog_69_method_15_code 22 = .ok (.ifCond .eq 14, 3) := by decide +kernel
theorem own_d9_36 : decode prog_69_method_15_code 36 = .ok (.iload 4, 2) := by decide +kernel
theorem own_d9_38 : decode prog_69_method_15_code 38 = .ok (.ireturn, 1) := by decide +kernel
theorem own_ef9 (m : MethodId) (x0 : Addr) (x1 : Int64) : entryFrame m #[(.ref x0), (.long x1)] 5 = mkF m 0 #[.val (.ref x0), .val (.long x1), .second, .unset, .unset] [] := by first | (simp [entryFrame, mkF, argsToLocals, Value.category]; done) | rfl
def own_Q9_24 (Z : State) (b5001 : Addr) (jp1x9_24 : Int64) (b7x3_12c9c5002 : Addr) (k7x3_12c9c5002 : ClassId) (h0 : Heap) (n0 : Nat) (v : Option Value) (h : Heap) (L : List Loc) : Prop := Fr n0 L ∧ Keep h0 h [] ∧ ((v = some (.int (own_home jp1x9_24)) ∧ True))
set_option maxRecDepth 65536 in
set_option maxHeartbeats 40000000 in
theorem own_rm9_24 (l : Launch) (Z : State) (a0 : Array Value) (hw : ∀ d ∈ tables_1, d.before a0 Z = true) (ws : List Jvm.Cond) (b5001 : Addr) (jp1x9_24 : Int64) (b7x3_12c9c5002 : Addr) (k7x3_12c9c5002 : ClassId) (h0 : Heap) (n0 : Nat) (Z0 : n0 ≤ h0.size) (P0 : Fld Z h0 b5001 own_s0 "used" "[Z" (.ref b7x3_12c9c5002)) (P1 : Arh Z h0 b7x3_12c9c5002 k7x3_12c9c5002 .boolean (8 : Int32) [] [] (.int (0 : Int32))) (P2 : Fld Z h0 b5001 own_s0 "shift" "I" (.int (61 : Int32))) (P3 : Exa Z h0 b5001 own_s0) :
    MetFree l own_y3 (head1 (Jvm.Cond.code own_y3 prog_69_method_15_code 5 (some .int) :: ws) ({ frames := 1, cells := 0, slots := 0, locals := 14 } : Room)) (fun a U => a = #[(.ref b5001), (.long jp1x9_24)] ∧ Z.Warmed39 U.vm ∧ U.heap = h0) (fun _ _ _ _ _ => True) (fun _ U o U' => ∃ v L, o = .returned v ∧ own_Q9_24 Z b5001 jp1x9_24 b7x3_12c9c5002 k7x3_12c9c5002 h0 n0 v U'.heap L ∧ FrameEnd U o U' L ({ frames := 1, cells := 0, slots := 0, locals := 14 } : Room).cells ({ frames := 1, cells := 0, slots := 0, locals := 14 } : Room).slots) := by
  refine MetFree.of_bodySF (plainFor_of_name own_pn1) hisR ?_
  intro p e s m args below meth c s₁ Bd hml0 hP hK
  obtain ⟨rfl, hZ, hh⟩ := hP
  have hx := Bd.exec
  have hlk := Bd.notSynchronized
  have hret := Bd.returns
  have hby := Bd.bytes
  have hml : c.maxLocals = 5 := hml0
  have hown : s.vm.findClass own_s0 = some m.cls := findClass_of_methodNamed Bd.named
  have hnm := (name_of_methodNamed Bd.named Bd.method).1
  have X0 : Stand p l e ({ frames := 1, cells := 0, slots := 0, locals := 14 } : Room) s m #[(.ref b5001), (.long jp1x9_24)] below meth c s₁ [] 0 0 := Stand.of_body Bd
  have e0 : s₁.heap = h0 := by rw [← hh, Bd.state]; rfl
  have N0 := Fr.nil n0
  refine own_open (Q := own_Q9_24 Z b5001 jp1x9_24 b7x3_12c9c5002 k7x3_12c9c5002 h0 n0) (own_ef9 m b5001 jp1x9_24) ?_
  refine own_st (fun t k => XS.aloadN X0.here hx rfl (hb hby own_d9_0) rfl rfl k) ?_
  refine own_gF X0 hx hZ hown (own_w hw 23 rfl) Via.refl e0 P0 (hb hby own_d9_1) rfl rfl fun T1 X1 e1 => ?_
  show own_Go _ _ _ _ T1 (mkF m 4 #[.val (.ref b5001), .val (.long jp1x9_24), .second, .unset, .unset] [(.ref b7x3_12c9c5002)])
  refine own_st (own_alenH X1 hx hZ e1 P1 (g := (mkF m 4 #[.val (.ref b5001), .val (.long jp1x9_24), .second, .unset, .unset] [(.ref b7x3_12c9c5002)])) rfl rfl (hb hby own_d9_4)) ?_
  refine own_st (fun t k => XS.iconst X1.here hx rfl (hb hby own_d9_5) (XS.isub X1.here hx rfl (hb hby own_d9_6) rfl k)) ?_
  show own_Go _ _ _ _ T1 (mkF m 7 #[.val (.ref b5001), .val (.long jp1x9_24), .second, .unset, .unset] [(.int ((8 : Int32) - (1 : Int32)))])
  refine own_st (fun t k => XS.istoreN X1.here hx rfl (hb hby own_d9_7) rfl (l' := #[.val (.ref b5001), .val (.long jp1x9_24), .second, .val (.int ((8 : Int32) - (1 : Int32))), .unset]) rfl (XS.aloadN X1.here hx rfl (hb hby own_d9_8) rfl rfl (XS.lloadN X1.here hx rfl (hb hby own_d9_9) rfl k))) ?_
  show own_Go _ _ _ _ T1 (mkF m 10 #[.val (.ref b5001), .val (.long jp1x9_24), .second, .val (.int ((8 : Int32) - (1 : Int32))), .unset] [(.long jp1x9_24), (.ref b5001)])
  refine own_cP (a := b5001) X1 hx hZ hown (own_w hw 44 rfl) (own_w hw 46 rfl) (own_w hw 1 rfl) (own_w hw 45 rfl) (own_w hw 2 rfl) (own_w hw 47 rfl) [(.long jp1x9_24)] [] P3 (own_rm8 l Z a0 hw [] b5001 jp1x9_24 (61 : Int32) h0 n0 Z0 P2) 0 (hb hby own_d9_10) (by rw [hml]; rfl) (lenOf own_pd3 rfl) e1 rfl rfl (by show 2 * 0 + _ ≤ _; exact Nat.le_of_eq rfl) (by decide) (by decide) (by decide) (by decide) (by decide) fun v2 T2 L2 X2 hQ2 => ?_
  obtain ⟨N2q, e2, hL2⟩ := hQ2
  have N2 := Fr.app N0 N2q
  rcases hL2 with ⟨rfl, -⟩
  · skip
    refine own_st (fun t k => XS.istore X2.here hx rfl (hb hby own_d9_13) rfl (l' := #[.val (.ref b5001), .val (.long jp1x9_24), .second, .val (.int ((8 : Int32) - (1 : Int32))), .val (.int (own_home jp1x9_24))]) rfl (XS.aloadN X2.here hx rfl (hb hby own_d9_15) rfl rfl k)) ?_
    show own_Go _ _ _ _ T2 (mkF m 16 #[.val (.ref b5001), .val (.long jp1x9_24), .second, .val (.int ((8 : Int32) - (1 : Int32))), .val (.int (own_home jp1x9_24))] [(.ref b5001)])
    refine own_gF X2 hx hZ hown (own_w hw 23 rfl) Via.refl e2 P0 (hb hby own_d9_16) rfl rfl fun T3 X3 e3 => ?_
    refine own_st (fun t k => XS.iload X3.here hx rfl (hb hby own_d9_19) rfl k) ?_
    have i4 : ¬ (own_home jp1x9_24) < 0 ∧ (own_home jp1x9_24) < (8 : Int32) := ((by decide +kernel : ∀ x ∈ own_D8, (¬ x < 0 ∧ x < (8 : Int32))) _ (own_m8 (own_home_r jp1x9_24)) )
    refine own_st (own_baloadZH X3 hx hZ e3 P1 i4 (v := (.int (0 : Int32))) (getH_all rfl _) (g := (mkF m 21 #[.val (.ref b5001), .val (.long jp1x9_24), .second, .val (.int ((8 : Int32) - (1 : Int32))), .val (.int (own_home jp1x9_24))] [(.int (own_home jp1x9_24)), (.ref b7x3_12c9c5002)])) rfl rfl (hb hby own_d9_21)) ?_
    show own_Go _ _ _ _ T3 (mkF m 22 #[.val (.ref b5001), .val (.long jp1x9_24), .second, .val (.int ((8 : Int32) - (1 : Int32))), .val (.int (own_home jp1x9_24))] [(.int (0 : Int32))])
    refine own_st (fun t k => XS.ifYes X3.here hx rfl (pc0 := 22) (pc' := 36) rfl (hb hby own_d9_22) rfl ((if0 _ _).trans (teq (by decide : (0 : Int32) = (0 : Int32))).1) (by decide) (by decide) (XS.iload X3.here hx rfl (hb hby own_d9_36) rfl k)) ?_
    exact own_retI X3 hx hlk hret (hb hby own_d9_38) (by decide) (by decide) e3 ⟨N2, (Keep.refl h0 []), ⟨rfl, trivial⟩⟩
theorem own_d11_0 : decode jdk_65_method_30_code 0 = .ok (.iload_n 1, 1) := by decide +kernel
theorem own_d11_1 : decode jdk_65_method_30_code 1 = .ok (.iload_n 2, 1) := by decide +kernel
theorem own_d11_2 : decode jdk_65_method_30_code 2 = .ok (.if_icmp .le 44, 3) := by decide +kernel
theorem own_d11_46 : decode jdk_65_method_30_code 46 = .ok (.iload_n 1, 1) := by decide +kernel
theorem own_d11_47 : decode jdk_65_method_30_code 47 = .ok (.ifCond .ge 12, 3) := by decide +kernel
theorem own_d11_59 : decode jdk_65_method_30_code 59 = .ok (.iload_n 2, 1) := by decide +kernel
theorem own_d11_60 : decode jdk_65_method_30_code 60 = .ok (.iload_n 0, 1) := by decide +kernel
theorem own_d11_61 : decode jdk_65_method_30_code 61 = .ok (.if_icmp .le 12, 3) := by decide +kernel
theorem own_d11_73 : decode jdk_65_method_30_code 73 = .ok (.return_, 1) := by decide +kernel
theorem own_ef11 (m : MethodId) (x0 : Int32) (x1 : Int32) (x2 : Int32) : entryFrame m #[(.int x0), (.int x1), (.int x2)] 3 = mkF m 0 #[.val (.int x0), .val (.int x1), .val (.int x2)] [] := by first | (simp [entryFrame, mkF, argsToLocals, Value.category]; done) | rfl
theorem own_pn2 : plainName "java/util/Arrays" = true := by first | (simp [plainName, overriddenIn]; done) | decide +kernel
def own_Q11_28 (Z : State) (fv0 : Int32) (sv11_28 : Int32) (h0 : Heap) (n0 : Nat) (v : Option Value) (h : Heap) (L : List Loc) : Prop := Fr n0 L ∧ Keep h0 h [] ∧ ((v = none ∧ True))
set_option maxRecDepth 65536 in
set_option maxHeartbeats 40000000 in
theorem own_rm11_28 (l : Launch) (Z : State) (a0 : Array Value) (hw : ∀ d ∈ tables_1, d.before a0 Z = true) (ws : List Jvm.Cond) (fv0 : Int32) (sv11_28 : Int32) (h0 : Heap) (n0 : Nat) (Z0 : n0 ≤ h0.size) (R_sv11_28 : sv11_28 = (0 : Int32) ∨ sv11_28 = (1 : Int32) ∨ sv11_28 = (2 : Int32) ∨ sv11_28 = (3 : Int32) ∨ sv11_28 = (4 : Int32) ∨ sv11_28 = (5 : Int32) ∨ sv11_28 = (6 : Int32) ∨ sv11_28 = (7 : Int32)) (R_fv0 : fv0 = (0 : Int32) ∨ fv0 = (1 : Int32) ∨ fv0 = (2 : Int32) ∨ fv0 = (3 : Int32)) :
    MetFree l (⟨"java/util/Arrays", "rangeCheck", "(III)V"⟩ : MethodName) (head1 (Jvm.Cond.code (⟨"java/util/Arrays", "rangeCheck", "(III)V"⟩ : MethodName) jdk_65_method_30_code 3 none :: ws) ({ frames := 0, cells := 0, slots := 0, locals := 0 } : Room)) (fun a U => a = #[(.int ((((8 : Int32).toInt64) * (((1 : Int32) + fv0).toInt64)).toInt32)), (.int ((sv11_28 * ((1 : Int32) + fv0)) + (1 : Int32))), (.int ((sv11_28 + (1 : Int32)) * ((1 : Int32) + fv0)))] ∧ Z.Warmed39 U.vm ∧ U.heap = h0) (fun _ _ _ _ _ => True) (fun _ U o U' => ∃ v L, o = .returned v ∧ own_Q11_28 Z fv0 sv11_28 h0 n0 v U'.heap L ∧ FrameEnd U o U' L ({ frames := 0, cells := 0, slots := 0, locals := 0 } : Room).cells ({ frames := 0, cells := 0, slots := 0, locals := 0 } : Room).slots) := by
  refine MetFree.of_bodySF (plainFor_of_name own_pn2) hisR ?_
  intro p e s m args below meth c s₁ Bd hml0 hP hK
  obtain ⟨rfl, hZ, hh⟩ := hP
  have hx := Bd.exec
  have hlk := Bd.notSynchronized
  have hret := Bd.returns
  have hby := Bd.bytes
  have hml : c.maxLocals = 3 := hml0
  have hown : s.vm.findClass "java/util/Arrays" = some m.cls := findClass_of_methodNamed Bd.named
  have hnm := (name_of_methodNamed Bd.named Bd.method).1
  have X0 : Stand p l e ({ frames := 0, cells := 0, slots := 0, locals := 0 } : Room) s m #[(.int ((((8 : Int32).toInt64) * (((1 : Int32) + fv0).toInt64)).toInt32)), (.int ((sv11_28 * ((1 : Int32) + fv0)) + (1 : Int32))), (.int ((sv11_28 + (1 : Int32)) * ((1 : Int32) + fv0)))] below meth c s₁ [] 0 0 := Stand.of_body Bd
  have e0 : s₁.heap = h0 := by rw [← hh, Bd.state]; rfl
  have N0 := Fr.nil n0
  refine own_open (Q := own_Q11_28 Z fv0 sv11_28 h0 n0) (own_ef11 m ((((8 : Int32).toInt64) * (((1 : Int32) + fv0).toInt64)).toInt32) ((sv11_28 * ((1 : Int32) + fv0)) + (1 : Int32)) ((sv11_28 + (1 : Int32)) * ((1 : Int32) + fv0))) ?_
  refine own_st (fun t k => XS.iloadN X0.here hx rfl (hb hby own_d11_0) rfl (XS.iloadN X0.here hx rfl (hb hby own_d11_1) rfl k)) ?_
  show own_Go _ _ _ _ s₁ (mkF m 2 #[.val (.int ((((8 : Int32).toInt64) * (((1 : Int32) + fv0).toInt64)).toInt32)), .val (.int ((sv11_28 * ((1 : Int32) + fv0)) + (1 : Int32))), .val (.int ((sv11_28 + (1 : Int32)) * ((1 : Int32) + fv0)))] [(.int ((sv11_28 + (1 : Int32)) * ((1 : Int32) + fv0))), (.int ((sv11_28 * ((1 : Int32) + fv0)) + (1 : Int32)))])
  refine own_st (fun t k => XS.icmpYes X0.here hx rfl (pc0 := 2) (pc' := 46) rfl (hb hby own_d11_2) rfl (flt ((by decide +kernel : ∀ x ∈ own_D4, ∀ y ∈ own_D8, ¬ (((y + (1 : Int32)) * ((1 : Int32) + x)) < ((y * ((1 : Int32) + x)) + (1 : Int32)))) _ (own_m4 R_fv0) _ (own_m8 R_sv11_28) )).2.2.2 (by decide) (by decide) (XS.iloadN X0.here hx rfl (hb hby own_d11_46) rfl (XS.ifYes X0.here hx rfl (pc0 := 47) (pc' := 59) rfl (hb hby own_d11_47) rfl ((if0 _ _).trans (flt ((by decide +kernel : ∀ x ∈ own_D4, ∀ y ∈ own_D8, ¬ (((y * ((1 : Int32) + x)) + (1 : Int32)) < (0 : Int32))) _ (own_m4 R_fv0) _ (own_m8 R_sv11_28) )).2.1) (by decide) (by decide) k))) ?_
  show own_Go _ _ _ _ s₁ (mkF m 59 #[.val (.int ((((8 : Int32).toInt64) * (((1 : Int32) + fv0).toInt64)).toInt32)), .val (.int ((sv11_28 * ((1 : Int32) + fv0)) + (1 : Int32))), .val (.int ((sv11_28 + (1 : Int32)) * ((1 : Int32) + fv0)))] [])
  refine own_st (fun t k => XS.iloadN X0.here hx rfl (hb hby own_d11_59) rfl (XS.iloadN X0.here hx rfl (hb hby own_d11_60) rfl (XS.icmpYes X0.here hx rfl (pc0 := 61) (pc' := 73) rfl (hb hby own_d11_61) rfl (flt ((by decide +kernel : ∀ x ∈ own_D4, ∀ y ∈ own_D8, ¬ (((((8 : Int32).toInt64) * (((1 : Int32) + x).toInt64)).toInt32) < ((y + (1 : Int32)) * ((1 : Int32) + x)))) _ (own_m4 R_fv0) _ (own_m8 R_sv11_28) )).2.2.2 (by decide) (by decide) k))) ?_
  show own_Go _ _ _ _ s₁ (mkF m 73 #[.val (.int ((((8 : Int32).toInt64) * (((1 : Int32) + fv0).toInt64)).toInt32)), .val (.int ((sv11_28 * ((1 : Int32) + fv0)) + (1 : Int32))), .val (.int ((sv11_28 + (1 : Int32)) * ((1 : Int32) + fv0)))] [])
  exact own_retV X0 hx hlk hret (hb hby own_d11_73) (by decide) (by decide) e0 ⟨N0, (Keep.refl h0 []), ⟨rfl, trivial⟩⟩
theorem own_pd4 : parseMethodDescriptor "(III)V" = some ⟨[.int, .int, .int], none⟩ := by decide +kernel
theorem own_d10_0 : decode jdk_65_method_102_code 0 = .ok (.aload_n 0, 1) := by decide +kernel
theorem own_d10_1 : decode jdk_65_method_102_code 1 = .ok (.arraylength, 1) := by decide +kernel
theorem own_d10_2 : decode jdk_65_method_102_code 2 = .ok (.iload_n 1, 1) := by decide +kernel
theorem own_d10_3 : decode jdk_65_method_102_code 3 = .ok (.iload_n 2, 1) := by decide +kernel
theorem own_d10_4 : decode jdk_65_method_102_code 4 = .ok (.invokestatic 13, 3) := by decide +kernel
theorem own_d10_7 : decode jdk_65_method_102_code 7 = .ok (.iload_n 1, 1) := by decide +kernel
theorem own_d10_8 : decode jdk_65_method_102_code 8 = .ok (.istore 5, 2) := by decide +kernel
theorem own_d10_10 : decode jdk_65_method_102_code 10 = .ok (.iload 5, 2) := by decide +kernel
theorem own_d10_12 : decode jdk_65_method_102_code 12 = .ok (.iload_n 2, 1) := by decide +kernel
theorem own_d10_13 : decode jdk_65_method_102_code 13 = .ok (.if_icmp .ge 14, 3) := by decide +kernel
theorem own_d10_16 : decode jdk_65_method_102_code 16 = .ok (.aload_n 0, 1) := by decide +kernel
theorem own_d10_17 : decode jdk_65_method_102_code 17 = .ok (.iload 5, 2) := by decide +kernel
theorem own_d10_19 : decode jdk_65_method_102_code 19 = .ok (.lload_n 3, 1) := by decide +kernel
theorem own_d10_20 : decode jdk_65_method_102_code 20 = .ok (.lastore, 1) := by decide +kernel
theorem own_d10_21 : decode jdk_65_method_102_code 21 = .ok (.iinc 5 1, 3) := by decide +kernel
theorem own_d10_24 : decode jdk_65_method_102_code 24 = .ok (.goto (-14), 3) := by decide +kernel
theorem own_d10_27 : decode jdk_65_method_102_code 27 = .ok (.return_, 1) := by decide +kernel
theorem own_ef10 (m : MethodId) (x0 : Addr) (x1 : Int32) (x2 : Int32) (x3 : Int64) : entryFrame m #[(.ref x0), (.int x1), (.int x2), (.long x3)] 6 = mkF m 0 #[.val (.ref x0), .val (.int x1), .val (.int x2), .val (.long x3), .second, .unset] [] := by first | (simp [entryFrame, mkF, argsToLocals, Value.category]; done) | rfl
def own_Q10_27 (Z : State) (b3x3_12c9c5002 : Addr) (sv10_27 : Int32) (fv0 : Int32) (k3x3_12c9c5002 : ClassId) (jp1x6_22 : Int64) (h0 : Heap) (n0 : Nat) (v : Option Value) (h : Heap) (L : List Loc) : Prop := Fr n0 L ∧ Keep h0 h [b3x3_12c9c5002] ∧ ((∃ k3x3_12c9c5002 : ClassId, v = none ∧ Arh Z h b3x3_12c9c5002 k3x3_12c9c5002 .long ((((8 : Int32).toInt64) * (((1 : Int32) + fv0).toInt64)).toInt32) [((sv10_27 * ((1 : Int32) + fv0)), (.long jp1x6_22))] [] (.long (0 : Int64)) ∧ True))
set_option maxRecDepth 65536 in
set_option maxHeartbeats 40000000 in
theorem own_rm10_27 (l : Launch) (Z : State) (a0 : Array Value) (hw : ∀ d ∈ tables_1, d.before a0 Z = true) (ws : List Jvm.Cond) (b3x3_12c9c5002 : Addr) (sv10_27 : Int32) (fv0 : Int32) (k3x3_12c9c5002 : ClassId) (jp1x6_22 : Int64) (h0 : Heap) (n0 : Nat) (Z0 : n0 ≤ h0.size) (R_sv10_27 : sv10_27 = (0 : Int32) ∨ sv10_27 = (1 : Int32) ∨ sv10_27 = (2 : Int32) ∨ sv10_27 = (3 : Int32) ∨ sv10_27 = (4 : Int32) ∨ sv10_27 = (5 : Int32) ∨ sv10_27 = (6 : Int32) ∨ sv10_27 = (7 : Int32)) (P1 : Arh Z h0 b3x3_12c9c5002 k3x3_12c9c5002 .long ((((8 : Int32).toInt64) * (((1 : Int32) + fv0).toInt64)).toInt32) [((sv10_27 * ((1 : Int32) + fv0)), (.long jp1x6_22))] [] (.long (0 : Int64))) (R_fv0 : fv0 = (0 : Int32) ∨ fv0 = (1 : Int32) ∨ fv0 = (2 : Int32) ∨ fv0 = (3 : Int32)) (g_b3x3_12c9c5002 : n0 ≤ b3x3_12c9c5002) :
    MetFree l own_y2 (head1 (Jvm.Cond.code own_y2 jdk_65_method_102_code 6 none :: ws) ({ frames := 1, cells := 0, slots := 0, locals := 14 } : Room)) (fun a U => a = #[(.ref b3x3_12c9c5002), (.int ((sv10_27 * ((1 : Int32) + fv0)) + (1 : Int32))), (.int ((sv10_27 + (1 : Int32)) * ((1 : Int32) + fv0))), (.long (0 : Int64))] ∧ Z.Warmed39 U.vm ∧ U.heap = h0) (fun _ _ _ _ _ => True) (fun _ U o U' => ∃ v L, o = .returned v ∧ own_Q10_27 Z b3x3_12c9c5002 sv10_27 fv0 k3x3_12c9c5002 jp1x6_22 h0 n0 v U'.heap L ∧ FrameEnd U o U' L ({ frames := 1, cells := 0, slots := 0, locals := 14 } : Room).cells ({ frames := 1, cells := 0, slots := 0, locals := 14 } : Room).slots) := by
  refine MetFree.of_bodySF (plainFor_of_name own_pn2) hisR ?_
  intro p e s m args below meth c s₁ Bd hml0 hP hK
  obtain ⟨rfl, hZ, hh⟩ := hP
  have hx := Bd.exec
  have hlk := Bd.notSynchronized
  have hret := Bd.returns
  have hby := Bd.bytes
  have hml : c.maxLocals = 6 := hml0
  have hown : s.vm.findClass "java/util/Arrays" = some m.cls := findClass_of_methodNamed Bd.named
  have hnm := (name_of_methodNamed Bd.named Bd.method).1
  have X0 : Stand p l e ({ frames := 1, cells := 0, slots := 0, locals := 14 } : Room) s m #[(.ref b3x3_12c9c5002), (.int ((sv10_27 * ((1 : Int32) + fv0)) + (1 : Int32))), (.int ((sv10_27 + (1 : Int32)) * ((1 : Int32) + fv0))), (.long (0 : Int64))] below meth c s₁ [] 0 0 := Stand.of_body Bd
  have e0 : s₁.heap = h0 := by rw [← hh, Bd.state]; rfl
  have N0 := Fr.nil n0
  refine own_open (Q := own_Q10_27 Z b3x3_12c9c5002 sv10_27 fv0 k3x3_12c9c5002 jp1x6_22 h0 n0) (own_ef10 m b3x3_12c9c5002 ((sv10_27 * ((1 : Int32) + fv0)) + (1 : Int32)) ((sv10_27 + (1 : Int32)) * ((1 : Int32) + fv0)) (0 : Int64)) ?_
  refine own_st (fun t k => XS.aloadN X0.here hx rfl (hb hby own_d10_0) rfl rfl k) ?_
  refine own_st (own_alenH X0 hx hZ e0 P1 (g := (mkF m 1 #[.val (.ref b3x3_12c9c5002), .val (.int ((sv10_27 * ((1 : Int32) + fv0)) + (1 : Int32))), .val (.int ((sv10_27 + (1 : Int32)) * ((1 : Int32) + fv0))), .val (.long (0 : Int64)), .second, .unset] [(.ref b3x3_12c9c5002)])) rfl rfl (hb hby own_d10_1)) ?_
  show own_Go _ _ _ _ s₁ (mkF m 2 #[.val (.ref b3x3_12c9c5002), .val (.int ((sv10_27 * ((1 : Int32) + fv0)) + (1 : Int32))), .val (.int ((sv10_27 + (1 : Int32)) * ((1 : Int32) + fv0))), .val (.long (0 : Int64)), .second, .unset] [(.int ((((8 : Int32).toInt64) * (((1 : Int32) + fv0).toInt64)).toInt32))])
  refine own_st (fun t k => XS.iloadN X0.here hx rfl (hb hby own_d10_2) rfl (XS.iloadN X0.here hx rfl (hb hby own_d10_3) rfl k)) ?_
  refine own_cS X0 hx hZ hown (own_w hw 59 rfl) (own_w hw 60 rfl) (own_w hw 57 rfl) (own_w hw 61 rfl) [(.int ((((8 : Int32).toInt64) * (((1 : Int32) + fv0).toInt64)).toInt32)), (.int ((sv10_27 * ((1 : Int32) + fv0)) + (1 : Int32))), (.int ((sv10_27 + (1 : Int32)) * ((1 : Int32) + fv0)))] [] (own_rm11_28 l Z a0 hw [] fv0 sv10_27 h0 n0 Z0 R_sv10_27 R_fv0) 0 (hb hby own_d10_4) (by rw [hml]; rfl) (lenOf own_pd4 rfl) e0 rfl rfl (by show 2 * 0 + _ ≤ _; exact Nat.le_of_eq rfl) (by decide) (by decide) (by decide) (by decide) (by decide) fun v1 T1 L1 X1 hQ1 => ?_
  obtain ⟨N1q, Kq1, hL1⟩ := hQ1
  have N1 := Fr.app N0 N1q
  have K1 : Keep h0 T1.heap [b3x3_12c9c5002] := (Keep.refl h0 [b3x3_12c9c5002]).trans Kq1 all0
  have Z1 := Nat.le_trans Z0 Kq1.1
  rcases hL1 with ⟨rfl, -⟩
  · skip
    show own_Go _ _ _ _ T1 (mkF m 7 #[.val (.ref b3x3_12c9c5002), .val (.int ((sv10_27 * ((1 : Int32) + fv0)) + (1 : Int32))), .val (.int ((sv10_27 + (1 : Int32)) * ((1 : Int32) + fv0))), .val (.long (0 : Int64)), .second, .unset] [])
    refine own_st (fun t k => XS.iloadN X1.here hx rfl (hb hby own_d10_7) rfl (XS.istore X1.here hx rfl (hb hby own_d10_8) rfl (l' := #[.val (.ref b3x3_12c9c5002), .val (.int ((sv10_27 * ((1 : Int32) + fv0)) + (1 : Int32))), .val (.int ((sv10_27 + (1 : Int32)) * ((1 : Int32) + fv0))), .val (.long (0 : Int64)), .second, .val (.int ((sv10_27 * ((1 : Int32) + fv0)) + (1 : Int32)))]) rfl (XS.iload X1.here hx rfl (hb hby own_d10_10) rfl k))) ?_
    show own_Go _ _ _ _ T1 (mkF m 12 #[.val (.ref b3x3_12c9c5002), .val (.int ((sv10_27 * ((1 : Int32) + fv0)) + (1 : Int32))), .val (.int ((sv10_27 + (1 : Int32)) * ((1 : Int32) + fv0))), .val (.long (0 : Int64)), .second, .val (.int ((sv10_27 * ((1 : Int32) + fv0)) + (1 : Int32)))] [(.int ((sv10_27 * ((1 : Int32) + fv0)) + (1 : Int32)))])
    refine own_st (fun t k => XS.iloadN X1.here hx rfl (hb hby own_d10_12) rfl k) ?_
    by_cases hc2 : ((sv10_27 * ((1 : Int32) + fv0)) + (1 : Int32)) < ((sv10_27 + (1 : Int32)) * ((1 : Int32) + fv0))
    · skip
      refine own_st (fun t k => XS.icmpNo X1.here hx rfl (hb hby own_d10_13) rfl (tlt hc2).2.1 (XS.aloadN X1.here hx rfl (hb hby own_d10_16) rfl rfl k)) ?_
      show own_Go _ _ _ _ T1 (mkF m 17 #[.val (.ref b3x3_12c9c5002), .val (.int ((sv10_27 * ((1 : Int32) + fv0)) + (1 : Int32))), .val (.int ((sv10_27 + (1 : Int32)) * ((1 : Int32) + fv0))), .val (.long (0 : Int64)), .second, .val (.int ((sv10_27 * ((1 : Int32) + fv0)) + (1 : Int32)))] [(.ref b3x3_12c9c5002)])
      refine own_st (fun t k => XS.iload X1.here hx rfl (hb hby own_d10_17) rfl (XS.lloadN X1.here hx rfl (hb hby own_d10_19) rfl k)) ?_
      have f3 := (P1.keep Kq1 nin0)
      obtain ⟨c4, A4, q4, S4, M4, H4, G4⟩ := f3
      obtain ⟨T4, h4, X4, e4, W4, st4⟩ := stJ X1 hx hZ rfl A4 (j := ((sv10_27 * ((1 : Int32) + fv0)) + (1 : Int32))) (inb_of S4 ((by decide +kernel : ∀ x ∈ own_D4, ∀ y ∈ own_D8, (((y * ((1 : Int32) + x)) + (1 : Int32)) < ((y + (1 : Int32)) * ((1 : Int32) + x))) → (¬ ((y * ((1 : Int32) + x)) + (1 : Int32)) < 0 ∧ ((y * ((1 : Int32) + x)) + (1 : Int32)) < ((((8 : Int32).toInt64) * (((1 : Int32) + x).toInt64)).toInt32))) _ (own_m4 R_fv0) _ (own_m8 R_sv10_27) hc2)) (g := (mkF m 20 #[.val (.ref b3x3_12c9c5002), .val (.int ((sv10_27 * ((1 : Int32) + fv0)) + (1 : Int32))), .val (.int ((sv10_27 + (1 : Int32)) * ((1 : Int32) + fv0))), .val (.long (0 : Int64)), .second, .val (.int ((sv10_27 * ((1 : Int32) + fv0)) + (1 : Int32)))] [(.long (0 : Int64)), (.int ((sv10_27 * ((1 : Int32) + fv0)) + (1 : Int32))), (.ref b3x3_12c9c5002)])) rfl rfl (hb hby own_d10_20)
      have i4 : ¬ ((sv10_27 * ((1 : Int32) + fv0)) + (1 : Int32)) < 0 ∧ ((sv10_27 * ((1 : Int32) + fv0)) + (1 : Int32)) < ((((8 : Int32).toInt64) * (((1 : Int32) + fv0).toInt64)).toInt32) := ((by decide +kernel : ∀ x ∈ own_D4, ∀ y ∈ own_D8, (((y * ((1 : Int32) + x)) + (1 : Int32)) < ((y + (1 : Int32)) * ((1 : Int32) + x))) → (¬ ((y * ((1 : Int32) + x)) + (1 : Int32)) < 0 ∧ ((y * ((1 : Int32) + x)) + (1 : Int32)) < ((((8 : Int32).toInt64) * (((1 : Int32) + x).toInt64)).toInt32))) _ (own_m4 R_fv0) _ (own_m8 R_sv10_27) hc2)
      refine own_st st4 ?_
      have K4 : Keep h0 h4 [b3x3_12c9c5002] := K1.wr W4 (Or.inl (List.mem_of_getElem? (i := 0) rfl))
      have Z4 := Nat.le_trans Z1 (Keep.of_wr W4).1
      have N4 := Fr.snoc X4 N1 g_b3x3_12c9c5002
      have V4 : Arh Z h4 b3x3_12c9c5002 k3x3_12c9c5002 .long ((((8 : Int32).toInt64) * (((1 : Int32) + fv0).toInt64)).toInt32) [((sv10_27 * ((1 : Int32) + fv0)), (.long jp1x6_22))] [] (.long (0 : Int64)) := own_again (Arh.push A4 q4 S4 M4 H4 G4 rfl W4 (inb_of S4 ((by decide +kernel : ∀ x ∈ own_D4, ∀ y ∈ own_D8, (((y * ((1 : Int32) + x)) + (1 : Int32)) < ((y + (1 : Int32)) * ((1 : Int32) + x))) → (¬ ((y * ((1 : Int32) + x)) + (1 : Int32)) < 0 ∧ ((y * ((1 : Int32) + x)) + (1 : Int32)) < ((((8 : Int32).toInt64) * (((1 : Int32) + x).toInt64)).toInt32))) _ (own_m4 R_fv0) _ (own_m8 R_sv10_27) hc2))) i4 (getH_miss i4.1 ((by decide +kernel : ∀ x ∈ own_D4, ∀ y ∈ own_D8, (((y * ((1 : Int32) + x)) + (1 : Int32)) < ((y + (1 : Int32)) * ((1 : Int32) + x))) → ¬ (((y * ((1 : Int32) + x)) + (1 : Int32)) = (y * ((1 : Int32) + x)))) _ (own_m4 R_fv0) _ (own_m8 R_sv10_27) hc2) (getH_all rfl _))
      show own_Go _ _ _ _ T4 (mkF m 21 #[.val (.ref b3x3_12c9c5002), .val (.int ((sv10_27 * ((1 : Int32) + fv0)) + (1 : Int32))), .val (.int ((sv10_27 + (1 : Int32)) * ((1 : Int32) + fv0))), .val (.long (0 : Int64)), .second, .val (.int ((sv10_27 * ((1 : Int32) + fv0)) + (1 : Int32)))] [])
      refine own_st (fun t k => XS.iinc X4.here hx rfl (hb hby own_d10_21) rfl (l' := #[.val (.ref b3x3_12c9c5002), .val (.int ((sv10_27 * ((1 : Int32) + fv0)) + (1 : Int32))), .val (.int ((sv10_27 + (1 : Int32)) * ((1 : Int32) + fv0))), .val (.long (0 : Int64)), .second, .val (.int (((sv10_27 * ((1 : Int32) + fv0)) + (1 : Int32)) + (1 : Int32)))]) rfl (XS.goto X4.here hx rfl (pc0 := 24) (pc' := 10) rfl (hb hby own_d10_24) (by decide) (by decide) (XS.iload X4.here hx rfl (hb hby own_d10_10) rfl k))) ?_
      show own_Go _ _ _ _ T4 (mkF m 12 #[.val (.ref b3x3_12c9c5002), .val (.int ((sv10_27 * ((1 : Int32) + fv0)) + (1 : Int32))), .val (.int ((sv10_27 + (1 : Int32)) * ((1 : Int32) + fv0))), .val (.long (0 : Int64)), .second, .val (.int (((sv10_27 * ((1 : Int32) + fv0)) + (1 : Int32)) + (1 : Int32)))] [(.int (((sv10_27 * ((1 : Int32) + fv0)) + (1 : Int32)) + (1 : Int32)))])
      refine own_st (fun t k => XS.iloadN X4.here hx rfl (hb hby own_d10_12) rfl k) ?_
      by_cases hc5 : (((sv10_27 * ((1 : Int32) + fv0)) + (1 : Int32)) + (1 : Int32)) < ((sv10_27 + (1 : Int32)) * ((1 : Int32) + fv0))
      · skip
        refine own_st (fun t k => XS.icmpNo X4.here hx rfl (hb hby own_d10_13) rfl (tlt hc5).2.1 (XS.aloadN X4.here hx rfl (hb hby own_d10_16) rfl rfl k)) ?_
        show own_Go _ _ _ _ T4 (mkF m 17 #[.val (.ref b3x3_12c9c5002), .val (.int ((sv10_27 * ((1 : Int32) + fv0)) + (1 : Int32))), .val (.int ((sv10_27 + (1 : Int32)) * ((1 : Int32) + fv0))), .val (.long (0 : Int64)), .second, .val (.int (((sv10_27 * ((1 : Int32) + fv0)) + (1 : Int32)) + (1 : Int32)))] [(.ref b3x3_12c9c5002)])
        refine own_st (fun t k => XS.iload X4.here hx rfl (hb hby own_d10_17) rfl (XS.lloadN X4.here hx rfl (hb hby own_d10_19) rfl k)) ?_
        obtain ⟨c6, A6, q6, S6, M6, H6, G6⟩ := V4
        obtain ⟨T6, h6, X6, e6, W6, st6⟩ := stJ X4 hx hZ e4 A6 (j := (((sv10_27 * ((1 : Int32) + fv0)) + (1 : Int32)) + (1 : Int32))) (inb_of S6 ((by decide +kernel : ∀ x ∈ own_D4, ∀ y ∈ own_D8, (((y * ((1 : Int32) + x)) + (1 : Int32)) < ((y + (1 : Int32)) * ((1 : Int32) + x))) → ((((y * ((1 : Int32) + x)) + (1 : Int32)) + (1 : Int32)) < ((y + (1 : Int32)) * ((1 : Int32) + x))) → (¬ (((y * ((1 : Int32) + x)) + (1 : Int32)) + (1 : Int32)) < 0 ∧ (((y * ((1 : Int32) + x)) + (1 : Int32)) + (1 : Int32)) < ((((8 : Int32).toInt64) * (((1 : Int32) + x).toInt64)).toInt32))) _ (own_m4 R_fv0) _ (own_m8 R_sv10_27) hc2 hc5)) (g := (mkF m 20 #[.val (.ref b3x3_12c9c5002), .val (.int ((sv10_27 * ((1 : Int32) + fv0)) + (1 : Int32))), .val (.int ((sv10_27 + (1 : Int32)) * ((1 : Int32) + fv0))), .val (.long (0 : Int64)), .second, .val (.int (((sv10_27 * ((1 : Int32) + fv0)) + (1 : Int32)) + (1 : Int32)))] [(.long (0 : Int64)), (.int (((sv10_27 * ((1 : Int32) + fv0)) + (1 : Int32)) + (1 : Int32))), (.ref b3x3_12c9c5002)])) rfl rfl (hb hby own_d10_20)
        have i6 : ¬ (((sv10_27 * ((1 : Int32) + fv0)) + (1 : Int32)) + (1 : Int32)) < 0 ∧ (((sv10_27 * ((1 : Int32) + fv0)) + (1 : Int32)) + (1 : Int32)) < ((((8 : Int32).toInt64) * (((1 : Int32) + fv0).toInt64)).toInt32) := ((by decide +kernel : ∀ x ∈ own_D4, ∀ y ∈ own_D8, (((y * ((1 : Int32) + x)) + (1 : Int32)) < ((y + (1 : Int32)) * ((1 : Int32) + x))) → ((((y * ((1 : Int32) + x)) + (1 : Int32)) + (1 : Int32)) < ((y + (1 : Int32)) * ((1 : Int32) + x))) → (¬ (((y * ((1 : Int32) + x)) + (1 : Int32)) + (1 : Int32)) < 0 ∧ (((y * ((1 : Int32) + x)) + (1 : Int32)) + (1 : Int32)) < ((((8 : Int32).toInt64) * (((1 : Int32) + x).toInt64)).toInt32))) _ (own_m4 R_fv0) _ (own_m8 R_sv10_27) hc2 hc5)
        refine own_st st6 ?_
        have K6 : Keep h0 h6 [b3x3_12c9c5002] := K4.wr W6 (Or.inl (List.mem_of_getElem? (i := 0) rfl))
        have Z6 := Nat.le_trans Z4 (Keep.of_wr W6).1
        have N6 := Fr.snoc X6 N4 g_b3x3_12c9c5002
        have V6 : Arh Z h6 b3x3_12c9c5002 k3x3_12c9c5002 .long ((((8 : Int32).toInt64) * (((1 : Int32) + fv0).toInt64)).toInt32) [((sv10_27 * ((1 : Int32) + fv0)), (.long jp1x6_22))] [] (.long (0 : Int64)) := own_again (Arh.push A6 q6 S6 M6 H6 G6 rfl W6 (inb_of S6 ((by decide +kernel : ∀ x ∈ own_D4, ∀ y ∈ own_D8, (((y * ((1 : Int32) + x)) + (1 : Int32)) < ((y + (1 : Int32)) * ((1 : Int32) + x))) → ((((y * ((1 : Int32) + x)) + (1 : Int32)) + (1 : Int32)) < ((y + (1 : Int32)) * ((1 : Int32) + x))) → (¬ (((y * ((1 : Int32) + x)) + (1 : Int32)) + (1 : Int32)) < 0 ∧ (((y * ((1 : Int32) + x)) + (1 : Int32)) + (1 : Int32)) < ((((8 : Int32).toInt64) * (((1 : Int32) + x).toInt64)).toInt32))) _ (own_m4 R_fv0) _ (own_m8 R_sv10_27) hc2 hc5))) i6 (getH_miss i6.1 ((by decide +kernel : ∀ x ∈ own_D4, ∀ y ∈ own_D8, (((y * ((1 : Int32) + x)) + (1 : Int32)) < ((y + (1 : Int32)) * ((1 : Int32) + x))) → ((((y * ((1 : Int32) + x)) + (1 : Int32)) + (1 : Int32)) < ((y + (1 : Int32)) * ((1 : Int32) + x))) → ¬ ((((y * ((1 : Int32) + x)) + (1 : Int32)) + (1 : Int32)) = (y * ((1 : Int32) + x)))) _ (own_m4 R_fv0) _ (own_m8 R_sv10_27) hc2 hc5) (getH_all rfl _))
        show own_Go _ _ _ _ T6 (mkF m 21 #[.val (.ref b3x3_12c9c5002), .val (.int ((sv10_27 * ((1 : Int32) + fv0)) + (1 : Int32))), .val (.int ((sv10_27 + (1 : Int32)) * ((1 : Int32) + fv0))), .val (.long (0 : Int64)), .second, .val (.int (((sv10_27 * ((1 : Int32) + fv0)) + (1 : Int32)) + (1 : Int32)))] [])
        refine own_st (fun t k => XS.iinc X6.here hx rfl (hb hby own_d10_21) rfl (l' := #[.val (.ref b3x3_12c9c5002), .val (.int ((sv10_27 * ((1 : Int32) + fv0)) + (1 : Int32))), .val (.int ((sv10_27 + (1 : Int32)) * ((1 : Int32) + fv0))), .val (.long (0 : Int64)), .second, .val (.int ((((sv10_27 * ((1 : Int32) + fv0)) + (1 : Int32)) + (1 : Int32)) + (1 : Int32)))]) rfl (XS.goto X6.here hx rfl (pc0 := 24) (pc' := 10) rfl (hb hby own_d10_24) (by decide) (by decide) (XS.iload X6.here hx rfl (hb hby own_d10_10) rfl k))) ?_
        show own_Go _ _ _ _ T6 (mkF m 12 #[.val (.ref b3x3_12c9c5002), .val (.int ((sv10_27 * ((1 : Int32) + fv0)) + (1 : Int32))), .val (.int ((sv10_27 + (1 : Int32)) * ((1 : Int32) + fv0))), .val (.long (0 : Int64)), .second, .val (.int ((((sv10_27 * ((1 : Int32) + fv0)) + (1 : Int32)) + (1 : Int32)) + (1 : Int32)))] [(.int ((((sv10_27 * ((1 : Int32) + fv0)) + (1 : Int32)) + (1 : Int32)) + (1 : Int32)))])
        refine own_st (fun t k => XS.iloadN X6.here hx rfl (hb hby own_d10_12) rfl k) ?_
        by_cases hc7 : ((((sv10_27 * ((1 : Int32) + fv0)) + (1 : Int32)) + (1 : Int32)) + (1 : Int32)) < ((sv10_27 + (1 : Int32)) * ((1 : Int32) + fv0))
        · skip
          refine own_st (fun t k => XS.icmpNo X6.here hx rfl (hb hby own_d10_13) rfl (tlt hc7).2.1 (XS.aloadN X6.here hx rfl (hb hby own_d10_16) rfl rfl k)) ?_
          show own_Go _ _ _ _ T6 (mkF m 17 #[.val (.ref b3x3_12c9c5002), .val (.int ((sv10_27 * ((1 : Int32) + fv0)) + (1 : Int32))), .val (.int ((sv10_27 + (1 : Int32)) * ((1 : Int32) + fv0))), .val (.long (0 : Int64)), .second, .val (.int ((((sv10_27 * ((1 : Int32) + fv0)) + (1 : Int32)) + (1 : Int32)) + (1 : Int32)))] [(.ref b3x3_12c9c5002)])
          refine own_st (fun t k => XS.iload X6.here hx rfl (hb hby own_d10_17) rfl (XS.lloadN X6.here hx rfl (hb hby own_d10_19) rfl k)) ?_
          obtain ⟨c8, A8, q8, S8, M8, H8, G8⟩ := V6
          obtain ⟨T8, h8, X8, e8, W8, st8⟩ := stJ X6 hx hZ e6 A8 (j := ((((sv10_27 * ((1 : Int32) + fv0)) + (1 : Int32)) + (1 : Int32)) + (1 : Int32))) (inb_of S8 ((by decide +kernel : ∀ x ∈ own_D4, ∀ y ∈ own_D8, (((y * ((1 : Int32) + x)) + (1 : Int32)) < ((y + (1 : Int32)) * ((1 : Int32) + x))) → ((((y * ((1 : Int32) + x)) + (1 : Int32)) + (1 : Int32)) < ((y + (1 : Int32)) * ((1 : Int32) + x))) → (((((y * ((1 : Int32) + x)) + (1 : Int32)) + (1 : Int32)) + (1 : Int32)) < ((y + (1 : Int32)) * ((1 : Int32) + x))) → (¬ ((((y * ((1 : Int32) + x)) + (1 : Int32)) + (1 : Int32)) + (1 : Int32)) < 0 ∧ ((((y * ((1 : Int32) + x)) + (1 : Int32)) + (1 : Int32)) + (1 : Int32)) < ((((8 : Int32).toInt64) * (((1 : Int32) + x).toInt64)).toInt32))) _ (own_m4 R_fv0) _ (own_m8 R_sv10_27) hc2 hc5 hc7)) (g := (mkF m 20 #[.val (.ref b3x3_12c9c5002), .val (.int ((sv10_27 * ((1 : Int32) + fv0)) + (1 : Int32))), .val (.int ((sv10_27 + (1 : Int32)) * ((1 : Int32) + fv0))), .val (.long (0 : Int64)), .second, .val (.int ((((sv10_27 * ((1 : Int32) + fv0)) + (1 : Int32)) + (1 : Int32)) + (1 : Int32)))] [(.long (0 : Int64)), (.int ((((sv10_27 * ((1 : Int32) + fv0)) + (1 : Int32)) + (1 : Int32)) + (1 : Int32))), (.ref b3x3_12c9c5002)])) rfl rfl (hb hby own_d10_20)
          have i8 : ¬ ((((sv10_27 * ((1 : Int32) + fv0)) + (1 : Int32)) + (1 : Int32)) + (1 : Int32)) < 0 ∧ ((((sv10_27 * ((1 : Int32) + fv0)) + (1 : Int32)) + (1 : Int32)) + (1 : Int32)) < ((((8 : Int32).toInt64) * (((1 : Int32) + fv0).toInt64)).toInt32) := ((by decide +kernel : ∀ x ∈ own_D4, ∀ y ∈ own_D8, (((y * ((1 : Int32) + x)) + (1 : Int32)) < ((y + (1 : Int32)) * ((1 : Int32) + x))) → ((((y * ((1 : Int32) + x)) + (1 : Int32)) + (1 : Int32)) < ((y + (1 : Int32)) * ((1 : Int32) + x))) → (((((y * ((1 : Int32) + x)) + (1 : Int32)) + (1 : Int32)) + (1 : Int32)) < ((y + (1 : Int32)) * ((1 : Int32) + x))) → (¬ ((((y * ((1 : Int32) + x)) + (1 : Int32)) + (1 : Int32)) + (1 : Int32)) < 0 ∧ ((((y * ((1 : Int32) + x)) + (1 : Int32)) + (1 : Int32)) + (1 : Int32)) < ((((8 : Int32).toInt64) * (((1 : Int32) + x).toInt64)).toInt32))) _ (own_m4 R_fv0) _ (own_m8 R_sv10_27) hc2 hc5 hc7)
          refine own_st st8 ?_
          have K8 : Keep h0 h8 [b3x3_12c9c5002] := K6.wr W8 (Or.inl (List.mem_of_getElem? (i := 0) rfl))
          have Z8 := Nat.le_trans Z6 (Keep.of_wr W8).1
          have N8 := Fr.snoc X8 N6 g_b3x3_12c9c5002
          have V8 : Arh Z h8 b3x3_12c9c5002 k3x3_12c9c5002 .long ((((8 : Int32).toInt64) * (((1 : Int32) + fv0).toInt64)).toInt32) [((sv10_27 * ((1 : Int32) + fv0)), (.long jp1x6_22))] [] (.long (0 : Int64)) := own_again (Arh.push A8 q8 S8 M8 H8 G8 rfl W8 (inb_of S8 ((by decide +kernel : ∀ x ∈ own_D4, ∀ y ∈ own_D8, (((y * ((1 : Int32) + x)) + (1 : Int32)) < ((y + (1 : Int32)) * ((1 : Int32) + x))) → ((((y * ((1 : Int32) + x)) + (1 : Int32)) + (1 : Int32)) < ((y + (1 : Int32)) * ((1 : Int32) + x))) → (((((y * ((1 : Int32) + x)) + (1 : Int32)) + (1 : Int32)) + (1 : Int32)) < ((y + (1 : Int32)) * ((1 : Int32) + x))) → (¬ ((((y * ((1 : Int32) + x)) + (1 : Int32)) + (1 : Int32)) + (1 : Int32)) < 0 ∧ ((((y * ((1 : Int32) + x)) + (1 : Int32)) + (1 : Int32)) + (1 : Int32)) < ((((8 : Int32).toInt64) * (((1 : Int32) + x).toInt64)).toInt32))) _ (own_m4 R_fv0) _ (own_m8 R_sv10_27) hc2 hc5 hc7))) i8 (getH_miss i8.1 ((by decide +kernel : ∀ x ∈ own_D4, ∀ y ∈ own_D8, (((y * ((1 : Int32) + x)) + (1 : Int32)) < ((y + (1 : Int32)) * ((1 : Int32) + x))) → ((((y * ((1 : Int32) + x)) + (1 : Int32)) + (1 : Int32)) < ((y + (1 : Int32)) * ((1 : Int32) + x))) → (((((y * ((1 : Int32) + x)) + (1 : Int32)) + (1 : Int32)) + (1 : Int32)) < ((y + (1 : Int32)) * ((1 : Int32) + x))) → ¬ (((((y * ((1 : Int32) + x)) + (1 : Int32)) + (1 : Int32)) + (1 : Int32)) = (y * ((1 : Int32) + x)))) _ (own_m4 R_fv0) _ (own_m8 R_sv10_27) hc2 hc5 hc7) (getH_all rfl _))
          show own_Go _ _ _ _ T8 (mkF m 21 #[.val (.ref b3x3_12c9c5002), .val (.int ((sv10_27 * ((1 : Int32) + fv0)) + (1 : Int32))), .val (.int ((sv10_27 + (1 : Int32)) * ((1 : Int32) + fv0))), .val (.long (0 : Int64)), .second, .val (.int ((((sv10_27 * ((1 : Int32) + fv0)) + (1 : Int32)) + (1 : Int32)) + (1 : Int32)))] [])
          refine own_st (fun t k => XS.iinc X8.here hx rfl (hb hby own_d10_21) rfl (l' := #[.val (.ref b3x3_12c9c5002), .val (.int ((sv10_27 * ((1 : Int32) + fv0)) + (1 : Int32))), .val (.int ((sv10_27 + (1 : Int32)) * ((1 : Int32) + fv0))), .val (.long (0 : Int64)), .second, .val (.int (((((sv10_27 * ((1 : Int32) + fv0)) + (1 : Int32)) + (1 : Int32)) + (1 : Int32)) + (1 : Int32)))]) rfl (XS.goto X8.here hx rfl (pc0 := 24) (pc' := 10) rfl (hb hby own_d10_24) (by decide) (by decide) (XS.iload X8.here hx rfl (hb hby own_d10_10) rfl k))) ?_
          show own_Go _ _ _ _ T8 (mkF m 12 #[.val (.ref b3x3_12c9c5002), .val (.int ((sv10_27 * ((1 : Int32) + fv0)) + (1 : Int32))), .val (.int ((sv10_27 + (1 : Int32)) * ((1 : Int32) + fv0))), .val (.long (0 : Int64)), .second, .val (.int (((((sv10_27 * ((1 : Int32) + fv0)) + (1 : Int32)) + (1 : Int32)) + (1 : Int32)) + (1 : Int32)))] [(.int (((((sv10_27 * ((1 : Int32) + fv0)) + (1 : Int32)) + (1 : Int32)) + (1 : Int32)) + (1 : Int32)))])
          refine own_st (fun t k => XS.iloadN X8.here hx rfl (hb hby own_d10_12) rfl (XS.icmpYes X8.here hx rfl (pc0 := 13) (pc' := 27) rfl (hb hby own_d10_13) rfl (flt ((by decide +kernel : ∀ x ∈ own_D4, ∀ y ∈ own_D8, (((y * ((1 : Int32) + x)) + (1 : Int32)) < ((y + (1 : Int32)) * ((1 : Int32) + x))) → ((((y * ((1 : Int32) + x)) + (1 : Int32)) + (1 : Int32)) < ((y + (1 : Int32)) * ((1 : Int32) + x))) → (((((y * ((1 : Int32) + x)) + (1 : Int32)) + (1 : Int32)) + (1 : Int32)) < ((y + (1 : Int32)) * ((1 : Int32) + x))) → ¬ ((((((y * ((1 : Int32) + x)) + (1 : Int32)) + (1 : Int32)) + (1 : Int32)) + (1 : Int32)) < ((y + (1 : Int32)) * ((1 : Int32) + x)))) _ (own_m4 R_fv0) _ (own_m8 R_sv10_27) hc2 hc5 hc7)).2.1 (by decide) (by decide) k)) ?_
          exact own_retV X8 hx hlk hret (hb hby own_d10_27) (by decide) (by decide) e8 ⟨N8, K8, ⟨_, rfl, V8, trivial⟩⟩
        · skip
          refine own_st (fun t k => XS.icmpYes X6.here hx rfl (pc0 := 13) (pc' := 27) rfl (hb hby own_d10_13) rfl (flt hc7).2.1 (by decide) (by decide) k) ?_
          show own_Go _ _ _ _ T6 (mkF m 27 #[.val (.ref b3x3_12c9c5002), .val (.int ((sv10_27 * ((1 : Int32) + fv0)) + (1 : Int32))), .val (.int ((sv10_27 + (1 : Int32)) * ((1 : Int32) + fv0))), .val (.long (0 : Int64)), .second, .val (.int ((((sv10_27 * ((1 : Int32) + fv0)) + (1 : Int32)) + (1 : Int32)) + (1 : Int32)))] [])
          exact own_retV X6 hx hlk hret (hb hby own_d10_27) (by decide) (by decide) e6 ⟨N6, K6, ⟨_, rfl, V6, trivial⟩⟩
      · skip
        refine own_st (fun t k => XS.icmpYes X4.here hx rfl (pc0 := 13) (pc' := 27) rfl (hb hby own_d10_13) rfl (flt hc5).2.1 (by decide) (by decide) k) ?_
        exact own_retV X4 hx hlk hret (hb hby own_d10_27) (by decide) (by decide) e4 ⟨N4, K4, ⟨_, rfl, V4, trivial⟩⟩
    · skip
      refine own_st (fun t k => XS.icmpYes X1.here hx rfl (pc0 := 13) (pc' := 27) rfl (hb hby own_d10_13) rfl (flt hc2).2.1 (by decide) (by decide) k) ?_
      have f9 := (P1.keep Kq1 nin0)
      exact own_retV X1 hx hlk hret (hb hby own_d10_27) (by decide) (by decide) rfl ⟨N1, K1, ⟨_, rfl, f9, trivial⟩⟩
theorem own_pd5 : parseMethodDescriptor "([JIIJ)V" = some ⟨[(.array .long), .int, .int, .long], none⟩ := by decide +kernel
theorem own_d6_0 : decode prog_69_method_5_code 0 = .ok (.aload_n 0, 1) := by decide +kernel
theorem own_d6_1 : decode prog_69_method_5_code 1 = .ok (.lload_n 1, 1) := by decide +kernel
theorem own_d6_2 : decode prog_69_method_5_code 2 = .ok (.invokevirtual 32, 3) := by decide +kernel
theorem own_d6_5 : decode prog_69_method_5_code 5 = .ok (.iconst (-1), 1) := by decide +kernel
theorem own_d6_6 : decode prog_69_method_5_code 6 = .ok (.if_icmp .eq 5, 3) := by decide +kernel
theorem own_d6_11 : decode prog_69_method_5_code 11 = .ok (.iconst 2, 1) := by decide +kernel
theorem own_d6_12 : decode prog_69_method_5_code 12 = .ok (.aload_n 0, 1) := by decide +kernel
theorem own_d6_13 : decode prog_69_method_5_code 13 = .ok (.getfield 17, 3) := by decide +kernel
theorem own_d6_16 : decode prog_69_method_5_code 16 = .ok (.iconst 1, 1) := by decide +kernel
theorem own_d6_17 : decode prog_69_method_5_code 17 = .ok (.iadd, 1) := by decide +kernel
theorem own_d6_18 : decode prog_69_method_5_code 18 = .ok (.imul, 1) := by decide +kernel
theorem own_d6_19 : decode prog_69_method_5_code 19 = .ok (.aload_n 0, 1) := by decide +kernel
theorem own_d6_20 : decode prog_69_method_5_code 20 = .ok (.getfield 20, 3) := by decide +kernel
theorem own_d6_23 : decode prog_69_method_5_code 23 = .ok (.arraylength, 1) := by decide +kernel
theorem own_d6_24 : decode prog_69_method_5_code 24 = .ok (.if_icmp .le 7, 3) := by decide +kernel
theorem own_d6_31 : decode prog_69_method_5_code 31 = .ok (.aload_n 0, 1) := by decide +kernel
theorem own_d6_32 : decode prog_69_method_5_code 32 = .ok (.lload_n 1, 1) := by decide +kernel
theorem own_d6_33 : decode prog_69_method_5_code 33 = .ok (.invokevirtual 38, 3) := by decide +kernel
theorem own_d6_36 : decode prog_69_method_5_code 36 = .ok (.istore_n 3, 1) := by decide +kernel
theorem own_d6_37 : decode prog_69_method_5_code 37 = .ok (.aload_n 0, 1) := by decide +kernel
theorem own_d6_38 : decode prog_69_method_5_code 38 = .ok (.getfield 20, 3) := by decide +kernel
theorem own_d6_41 : decode prog_69_method_5_code 41 = .ok (.iload_n 3, 1) := by decide +kernel
theorem own_d6_42 : decode prog_69_method_5_code 42 = .ok (.iconst 1, 1) := by decide +kernel
theorem own_d6_43 : decode prog_69_method_5_code 43 = .ok (.bastore, 1) := by decide +kernel
theorem own_d6_44 : decode prog_69_method_5_code 44 = .ok (.aload_n 0, 1) := by decide +kernel
theorem own_d6_45 : decode prog_69_method_5_code 45 = .ok (.getfield 28, 3) := by decide +kernel
theorem own_d6_48 : decode prog_69_method_5_code 48 = .ok (.iload_n 3, 1) := by decide +kernel
theorem own_d6_49 : decode prog_69_method_5_code 49 = .ok (.aload_n 0, 1) := by decide +kernel
theorem own_d6_50 : decode prog_69_method_5_code 50 = .ok (.getfield 7, 3) := by decide +kernel
theorem own_d6_53 : decode prog_69_method_5_code 53 = .ok (.imul, 1) := by decide +kernel
theorem own_d6_54 : decode prog_69_method_5_code 54 = .ok (.lload_n 1, 1) := by decide +kernel
theorem own_d6_55 : decode prog_69_method_5_code 55 = .ok (.lastore, 1) := by decide +kernel
theorem own_d6_56 : decode prog_69_method_5_code 56 = .ok (.aload_n 0, 1) := by decide +kernel
theorem own_d6_57 : decode prog_69_method_5_code 57 = .ok (.getfield 28, 3) := by decide +kernel
theorem own_d6_60 : decode prog_69_method_5_code 60 = .ok (.iload_n 3, 1) := by decide +kernel
theorem own_d6_61 : decode prog_69_method_5_code 61 = .ok (.aload_n 0, 1) := by decide +kernel
theorem own_d6_62 : decode prog_69_method_5_code 62 = .ok (.getfield 7, 3) := by decide +kernel
theorem own_d6_65 : decode prog_69_method_5_code 65 = .ok (.imul, 1) := by decide +kernel
theorem own_d6_66 : decode prog_69_method_5_code 66 = .ok (.iconst 1, 1) := by decide +kernel
theorem own_d6_67 : decode prog_69_method_5_code 67 = .ok (.iadd, 1) := by decide +kernel
theorem own_d6_68 : decode prog_69_method_5_code 68 = .ok (.iload_n 3, 1) := by decide +kernel
theorem own_d6_69 : decode prog_69_method_5_code 69 = .ok (.iconst 1, 1) := by decide +kernel
theorem own_d6_70 : decode prog_69_method_5_code 70 = .ok (.iadd, 1) := by decide +kernel
theorem own_d6_71 : decode prog_69_method_5_code 71 = .ok (.aload_n 0, 1) := by decide +kernel
theorem own_d6_72 : decode prog_69_method_5_code 72 = .ok (.getfield 7, 3) := by decide +kernel
theorem own_d6_75 : decode prog_69_method_5_code 75 = .ok (.imul, 1) := by decide +kernel
theorem own_d6_76 : decode prog_69_method_5_code 76 = .ok (.lconst 0, 1) := by decide +kernel
theorem own_d6_77 : decode prog_69_method_5_code 77 = .ok (.invokestatic 41, 3) := by decide +kernel
theorem own_d6_80 : decode prog_69_method_5_code 80 = .ok (.aload_n 0, 1) := by decide +kernel
theorem own_d6_81 : decode prog_69_method_5_code 81 = .ok (.dup, 1) := by decide +kernel
theorem own_d6_82 : decode prog_69_method_5_code 82 = .ok (.getfield 17, 3) := by decide +kernel
theorem own_d6_85 : decode prog_69_method_5_code 85 = .ok (.iconst 1, 1) := by decide +kernel
theorem own_d6_86 : decode prog_69_method_5_code 86 = .ok (.iadd, 1) := by decide +kernel
theorem own_d6_87 : decode prog_69_method_5_code 87 = .ok (.putfield 17, 3) := by decide +kernel
theorem own_d6_90 : decode prog_69_method_5_code 90 = .ok (.iload_n 3, 1) := by decide +kernel
theorem own_d6_91 : decode prog_69_method_5_code 91 = .ok (.ireturn, 1) := by decide +kernel
theorem own_ef6 (m : MethodId) (x0 : Addr) (x1 : Int64) : entryFrame m #[(.ref x0), (.long x1)] 4 = mkF m 0 #[.val (.ref x0), .val (.long x1), .second, .unset] [] := by first | (simp [entryFrame, mkF, argsToLocals, Value.category]; done) | rfl
def own_Q6_22 (Z : State) (b5001 : Addr) (jp1x6_22 : Int64) (b7x3_12c9c5002 : Addr) (k7x3_12c9c5002 : ClassId) (b3x3_12c9c5002 : Addr) (fv0 : Int32) (k3x3_12c9c5002 : ClassId) (h0 : Heap) (n0 : Nat) (v : Option Value) (h : Heap) (L : List Loc) : Prop := Fr n0 L ∧ Keep h0 h [b7x3_12c9c5002, b3x3_12c9c5002, b5001] ∧ ((∃ k7x3_12c9c5002 : ClassId, ∃ k3x3_12c9c5002c25 : ClassId, v = some (.int (own_home jp1x6_22)) ∧ Arh Z h b7x3_12c9c5002 k7x3_12c9c5002 .boolean (8 : Int32) [((own_home jp1x6_22), (.int (1 : Int32)))] [] (.int (0 : Int32)) ∧ Arh Z h b3x3_12c9c5002 k3x3_12c9c5002c25 .long ((((8 : Int32).toInt64) * (((1 : Int32) + fv0).toInt64)).toInt32) [(((own_home jp1x6_22) * ((1 : Int32) + fv0)), (.long jp1x6_22))] [] (.long (0 : Int64)) ∧ Fld Z h b5001 own_s0 "used" "[Z" (.ref b7x3_12c9c5002) ∧ Fld Z h b5001 own_s0 "shift" "I" (.int (61 : Int32)) ∧ Fld Z h b5001 own_s0 "size" "I" (.int (1 : Int32)) ∧ Fld Z h b5001 own_s0 "rows" "[J" (.ref b3x3_12c9c5002) ∧ Fld Z h b5001 own_s0 "width" "I" (.int ((1 : Int32) + fv0)) ∧ Fld Z h b5001 own_s0 "values" own_s2 .null ∧ True))
set_option maxRecDepth 65536 in
set_option maxHeartbeats 40000000 in
theorem own_rm6_22 (l : Launch) (Z : State) (a0 : Array Value) (hw : ∀ d ∈ tables_1, d.before a0 Z = true) (ws : List Jvm.Cond) (b5001 : Addr) (jp1x6_22 : Int64) (b7x3_12c9c5002 : Addr) (k7x3_12c9c5002 : ClassId) (b3x3_12c9c5002 : Addr) (fv0 : Int32) (k3x3_12c9c5002 : ClassId) (h0 : Heap) (n0 : Nat) (Z0 : n0 ≤ h0.size) (P0 : Fld Z h0 b5001 own_s0 "used" "[Z" (.ref b7x3_12c9c5002)) (P1 : Arh Z h0 b7x3_12c9c5002 k7x3_12c9c5002 .boolean (8 : Int32) [] [] (.int (0 : Int32))) (P2 : Fld Z h0 b5001 own_s0 "shift" "I" (.int (61 : Int32))) (P3 : Exa Z h0 b5001 own_s0) (P4 : Fld Z h0 b5001 own_s0 "size" "I" (.int (0 : Int32))) (g_b7x3_12c9c5002 : n0 ≤ b7x3_12c9c5002) (P6 : Fld Z h0 b5001 own_s0 "rows" "[J" (.ref b3x3_12c9c5002)) (P7 : Exa Z h0 b7x3_12c9c5002 "[Z") (P8 : Fld Z h0 b5001 own_s0 "width" "I" (.int ((1 : Int32) + fv0))) (P9 : Arh Z h0 b3x3_12c9c5002 k3x3_12c9c5002 .long ((((8 : Int32).toInt64) * (((1 : Int32) + fv0).toInt64)).toInt32) [] [] (.long (0 : Int64))) (P10 : Exa Z h0 b3x3_12c9c5002 "[J") (R_fv0 : fv0 = (0 : Int32) ∨ fv0 = (1 : Int32) ∨ fv0 = (2 : Int32) ∨ fv0 = (3 : Int32)) (g_b3x3_12c9c5002 : n0 ≤ b3x3_12c9c5002) (g_b5001 : n0 ≤ b5001) (P14 : Fld Z h0 b5001 own_s0 "values" own_s2 .null) :
    MetFree l own_y5 (head1 (Jvm.Cond.code own_y5 prog_69_method_5_code 4 (some .int) :: ws) ({ frames := 2, cells := 0, slots := 0, locals := 31 } : Room)) (fun a U => a = #[(.ref b5001), (.long jp1x6_22)] ∧ Z.Warmed39 U.vm ∧ U.heap = h0) (fun _ _ _ _ _ => True) (fun _ U o U' => ∃ v L, o = .returned v ∧ own_Q6_22 Z b5001 jp1x6_22 b7x3_12c9c5002 k7x3_12c9c5002 b3x3_12c9c5002 fv0 k3x3_12c9c5002 h0 n0 v U'.heap L ∧ FrameEnd U o U' L ({ frames := 2, cells := 0, slots := 0, locals := 31 } : Room).cells ({ frames := 2, cells := 0, slots := 0, locals := 31 } : Room).slots) := by
  refine MetFree.of_bodySF (plainFor_of_name own_pn1) hisR ?_
  intro p e s m args below meth c s₁ Bd hml0 hP hK
  obtain ⟨rfl, hZ, hh⟩ := hP
  have hx := Bd.exec
  have hlk := Bd.notSynchronized
  have hret := Bd.returns
  have hby := Bd.bytes
  have hml : c.maxLocals = 4 := hml0
  have hown : s.vm.findClass own_s0 = some m.cls := findClass_of_methodNamed Bd.named
  have hnm := (name_of_methodNamed Bd.named Bd.method).1
  have X0 : Stand p l e ({ frames := 2, cells := 0, slots := 0, locals := 31 } : Room) s m #[(.ref b5001), (.long jp1x6_22)] below meth c s₁ [] 0 0 := Stand.of_body Bd
  have e0 : s₁.heap = h0 := by rw [← hh, Bd.state]; rfl
  have N0 := Fr.nil n0
  refine own_open (Q := own_Q6_22 Z b5001 jp1x6_22 b7x3_12c9c5002 k7x3_12c9c5002 b3x3_12c9c5002 fv0 k3x3_12c9c5002 h0 n0) (own_ef6 m b5001 jp1x6_22) ?_
  refine own_st (fun t k => XS.aloadN X0.here hx rfl (hb hby own_d6_0) rfl rfl (XS.lloadN X0.here hx rfl (hb hby own_d6_1) rfl k)) ?_
  show own_Go _ _ _ _ s₁ (mkF m 2 #[.val (.ref b5001), .val (.long jp1x6_22), .second, .unset] [(.long jp1x6_22), (.ref b5001)])
  refine own_cV (a := b5001) X0 hx hZ hown (own_w hw 39 rfl) (own_w hw 40 rfl) (own_w hw 42 rfl) (own_w hw 41 rfl) (own_w hw 2 rfl) (own_w hw 43 rfl) [(.long jp1x6_22)] [] P3 (own_rm7_23 l Z a0 hw [] b5001 jp1x6_22 b7x3_12c9c5002 k7x3_12c9c5002 h0 n0 Z0 P0 P1 P2 P3) 0 (hb hby own_d6_2) (by rw [hml]; rfl) (lenOf own_pd3 rfl) e0 rfl rfl (by show 2 * 0 + _ ≤ _; exact Nat.le_of_eq rfl) (by decide) (by decide) (by decide) (by decide) (by decide) fun v1 T1 L1 X1 hQ1 => ?_
  obtain ⟨N1q, Kq1, hL1⟩ := hQ1
  have N1 := Fr.app N0 N1q
  have K1 : Keep h0 T1.heap [b7x3_12c9c5002, b3x3_12c9c5002, b5001] := (Keep.refl h0 [b7x3_12c9c5002, b3x3_12c9c5002, b5001]).trans Kq1 all0
  have Z1 := Nat.le_trans Z0 Kq1.1
  rcases hL1 with ⟨rfl, -⟩
  · skip
    refine own_st (fun t k => XS.iconst X1.here hx rfl (hb hby own_d6_5) (XS.icmpYes X1.here hx rfl (pc0 := 6) (pc' := 11) rfl (hb hby own_d6_6) rfl (teq (by decide : (-1 : Int32) = (-1 : Int32))).1 (by decide) (by decide) k)) ?_
    show own_Go _ _ _ _ T1 (mkF m 11 #[.val (.ref b5001), .val (.long jp1x6_22), .second, .unset] [])
    refine own_st (fun t k => XS.iconst X1.here hx rfl (hb hby own_d6_11) (XS.aloadN X1.here hx rfl (hb hby own_d6_12) rfl rfl k)) ?_
    have f2 := (P4.keep Kq1 nin0)
    refine own_gF X1 hx hZ hown (own_w hw 49 rfl) Via.refl rfl f2 (hb hby own_d6_13) rfl rfl fun T3 X3 e3 => ?_
    show own_Go _ _ _ _ T3 (mkF m 16 #[.val (.ref b5001), .val (.long jp1x6_22), .second, .unset] [(.int (0 : Int32)), (.int (2 : Int32))])
    refine own_st (fun t k => XS.iconst X3.here hx rfl (hb hby own_d6_16) (XS.iadd X3.here hx rfl (hb hby own_d6_17) rfl (XS.imul X3.here hx rfl (hb hby own_d6_18) rfl k))) ?_
    show own_Go _ _ _ _ T3 (mkF m 19 #[.val (.ref b5001), .val (.long jp1x6_22), .second, .unset] [(.int ((2 : Int32) * ((0 : Int32) + (1 : Int32))))])
    refine own_st (fun t k => XS.aloadN X3.here hx rfl (hb hby own_d6_19) rfl rfl k) ?_
    have f4 := (P0.keep Kq1 nin0)
    refine own_gF X3 hx hZ hown (own_w hw 23 rfl) Via.refl e3 f4 (hb hby own_d6_20) rfl rfl fun T5 X5 e5 => ?_
    have f6 := (P1.keep Kq1 nin0)
    refine own_st (own_alenH X5 hx hZ e5 f6 (g := (mkF m 23 #[.val (.ref b5001), .val (.long jp1x6_22), .second, .unset] [(.ref b7x3_12c9c5002), (.int ((2 : Int32) * ((0 : Int32) + (1 : Int32))))])) rfl rfl (hb hby own_d6_23)) ?_
    show own_Go _ _ _ _ T5 (mkF m 24 #[.val (.ref b5001), .val (.long jp1x6_22), .second, .unset] [(.int (8 : Int32)), (.int ((2 : Int32) * ((0 : Int32) + (1 : Int32))))])
    refine own_st (fun t k => XS.icmpYes X5.here hx rfl (pc0 := 24) (pc' := 31) rfl (hb hby own_d6_24) rfl (flt (by decide : ¬ ((8 : Int32) < ((2 : Int32) * ((0 : Int32) + (1 : Int32)))))).2.2.2 (by decide) (by decide) (XS.aloadN X5.here hx rfl (hb hby own_d6_31) rfl rfl (XS.lloadN X5.here hx rfl (hb hby own_d6_32) rfl k))) ?_
    show own_Go _ _ _ _ T5 (mkF m 33 #[.val (.ref b5001), .val (.long jp1x6_22), .second, .unset] [(.long jp1x6_22), (.ref b5001)])
    have f7 := (P2.keep Kq1 nin0)
    have f8 := (P3.keep Kq1)
    refine own_cP (a := b5001) X5 hx hZ hown (own_w hw 51 rfl) (own_w hw 53 rfl) (own_w hw 1 rfl) (own_w hw 52 rfl) (own_w hw 2 rfl) (own_w hw 54 rfl) [(.long jp1x6_22)] [] f8 (own_rm9_24 l Z a0 hw [] b5001 jp1x6_22 b7x3_12c9c5002 k7x3_12c9c5002 T1.heap n0 Z1 f4 f6 f7 f8) 0 (hb hby own_d6_33) (by rw [hml]; rfl) (lenOf own_pd3 rfl) e5 rfl rfl (by show 2 * 0 + _ ≤ _; exact Nat.le_of_eq rfl) (by decide) (by decide) (by decide) (by decide) (by decide) fun v9 T9 L9 X9 hQ9 => ?_
    obtain ⟨N9q, Kq9, hL9⟩ := hQ9
    have N9 := Fr.app N1 N9q
    have K9 : Keep h0 T9.heap [b7x3_12c9c5002, b3x3_12c9c5002, b5001] := K1.trans Kq9 all0
    have Z9 := Nat.le_trans Z1 Kq9.1
    rcases hL9 with ⟨rfl, -⟩
    · skip
      refine own_st (fun t k => XS.istoreN X9.here hx rfl (hb hby own_d6_36) rfl (l' := #[.val (.ref b5001), .val (.long jp1x6_22), .second, .val (.int (own_home jp1x6_22))]) rfl (XS.aloadN X9.here hx rfl (hb hby own_d6_37) rfl rfl k)) ?_
      show own_Go _ _ _ _ T9 (mkF m 38 #[.val (.ref b5001), .val (.long jp1x6_22), .second, .val (.int (own_home jp1x6_22))] [(.ref b5001)])
      have f10 := (f4.keep Kq9 nin0)
      refine own_gF X9 hx hZ hown (own_w hw 23 rfl) Via.refl rfl f10 (hb hby own_d6_38) rfl rfl fun T11 X11 e11 => ?_
      refine own_st (fun t k => XS.iloadN X11.here hx rfl (hb hby own_d6_41) rfl (XS.iconst X11.here hx rfl (hb hby own_d6_42) k)) ?_
      show own_Go _ _ _ _ T11 (mkF m 43 #[.val (.ref b5001), .val (.long jp1x6_22), .second, .val (.int (own_home jp1x6_22))] [(.int (1 : Int32)), (.int (own_home jp1x6_22)), (.ref b7x3_12c9c5002)])
      have f12 := (f6.keep Kq9 nin0)
      obtain ⟨c13, A13, q13, S13, M13, H13, G13⟩ := f12
      obtain ⟨T13, h13, X13, e13, W13, st13⟩ := stZ X11 hx hZ e11 A13 (j := (own_home jp1x6_22)) (inb_of S13 ((by decide +kernel : ∀ x ∈ own_D8, (¬ x < 0 ∧ x < (8 : Int32))) _ (own_m8 (own_home_r jp1x6_22)) )) (g := (mkF m 43 #[.val (.ref b5001), .val (.long jp1x6_22), .second, .val (.int (own_home jp1x6_22))] [(.int (1 : Int32)), (.int (own_home jp1x6_22)), (.ref b7x3_12c9c5002)])) rfl rfl (hb hby own_d6_43)
      refine own_st st13 ?_
      have K13 : Keep h0 h13 [b7x3_12c9c5002, b3x3_12c9c5002, b5001] := K9.wr W13 (Or.inl (List.mem_of_getElem? (i := 0) rfl))
      have Z13 := Nat.le_trans Z9 (Keep.of_wr W13).1
      have N13 := Fr.snoc X13 N9 g_b7x3_12c9c5002
      have V13 : Arh Z h13 b7x3_12c9c5002 k7x3_12c9c5002 .boolean (8 : Int32) [((own_home jp1x6_22), (.int (1 : Int32)))] [] (.int (0 : Int32)) := Arh.push A13 q13 S13 M13 H13 G13 rfl W13 (inb_of S13 ((by decide +kernel : ∀ x ∈ own_D8, (¬ x < 0 ∧ x < (8 : Int32))) _ (own_m8 (own_home_r jp1x6_22)) ))
      refine own_st (fun t k => XS.aloadN X13.here hx rfl (hb hby own_d6_44) rfl rfl k) ?_
      have f14 := (((P6.keep Kq1 nin0).keep Kq9 nin0).other W13 (Or.inl (ne_exa P3 P7 (by decide))))
      refine own_gF X13 hx hZ hown (own_w hw 20 rfl) Via.refl e13 f14 (hb hby own_d6_45) rfl rfl fun T15 X15 e15 => ?_
      show own_Go _ _ _ _ T15 (mkF m 48 #[.val (.ref b5001), .val (.long jp1x6_22), .second, .val (.int (own_home jp1x6_22))] [(.ref b3x3_12c9c5002)])
      refine own_st (fun t k => XS.iloadN X15.here hx rfl (hb hby own_d6_48) rfl (XS.aloadN X15.here hx rfl (hb hby own_d6_49) rfl rfl k)) ?_
      have f16 := (((P8.keep Kq1 nin0).keep Kq9 nin0).other W13 (Or.inl (ne_exa P3 P7 (by decide))))
      refine own_gF X15 hx hZ hown (own_w hw 9 rfl) Via.refl e15 f16 (hb hby own_d6_50) rfl rfl fun T17 X17 e17 => ?_
      show own_Go _ _ _ _ T17 (mkF m 53 #[.val (.ref b5001), .val (.long jp1x6_22), .second, .val (.int (own_home jp1x6_22))] [(.int ((1 : Int32) + fv0)), (.int (own_home jp1x6_22)), (.ref b3x3_12c9c5002)])
      refine own_st (fun t k => XS.imul X17.here hx rfl (hb hby own_d6_53) rfl (XS.lloadN X17.here hx rfl (hb hby own_d6_54) rfl k)) ?_
      have f18 := (((P9.keep Kq1 nin0).keep Kq9 nin0).other W13 (ne_exa P10 P7 (by decide)))
      obtain ⟨c19, A19, q19, S19, M19, H19, G19⟩ := f18
      obtain ⟨T19, h19, X19, e19, W19, st19⟩ := stJ X17 hx hZ e17 A19 (j := ((own_home jp1x6_22) * ((1 : Int32) + fv0))) (inb_of S19 ((by decide +kernel : ∀ x ∈ own_D8, ∀ y ∈ own_D4, (¬ (x * ((1 : Int32) + y)) < 0 ∧ (x * ((1 : Int32) + y)) < ((((8 : Int32).toInt64) * (((1 : Int32) + y).toInt64)).toInt32))) _ (own_m8 (own_home_r jp1x6_22)) _ (own_m4 R_fv0) )) (g := (mkF m 55 #[.val (.ref b5001), .val (.long jp1x6_22), .second, .val (.int (own_home jp1x6_22))] [(.long jp1x6_22), (.int ((own_home jp1x6_22) * ((1 : Int32) + fv0))), (.ref b3x3_12c9c5002)])) rfl rfl (hb hby own_d6_55)
      refine own_st st19 ?_
      have K19 : Keep h0 h19 [b7x3_12c9c5002, b3x3_12c9c5002, b5001] := K13.wr W19 (Or.inl (List.mem_of_getElem? (i := 1) rfl))
      have Z19 := Nat.le_trans Z13 (Keep.of_wr W19).1
      have N19 := Fr.snoc X19 N13 g_b3x3_12c9c5002
      have V19 : Arh Z h19 b3x3_12c9c5002 k3x3_12c9c5002 .long ((((8 : Int32).toInt64) * (((1 : Int32) + fv0).toInt64)).toInt32) [(((own_home jp1x6_22) * ((1 : Int32) + fv0)), (.long jp1x6_22))] [] (.long (0 : Int64)) := Arh.push A19 q19 S19 M19 H19 G19 rfl W19 (inb_of S19 ((by decide +kernel : ∀ x ∈ own_D8, ∀ y ∈ own_D4, (¬ (x * ((1 : Int32) + y)) < 0 ∧ (x * ((1 : Int32) + y)) < ((((8 : Int32).toInt64) * (((1 : Int32) + y).toInt64)).toInt32))) _ (own_m8 (own_home_r jp1x6_22)) _ (own_m4 R_fv0) ))
      show own_Go _ _ _ _ T19 (mkF m 56 #[.val (.ref b5001), .val (.long jp1x6_22), .second, .val (.int (own_home jp1x6_22))] [])
      refine own_st (fun t k => XS.aloadN X19.here hx rfl (hb hby own_d6_56) rfl rfl k) ?_
      have f20 := (f14.other W19 (Or.inl (ne_exa P3 P10 (by decide))))
      refine own_gF X19 hx hZ hown (own_w hw 20 rfl) Via.refl e19 f20 (hb hby own_d6_57) rfl rfl fun T21 X21 e21 => ?_
      refine own_st (fun t k => XS.iloadN X21.here hx rfl (hb hby own_d6_60) rfl k) ?_
      show own_Go _ _ _ _ T21 (mkF m 61 #[.val (.ref b5001), .val (.long jp1x6_22), .second, .val (.int (own_home jp1x6_22))] [(.int (own_home jp1x6_22)), (.ref b3x3_12c9c5002)])
      refine own_st (fun t k => XS.aloadN X21.here hx rfl (hb hby own_d6_61) rfl rfl k) ?_
      have f22 := (f16.other W19 (Or.inl (ne_exa P3 P10 (by decide))))
      refine own_gF X21 hx hZ hown (own_w hw 9 rfl) Via.refl e21 f22 (hb hby own_d6_62) rfl rfl fun T23 X23 e23 => ?_
      refine own_st (fun t k => XS.imul X23.here hx rfl (hb hby own_d6_65) rfl k) ?_
      show own_Go _ _ _ _ T23 (mkF m 66 #[.val (.ref b5001), .val (.long jp1x6_22), .second, .val (.int (own_home jp1x6_22))] [(.int ((own_home jp1x6_22) * ((1 : Int32) + fv0))), (.ref b3x3_12c9c5002)])
      refine own_st (fun t k => XS.iconst X23.here hx rfl (hb hby own_d6_66) (XS.iadd X23.here hx rfl (hb hby own_d6_67) rfl (XS.iloadN X23.here hx rfl (hb hby own_d6_68) rfl k))) ?_
      show own_Go _ _ _ _ T23 (mkF m 69 #[.val (.ref b5001), .val (.long jp1x6_22), .second, .val (.int (own_home jp1x6_22))] [(.int (own_home jp1x6_22)), (.int (((own_home jp1x6_22) * ((1 : Int32) + fv0)) + (1 : Int32))), (.ref b3x3_12c9c5002)])
      refine own_st (fun t k => XS.iconst X23.here hx rfl (hb hby own_d6_69) (XS.iadd X23.here hx rfl (hb hby own_d6_70) rfl (XS.aloadN X23.here hx rfl (hb hby own_d6_71) rfl rfl k))) ?_
      show own_Go _ _ _ _ T23 (mkF m 72 #[.val (.ref b5001), .val (.long jp1x6_22), .second, .val (.int (own_home jp1x6_22))] [(.ref b5001), (.int ((own_home jp1x6_22) + (1 : Int32))), (.int (((own_home jp1x6_22) * ((1 : Int32) + fv0)) + (1 : Int32))), (.ref b3x3_12c9c5002)])
      refine own_gF X23 hx hZ hown (own_w hw 9 rfl) Via.refl e23 f22 (hb hby own_d6_72) rfl rfl fun T24 X24 e24 => ?_
      refine own_st (fun t k => XS.imul X24.here hx rfl (hb hby own_d6_75) rfl (XS.lconst X24.here hx rfl (hb hby own_d6_76) k)) ?_
      show own_Go _ _ _ _ T24 (mkF m 77 #[.val (.ref b5001), .val (.long jp1x6_22), .second, .val (.int (own_home jp1x6_22))] [(.long (0 : Int64)), (.int (((own_home jp1x6_22) + (1 : Int32)) * ((1 : Int32) + fv0))), (.int (((own_home jp1x6_22) * ((1 : Int32) + fv0)) + (1 : Int32))), (.ref b3x3_12c9c5002)])
      refine own_cS X24 hx hZ hown (own_w hw 55 rfl) (own_w hw 56 rfl) (own_w hw 57 rfl) (own_w hw 58 rfl) [(.ref b3x3_12c9c5002), (.int (((own_home jp1x6_22) * ((1 : Int32) + fv0)) + (1 : Int32))), (.int (((own_home jp1x6_22) + (1 : Int32)) * ((1 : Int32) + fv0))), (.long (0 : Int64))] [] (own_rm10_27 l Z a0 hw [] b3x3_12c9c5002 (own_home jp1x6_22) fv0 k3x3_12c9c5002 jp1x6_22 h19 n0 Z19 (own_home_r jp1x6_22) V19 R_fv0 g_b3x3_12c9c5002) 0 (hb hby own_d6_77) (by rw [hml]; rfl) (lenOf own_pd5 rfl) e24 rfl rfl (by show 2 * 0 + _ ≤ _; exact Nat.le_of_eq rfl) (by decide) (by decide) (by decide) (by decide) (by decide) fun v25 T25 L25 X25 hQ25 => ?_
      obtain ⟨N25q, Kq25, hL25⟩ := hQ25
      have N25 := Fr.app N19 N25q
      have K25 : Keep h0 T25.heap [b7x3_12c9c5002, b3x3_12c9c5002, b5001] := K19.trans Kq25 (allS (Or.inl (List.mem_of_getElem? (i := 1) rfl)) all0)
      have Z25 := Nat.le_trans Z19 Kq25.1
      rcases hL25 with ⟨k3x3_12c9c5002c25, rfl, Fc25_0_0, -⟩
      · skip
        refine own_st (fun t k => XS.aloadN X25.here hx rfl (hb hby own_d6_80) rfl rfl (XS.dup X25.here hx rfl (hb hby own_d6_81) rfl rfl k)) ?_
        show own_Go _ _ _ _ T25 (mkF m 82 #[.val (.ref b5001), .val (.long jp1x6_22), .second, .val (.int (own_home jp1x6_22))] [(.ref b5001), (.ref b5001)])
        have f26 := ((((f2.keep Kq9 nin0).other W13 (Or.inl (ne_exa P3 P7 (by decide)))).other W19 (Or.inl (ne_exa P3 P10 (by decide)))).keep Kq25 (ninS (ne_exa P3 P10 (by decide)) nin0))
        refine own_gF X25 hx hZ hown (own_w hw 49 rfl) Via.refl rfl f26 (hb hby own_d6_82) rfl rfl fun T27 X27 e27 => ?_
        refine own_st (fun t k => XS.iconst X27.here hx rfl (hb hby own_d6_85) (XS.iadd X27.here hx rfl (hb hby own_d6_86) rfl k)) ?_
        show own_Go _ _ _ _ T27 (mkF m 87 #[.val (.ref b5001), .val (.long jp1x6_22), .second, .val (.int (own_home jp1x6_22))] [(.int ((0 : Int32) + (1 : Int32))), (.ref b5001)])
        have f28 := (P3.keep K25)
        refine own_pF X27 hx hZ hown (own_w hw 49 rfl) Via.refl e27 f26 f28 (Or.inl (own_w hw 50 rfl)) (own_w hw 1 rfl) (ty := .int) (by decide) (hb hby own_d6_87) rfl rfl rfl rfl fun T29 h29 X29 e29 W29 => ?_
        have K29 : Keep h0 h29 [b7x3_12c9c5002, b3x3_12c9c5002, b5001] := K25.wr W29 (Or.inl (List.mem_of_getElem? (i := 2) rfl))
        have Z29 := Nat.le_trans Z25 (Keep.of_wr W29).1
        have N29 := Fr.snoc X29 N25 g_b5001
        have F29 : Fld Z h29 b5001 own_s0 "size" "I" (.int (1 : Int32)) := f26.same W29
        refine own_st (fun t k => XS.iloadN X29.here hx rfl (hb hby own_d6_90) rfl k) ?_
        have f30 := (((V13.other W19 (ne_exa P7 P10 (by decide))).keep Kq25 (ninS (ne_exa P7 P10 (by decide)) nin0)).other W29 (ne_exa P7 P3 (by decide)))
        have f31 := (Fc25_0_0.other W29 (ne_exa P10 P3 (by decide)))
        have f32 := ((((f10.other W13 (Or.inl (ne_exa P3 P7 (by decide)))).other W19 (Or.inl (ne_exa P3 P10 (by decide)))).keep Kq25 (ninS (ne_exa P3 P10 (by decide)) nin0)).other W29 (Or.inr (slot_ne (Or.inl (own_w hw 24 rfl)) (Or.inl (own_w hw 50 rfl)) (by decide) (t := (.array .boolean)) (t' := .int) (by decide) (by decide))))
        have f33 := (((((f7.keep Kq9 nin0).other W13 (Or.inl (ne_exa P3 P7 (by decide)))).other W19 (Or.inl (ne_exa P3 P10 (by decide)))).keep Kq25 (ninS (ne_exa P3 P10 (by decide)) nin0)).other W29 (Or.inr (slot_ne (Or.inl (own_w hw 33 rfl)) (Or.inl (own_w hw 50 rfl)) (by decide) (t := .int) (t' := .int) (by decide) (by decide))))
        have f34 := ((f20.keep Kq25 (ninS (ne_exa P3 P10 (by decide)) nin0)).other W29 (Or.inr (slot_ne (Or.inl (own_w hw 21 rfl)) (Or.inl (own_w hw 50 rfl)) (by decide) (t := (.array .long)) (t' := .int) (by decide) (by decide))))
        have f35 := ((f22.keep Kq25 (ninS (ne_exa P3 P10 (by decide)) nin0)).other W29 (Or.inr (slot_ne (Or.inr (own_w hw 10 rfl)) (Or.inl (own_w hw 50 rfl)) (by decide) (t := .int) (t' := .int) (by decide) (by decide))))
        have f36 := ((((((P14.keep Kq1 nin0).keep Kq9 nin0).other W13 (Or.inl (ne_exa P3 P7 (by decide)))).other W19 (Or.inl (ne_exa P3 P10 (by decide)))).keep Kq25 (ninS (ne_exa P3 P10 (by decide)) nin0)).other W29 (Or.inr (slot_ne (Or.inl (own_w hw 26 rfl)) (Or.inl (own_w hw 50 rfl)) (by decide) (t := (.array (.object own_s1))) (t' := .int) (by decide) (by decide))))
        exact own_retI X29 hx hlk hret (hb hby own_d6_91) (by decide) (by decide) e29 ⟨N29, K29, ⟨_, _, rfl, f30, f31, f32, f33, F29, f34, f35, f36, trivial⟩⟩
theorem own_d7_25 : decode prog_69_method_4_code 25 = .ok (.aload_n 0, 1) := by decide +kernel
theorem own_d7_26 : decode prog_69_method_4_code 26 = .ok (.getfield 28, 3) := by decide +kernel
theorem own_d7_29 : decode prog_69_method_4_code 29 = .ok (.iload 4, 2) := by decide +kernel
theorem own_d7_31 : decode prog_69_method_4_code 31 = .ok (.aload_n 0, 1) := by decide +kernel
theorem own_d7_32 : decode prog_69_method_4_code 32 = .ok (.getfield 7, 3) := by decide +kernel
theorem own_d7_35 : decode prog_69_method_4_code 35 = .ok (.imul, 1) := by decide +kernel
theorem own_d7_36 : decode prog_69_method_4_code 36 = .ok (.laload, 1) := by decide +kernel
theorem own_d7_37 : decode prog_69_method_4_code 37 = .ok (.lload_n 1, 1) := by decide +kernel
theorem own_d7_38 : decode prog_69_method_4_code 38 = .ok (.lcmp, 1) := by decide +kernel
theorem own_d7_39 : decode prog_69_method_4_code 39 = .ok (.ifCond .ne 6, 3) := by decide +kernel
theorem own_d7_42 : decode prog_69_method_4_code 42 = .ok (.iload 4, 2) := by decide +kernel
theorem own_d7_44 : decode prog_69_method_4_code 44 = .ok (.ireturn, 1) := by decide +kernel
theorem own_d7_45 : decode prog_69_method_4_code 45 = .ok (.iload 4, 2) := by decide +kernel
theorem own_d7_47 : decode prog_69_method_4_code 47 = .ok (.iconst 1, 1) := by decide +kernel
theorem own_d7_48 : decode prog_69_method_4_code 48 = .ok (.iadd, 1) := by decide +kernel
theorem own_d7_49 : decode prog_69_method_4_code 49 = .ok (.iload_n 3, 1) := by decide +kernel
theorem own_d7_50 : decode prog_69_method_4_code 50 = .ok (.iand, 1) := by decide +kernel
theorem own_d7_51 : decode prog_69_method_4_code 51 = .ok (.istore 4, 2) := by decide +kernel
theorem own_d7_53 : decode prog_69_method_4_code 53 = .ok (.goto (-38), 3) := by decide +kernel
def own_Q7_35 (Z : State) (b5001 : Addr) (jp1x7_35 : Int64) (b7x3_12c9c5002 : Addr) (k7x3_12c9c5002c5004 : ClassId) (jp0 : Int64) (b3x3_12c9c5002 : Addr) (fv0 : Int32) (k3x3_12c9c5002c25c5004 : ClassId) (h0 : Heap) (n0 : Nat) (v : Option Value) (h : Heap) (L : List Loc) : Prop := Fr n0 L ∧ Keep h0 h [] ∧ ((v = some (.int (own_home jp1x7_35)) ∧ ((own_home jp1x7_35) = (own_home jp0)) ∧ ((lcmpW jp0 jp1x7_35) = (0 : Int32)) ∧ True) ∨ (v = some (.int (-1 : Int32)) ∧ ((own_home jp1x7_35) = (own_home jp0)) ∧ (¬ ((lcmpW jp0 jp1x7_35) = (0 : Int32))) ∧ True) ∨ (v = some (.int (-1 : Int32)) ∧ (¬ ((own_home jp1x7_35) = (own_home jp0))) ∧ True))
set_option maxRecDepth 65536 in
set_option maxHeartbeats 40000000 in
theorem own_rm7_35 (l : Launch) (Z : State) (a0 : Array Value) (hw : ∀ d ∈ tables_1, d.before a0 Z = true) (ws : List Jvm.Cond) (b5001 : Addr) (jp1x7_35 : Int64) (b7x3_12c9c5002 : Addr) (k7x3_12c9c5002c5004 : ClassId) (jp0 : Int64) (b3x3_12c9c5002 : Addr) (fv0 : Int32) (k3x3_12c9c5002c25c5004 : ClassId) (h0 : Heap) (n0 : Nat) (Z0 : n0 ≤ h0.size) (P0 : Fld Z h0 b5001 own_s0 "used" "[Z" (.ref b7x3_12c9c5002)) (P1 : Arh Z h0 b7x3_12c9c5002 k7x3_12c9c5002c5004 .boolean (8 : Int32) [((own_home jp0), (.int (1 : Int32)))] [] (.int (0 : Int32))) (P2 : Fld Z h0 b5001 own_s0 "shift" "I" (.int (61 : Int32))) (P3 : Exa Z h0 b5001 own_s0) (P4 : Fld Z h0 b5001 own_s0 "rows" "[J" (.ref b3x3_12c9c5002)) (P5 : Fld Z h0 b5001 own_s0 "width" "I" (.int ((1 : Int32) + fv0))) (P6 : Arh Z h0 b3x3_12c9c5002 k3x3_12c9c5002c25c5004 .long ((((8 : Int32).toInt64) * (((1 : Int32) + fv0).toInt64)).toInt32) [(((own_home jp0) * ((1 : Int32) + fv0)), (.long jp0))] [] (.long (0 : Int64))) (R_fv0 : fv0 = (0 : Int32) ∨ fv0 = (1 : Int32) ∨ fv0 = (2 : Int32) ∨ fv0 = (3 : Int32)) :
    MetFree l own_y4 (head1 (Jvm.Cond.code own_y4 prog_69_method_4_code 5 (some .int) :: ws) ({ frames := 1, cells := 0, slots := 0, locals := 14 } : Room)) (fun a U => a = #[(.ref b5001), (.long jp1x7_35)] ∧ Z.Warmed39 U.vm ∧ U.heap = h0) (fun _ _ _ _ _ => True) (fun _ U o U' => ∃ v L, o = .returned v ∧ own_Q7_35 Z b5001 jp1x7_35 b7x3_12c9c5002 k7x3_12c9c5002c5004 jp0 b3x3_12c9c5002 fv0 k3x3_12c9c5002c25c5004 h0 n0 v U'.heap L ∧ FrameEnd U o U' L ({ frames := 1, cells := 0, slots := 0, locals := 14 } : Room).cells ({ frames := 1, cells := 0, slots := 0, locals := 14 } : Room).slots) := by
  refine MetFree.of_bodySF (plainFor_of_name own_pn1) hisR ?_
  intro p e s m args below meth c s₁ Bd hml0 hP hK
  obtain ⟨rfl, hZ, hh⟩ := hP
  have hx := Bd.exec
  have hlk := Bd.notSynchronized
  have hret := Bd.returns
  have hby := Bd.bytes
  have hml : c.maxLocals = 5 := hml0
  have hown : s.vm.findClass own_s0 = some m.cls := findClass_of_methodNamed Bd.named
  have hnm := (name_of_methodNamed Bd.named Bd.method).1
  have X0 : Stand p l e ({ frames := 1, cells := 0, slots := 0, locals := 14 } : Room) s m #[(.ref b5001), (.long jp1x7_35)] below meth c s₁ [] 0 0 := Stand.of_body Bd
  have e0 : s₁.heap = h0 := by rw [← hh, Bd.state]; rfl
  have N0 := Fr.nil n0
  refine own_open (Q := own_Q7_35 Z b5001 jp1x7_35 b7x3_12c9c5002 k7x3_12c9c5002c5004 jp0 b3x3_12c9c5002 fv0 k3x3_12c9c5002c25c5004 h0 n0) (own_ef7 m b5001 jp1x7_35) ?_
  refine own_st (fun t k => XS.aloadN X0.here hx rfl (hb hby own_d7_0) rfl rfl k) ?_
  refine own_gF X0 hx hZ hown (own_w hw 23 rfl) Via.refl e0 P0 (hb hby own_d7_1) rfl rfl fun T1 X1 e1 => ?_
  show own_Go _ _ _ _ T1 (mkF m 4 #[.val (.ref b5001), .val (.long jp1x7_35), .second, .unset, .unset] [(.ref b7x3_12c9c5002)])
  refine own_st (own_alenH X1 hx hZ e1 P1 (g := (mkF m 4 #[.val (.ref b5001), .val (.long jp1x7_35), .second, .unset, .unset] [(.ref b7x3_12c9c5002)])) rfl rfl (hb hby own_d7_4)) ?_
  refine own_st (fun t k => XS.iconst X1.here hx rfl (hb hby own_d7_5) (XS.isub X1.here hx rfl (hb hby own_d7_6) rfl k)) ?_
  show own_Go _ _ _ _ T1 (mkF m 7 #[.val (.ref b5001), .val (.long jp1x7_35), .second, .unset, .unset] [(.int ((8 : Int32) - (1 : Int32)))])
  refine own_st (fun t k => XS.istoreN X1.here hx rfl (hb hby own_d7_7) rfl (l' := #[.val (.ref b5001), .val (.long jp1x7_35), .second, .val (.int ((8 : Int32) - (1 : Int32))), .unset]) rfl (XS.aloadN X1.here hx rfl (hb hby own_d7_8) rfl rfl (XS.lloadN X1.here hx rfl (hb hby own_d7_9) rfl k))) ?_
  show own_Go _ _ _ _ T1 (mkF m 10 #[.val (.ref b5001), .val (.long jp1x7_35), .second, .val (.int ((8 : Int32) - (1 : Int32))), .unset] [(.long jp1x7_35), (.ref b5001)])
  refine own_cP (a := b5001) X1 hx hZ hown (own_w hw 44 rfl) (own_w hw 46 rfl) (own_w hw 1 rfl) (own_w hw 45 rfl) (own_w hw 2 rfl) (own_w hw 47 rfl) [(.long jp1x7_35)] [] P3 (own_rm8 l Z a0 hw [] b5001 jp1x7_35 (61 : Int32) h0 n0 Z0 P2) 0 (hb hby own_d7_10) (by rw [hml]; rfl) (lenOf own_pd3 rfl) e1 rfl rfl (by show 2 * 0 + _ ≤ _; exact Nat.le_of_eq rfl) (by decide) (by decide) (by decide) (by decide) (by decide) fun v2 T2 L2 X2 hQ2 => ?_
  obtain ⟨N2q, e2, hL2⟩ := hQ2
  have N2 := Fr.app N0 N2q
  rcases hL2 with ⟨rfl, -⟩
  · skip
    refine own_st (fun t k => XS.istore X2.here hx rfl (hb hby own_d7_13) rfl (l' := #[.val (.ref b5001), .val (.long jp1x7_35), .second, .val (.int ((8 : Int32) - (1 : Int32))), .val (.int (own_home jp1x7_35))]) rfl (XS.aloadN X2.here hx rfl (hb hby own_d7_15) rfl rfl k)) ?_
    show own_Go _ _ _ _ T2 (mkF m 16 #[.val (.ref b5001), .val (.long jp1x7_35), .second, .val (.int ((8 : Int32) - (1 : Int32))), .val (.int (own_home jp1x7_35))] [(.ref b5001)])
    refine own_gF X2 hx hZ hown (own_w hw 23 rfl) Via.refl e2 P0 (hb hby own_d7_16) rfl rfl fun T3 X3 e3 => ?_
    refine own_st (fun t k => XS.iload X3.here hx rfl (hb hby own_d7_19) rfl k) ?_
    have i4 : ¬ (own_home jp1x7_35) < 0 ∧ (own_home jp1x7_35) < (8 : Int32) := ((by decide +kernel : ∀ x ∈ own_D8, (¬ x < 0 ∧ x < (8 : Int32))) _ (own_m8 (own_home_r jp1x7_35)) )
    by_cases hc5 : (own_home jp1x7_35) = (own_home jp0)
    · skip
      refine own_st (own_baloadZH X3 hx hZ e3 P1 i4 (v := (.int (1 : Int32))) (getH_hit i4.1 hc5) (g := (mkF m 21 #[.val (.ref b5001), .val (.long jp1x7_35), .second, .val (.int ((8 : Int32) - (1 : Int32))), .val (.int (own_home jp1x7_35))] [(.int (own_home jp1x7_35)), (.ref b7x3_12c9c5002)])) rfl rfl (hb hby own_d7_21)) ?_
      show own_Go _ _ _ _ T3 (mkF m 22 #[.val (.ref b5001), .val (.long jp1x7_35), .second, .val (.int ((8 : Int32) - (1 : Int32))), .val (.int (own_home jp1x7_35))] [(.int (1 : Int32))])
      refine own_st (fun t k => XS.ifNo X3.here hx rfl (hb hby own_d7_22) rfl ((if0 _ _).trans (feq (by decide : ¬ ((1 : Int32) = (0 : Int32)))).1) (XS.aloadN X3.here hx rfl (hb hby own_d7_25) rfl rfl k)) ?_
      refine own_gF X3 hx hZ hown (own_w hw 20 rfl) Via.refl e3 P4 (hb hby own_d7_26) rfl rfl fun T6 X6 e6 => ?_
      show own_Go _ _ _ _ T6 (mkF m 29 #[.val (.ref b5001), .val (.long jp1x7_35), .second, .val (.int ((8 : Int32) - (1 : Int32))), .val (.int (own_home jp1x7_35))] [(.ref b3x3_12c9c5002)])
      refine own_st (fun t k => XS.iload X6.here hx rfl (hb hby own_d7_29) rfl (XS.aloadN X6.here hx rfl (hb hby own_d7_31) rfl rfl k)) ?_
      refine own_gF X6 hx hZ hown (own_w hw 9 rfl) Via.refl e6 P5 (hb hby own_d7_32) rfl rfl fun T7 X7 e7 => ?_
      show own_Go _ _ _ _ T7 (mkF m 35 #[.val (.ref b5001), .val (.long jp1x7_35), .second, .val (.int ((8 : Int32) - (1 : Int32))), .val (.int (own_home jp1x7_35))] [(.int ((1 : Int32) + fv0)), (.int (own_home jp1x7_35)), (.ref b3x3_12c9c5002)])
      refine own_st (fun t k => XS.imul X7.here hx rfl (hb hby own_d7_35) rfl k) ?_
      have i8 : ¬ ((own_home jp1x7_35) * ((1 : Int32) + fv0)) < 0 ∧ ((own_home jp1x7_35) * ((1 : Int32) + fv0)) < ((((8 : Int32).toInt64) * (((1 : Int32) + fv0).toInt64)).toInt32) := ((by decide +kernel : ∀ x ∈ own_D8, ∀ y ∈ own_D4, (¬ (x * ((1 : Int32) + y)) < 0 ∧ (x * ((1 : Int32) + y)) < ((((8 : Int32).toInt64) * (((1 : Int32) + y).toInt64)).toInt32))) _ (own_m8 (own_home_r jp1x7_35)) _ (own_m4 R_fv0) )
      refine own_st (own_laloadH X7 hx hZ e7 P6 i8 (v := (.long jp0)) (getH_hit i8.1 ((by decide +kernel : ∀ x ∈ own_D8, ∀ y ∈ own_D8, ∀ z ∈ own_D4, (y = x) → ((y * ((1 : Int32) + z)) = (x * ((1 : Int32) + z)))) _ (own_m8 (own_home_r jp0)) _ (own_m8 (own_home_r jp1x7_35)) _ (own_m4 R_fv0) hc5)) (g := (mkF m 36 #[.val (.ref b5001), .val (.long jp1x7_35), .second, .val (.int ((8 : Int32) - (1 : Int32))), .val (.int (own_home jp1x7_35))] [(.int ((own_home jp1x7_35) * ((1 : Int32) + fv0))), (.ref b3x3_12c9c5002)])) rfl rfl (hb hby own_d7_36)) ?_
      refine own_st (fun t k => XS.lloadN X7.here hx rfl (hb hby own_d7_37) rfl k) ?_
      show own_Go _ _ _ _ T7 (mkF m 38 #[.val (.ref b5001), .val (.long jp1x7_35), .second, .val (.int ((8 : Int32) - (1 : Int32))), .val (.int (own_home jp1x7_35))] [(.long jp1x7_35), (.long jp0)])
      refine own_st (fun t k => XS.lcmp X7.here hx rfl (hb hby own_d7_38) rfl k) ?_
      by_cases hc9 : (lcmpW jp0 jp1x7_35) = (0 : Int32)
      · skip
        refine own_st (fun t k => XS.ifNo X7.here hx rfl (hb hby own_d7_39) rfl ((if0 _ _).trans (teq hc9).2) (XS.iload X7.here hx rfl (hb hby own_d7_42) rfl k)) ?_
        show own_Go _ _ _ _ T7 (mkF m 44 #[.val (.ref b5001), .val (.long jp1x7_35), .second, .val (.int ((8 : Int32) - (1 : Int32))), .val (.int (own_home jp1x7_35))] [(.int (own_home jp1x7_35))])
        exact own_retI X7 hx hlk hret (hb hby own_d7_44) (by decide) (by decide) e7 ⟨N2, (Keep.refl h0 []), (Or.inl ⟨rfl, hc5, hc9, trivial⟩)⟩
      · skip
        refine own_st (fun t k => XS.ifYes X7.here hx rfl (pc0 := 39) (pc' := 45) rfl (hb hby own_d7_39) rfl ((if0 _ _).trans (feq hc9).2) (by decide) (by decide) (XS.iload X7.here hx rfl (hb hby own_d7_45) rfl (XS.iconst X7.here hx rfl (hb hby own_d7_47) k))) ?_
        show own_Go _ _ _ _ T7 (mkF m 48 #[.val (.ref b5001), .val (.long jp1x7_35), .second, .val (.int ((8 : Int32) - (1 : Int32))), .val (.int (own_home jp1x7_35))] [(.int (1 : Int32)), (.int (own_home jp1x7_35))])
        refine own_st (fun t k => XS.iadd X7.here hx rfl (hb hby own_d7_48) rfl (XS.iloadN X7.here hx rfl (hb hby own_d7_49) rfl (XS.iand X7.here hx rfl (hb hby own_d7_50) rfl k))) ?_
        show own_Go _ _ _ _ T7 (mkF m 51 #[.val (.ref b5001), .val (.long jp1x7_35), .second, .val (.int ((8 : Int32) - (1 : Int32))), .val (.int (own_home jp1x7_35))] [(.int (((own_home jp1x7_35) + (1 : Int32)) &&& ((8 : Int32) - (1 : Int32))))])
        refine own_st (fun t k => XS.istore X7.here hx rfl (hb hby own_d7_51) rfl (l' := #[.val (.ref b5001), .val (.long jp1x7_35), .second, .val (.int ((8 : Int32) - (1 : Int32))), .val (.int (((own_home jp1x7_35) + (1 : Int32)) &&& ((8 : Int32) - (1 : Int32))))]) rfl (XS.goto X7.here hx rfl (pc0 := 53) (pc' := 15) rfl (hb hby own_d7_53) (by decide) (by decide) (XS.aloadN X7.here hx rfl (hb hby own_d7_15) rfl rfl k))) ?_
        show own_Go _ _ _ _ T7 (mkF m 16 #[.val (.ref b5001), .val (.long jp1x7_35), .second, .val (.int ((8 : Int32) - (1 : Int32))), .val (.int (((own_home jp1x7_35) + (1 : Int32)) &&& ((8 : Int32) - (1 : Int32))))] [(.ref b5001)])
        refine own_gF X7 hx hZ hown (own_w hw 23 rfl) Via.refl e7 P0 (hb hby own_d7_16) rfl rfl fun T10 X10 e10 => ?_
        refine own_st (fun t k => XS.iload X10.here hx rfl (hb hby own_d7_19) rfl k) ?_
        have i11 : ¬ (((own_home jp1x7_35) + (1 : Int32)) &&& ((8 : Int32) - (1 : Int32))) < 0 ∧ (((own_home jp1x7_35) + (1 : Int32)) &&& ((8 : Int32) - (1 : Int32))) < (8 : Int32) := ((by decide +kernel : ∀ x ∈ own_D8, (¬ ((x + (1 : Int32)) &&& ((8 : Int32) - (1 : Int32))) < 0 ∧ ((x + (1 : Int32)) &&& ((8 : Int32) - (1 : Int32))) < (8 : Int32))) _ (own_m8 (own_home_r jp1x7_35)) )
        refine own_st (own_baloadZH X10 hx hZ e10 P1 i11 (v := (.int (0 : Int32))) (getH_miss i11.1 ((by decide +kernel : ∀ x ∈ own_D8, ∀ y ∈ own_D8, (y = x) → ¬ (((y + (1 : Int32)) &&& ((8 : Int32) - (1 : Int32))) = x)) _ (own_m8 (own_home_r jp0)) _ (own_m8 (own_home_r jp1x7_35)) hc5) (getH_all rfl _)) (g := (mkF m 21 #[.val (.ref b5001), .val (.long jp1x7_35), .second, .val (.int ((8 : Int32) - (1 : Int32))), .val (.int (((own_home jp1x7_35) + (1 : Int32)) &&& ((8 : Int32) - (1 : Int32))))] [(.int (((own_home jp1x7_35) + (1 : Int32)) &&& ((8 : Int32) - (1 : Int32)))), (.ref b7x3_12c9c5002)])) rfl rfl (hb hby own_d7_21)) ?_
        show own_Go _ _ _ _ T10 (mkF m 22 #[.val (.ref b5001), .val (.long jp1x7_35), .second, .val (.int ((8 : Int32) - (1 : Int32))), .val (.int (((own_home jp1x7_35) + (1 : Int32)) &&& ((8 : Int32) - (1 : Int32))))] [(.int (0 : Int32))])
        refine own_st (fun t k => XS.ifYes X10.here hx rfl (pc0 := 22) (pc' := 56) rfl (hb hby own_d7_22) rfl ((if0 _ _).trans (teq (by decide : (0 : Int32) = (0 : Int32))).1) (by decide) (by decide) (XS.iconst X10.here hx rfl (hb hby own_d7_56) k)) ?_
        exact own_retI X10 hx hlk hret (hb hby own_d7_57) (by decide) (by decide) e10 ⟨N2, (Keep.refl h0 []), (Or.inr (Or.inl ⟨rfl, hc5, hc9, trivial⟩))⟩
    · skip
      refine own_st (own_baloadZH X3 hx hZ e3 P1 i4 (v := (.int (0 : Int32))) (getH_miss i4.1 hc5 (getH_all rfl _)) (g := (mkF m 21 #[.val (.ref b5001), .val (.long jp1x7_35), .second, .val (.int ((8 : Int32) - (1 : Int32))), .val (.int (own_home jp1x7_35))] [(.int (own_home jp1x7_35)), (.ref b7x3_12c9c5002)])) rfl rfl (hb hby own_d7_21)) ?_
      show own_Go _ _ _ _ T3 (mkF m 22 #[.val (.ref b5001), .val (.long jp1x7_35), .second, .val (.int ((8 : Int32) - (1 : Int32))), .val (.int (own_home jp1x7_35))] [(.int (0 : Int32))])
      refine own_st (fun t k => XS.ifYes X3.here hx rfl (pc0 := 22) (pc' := 56) rfl (hb hby own_d7_22) rfl ((if0 _ _).trans (teq (by decide : (0 : Int32) = (0 : Int32))).1) (by decide) (by decide) (XS.iconst X3.here hx rfl (hb hby own_d7_56) k)) ?_
      exact own_retI X3 hx hlk hret (hb hby own_d7_57) (by decide) (by decide) e3 ⟨N2, (Keep.refl h0 []), (Or.inr (Or.inr ⟨rfl, hc5, trivial⟩))⟩
theorem own_d9_25 : decode prog_69_method_15_code 25 = .ok (.iload 4, 2) := by decide +kernel
theorem own_d9_27 : decode prog_69_method_15_code 27 = .ok (.iconst 1, 1) := by decide +kernel
theorem own_d9_28 : decode prog_69_method_15_code 28 = .ok (.iadd, 1) := by decide +kernel
theorem own_d9_29 : decode prog_69_method_15_code 29 = .ok (.iload_n 3, 1) := by decide +kernel
theorem own_d9_30 : decode prog_69_method_15_code 30 = .ok (.iand, 1) := by decide +kernel
theorem own_d9_31 : decode prog_69_method_15_code 31 = .ok (.istore 4, 2) := by decide +kernel
theorem own_d9_33 : decode prog_69_method_15_code 33 = .ok (.goto (-18), 3) := by decide +kernel
def own_Q9_36 (Z : State) (b5001 : Addr) (jp1x9_36 : Int64) (b7x3_12c9c5002 : Addr) (k7x3_12c9c5002c5004 : ClassId) (jp0 : Int64) (h0 : Heap) (n0 : Nat) (v : Option Value) (h : Heap) (L : List Loc) : Prop := Fr n0 L ∧ Keep h0 h [] ∧ ((v = some (.int (((own_home jp1x9_36) + (1 : Int32)) &&& ((8 : Int32) - (1 : Int32)))) ∧ ((own_home jp1x9_36) = (own_home jp0)) ∧ True) ∨ (v = some (.int (own_home jp1x9_36)) ∧ (¬ ((own_home jp1x9_36) = (own_home jp0))) ∧ True))
set_option maxRecDepth 65536 in
set_option maxHeartbeats 40000000 in
theorem own_rm9_36 (l : Launch) (Z : State) (a0 : Array Value) (hw : ∀ d ∈ tables_1, d.before a0 Z = true) (ws : List Jvm.Cond) (b5001 : Addr) (jp1x9_36 : Int64) (b7x3_12c9c5002 : Addr) (k7x3_12c9c5002c5004 : ClassId) (jp0 : Int64) (h0 : Heap) (n0 : Nat) (Z0 : n0 ≤ h0.size) (P0 : Fld Z h0 b5001 own_s0 "used" "[Z" (.ref b7x3_12c9c5002)) (P1 : Arh Z h0 b7x3_12c9c5002 k7x3_12c9c5002c5004 .boolean (8 : Int32) [((own_home jp0), (.int (1 : Int32)))] [] (.int (0 : Int32))) (P2 : Fld Z h0 b5001 own_s0 "shift" "I" (.int (61 : Int32))) (P3 : Exa Z h0 b5001 own_s0) :
    MetFree l own_y3 (head1 (Jvm.Cond.code own_y3 prog_69_method_15_code 5 (some .int) :: ws) ({ frames := 1, cells := 0, slots := 0, locals := 14 } : Room)) (fun a U => a = #[(.ref b5001), (.long jp1x9_36)] ∧ Z.Warmed39 U.vm ∧ U.heap = h0) (fun _ _ _ _ _ => True) (fun _ U o U' => ∃ v L, o = .returned v ∧ own_Q9_36 Z b5001 jp1x9_36 b7x3_12c9c5002 k7x3_12c9c5002c5004 jp0 h0 n0 v U'.heap L ∧ FrameEnd U o U' L ({ frames := 1, cells := 0, slots := 0, locals := 14 } : Room).cells ({ frames := 1, cells := 0, slots := 0, locals := 14 } : Room).slots) := by
  refine MetFree.of_bodySF (plainFor_of_name own_pn1) hisR ?_
  intro p e s m args below meth c s₁ Bd hml0 hP hK
  obtain ⟨rfl, hZ, hh⟩ := hP
  have hx := Bd.exec
  have hlk := Bd.notSynchronized
  have hret := Bd.returns
  have hby := Bd.bytes
  have hml : c.maxLocals = 5 := hml0
  have hown : s.vm.findClass own_s0 = some m.cls := findClass_of_methodNamed Bd.named
  have hnm := (name_of_methodNamed Bd.named Bd.method).1
  have X0 : Stand p l e ({ frames := 1, cells := 0, slots := 0, locals := 14 } : Room) s m #[(.ref b5001), (.long jp1x9_36)] below meth c s₁ [] 0 0 := Stand.of_body Bd
  have e0 : s₁.heap = h0 := by rw [← hh, Bd.state]; rfl
  have N0 := Fr.nil n0
  refine own_open (Q := own_Q9_36 Z b5001 jp1x9_36 b7x3_12c9c5002 k7x3_12c9c5002c5004 jp0 h0 n0) (own_ef9 m b5001 jp1x9_36) ?_
  refine own_st (fun t k => XS.aloadN X0.here hx rfl (hb hby own_d9_0) rfl rfl k) ?_
  refine own_gF X0 hx hZ hown (own_w hw 23 rfl) Via.refl e0 P0 (hb hby own_d9_1) rfl rfl fun T1 X1 e1 => ?_
  show own_Go _ _ _ _ T1 (mkF m 4 #[.val (.ref b5001), .val (.long jp1x9_36), .second, .unset, .unset] [(.ref b7x3_12c9c5002)])
  refine own_st (own_alenH X1 hx hZ e1 P1 (g := (mkF m 4 #[.val (.ref b5001), .val (.long jp1x9_36), .second, .unset, .unset] [(.ref b7x3_12c9c5002)])) rfl rfl (hb hby own_d9_4)) ?_
  refine own_st (fun t k => XS.iconst X1.here hx rfl (hb hby own_d9_5) (XS.isub X1.here hx rfl (hb hby own_d9_6) rfl k)) ?_
  show own_Go _ _ _ _ T1 (mkF m 7 #[.val (.ref b5001), .val (.long jp1x9_36), .second, .unset, .unset] [(.int ((8 : Int32) - (1 : Int32)))])
  refine own_st (fun t k => XS.istoreN X1.here hx rfl (hb hby own_d9_7) rfl (l' := #[.val (.ref b5001), .val (.long jp1x9_36), .second, .val (.int ((8 : Int32) - (1 : Int32))), .unset]) rfl (XS.aloadN X1.here hx rfl (hb hby own_d9_8) rfl rfl (XS.lloadN X1.here hx rfl (hb hby own_d9_9) rfl k))) ?_
  show own_Go _ _ _ _ T1 (mkF m 10 #[.val (.ref b5001), .val (.long jp1x9_36), .second, .val (.int ((8 : Int32) - (1 : Int32))), .unset] [(.long jp1x9_36), (.ref b5001)])
  refine own_cP (a := b5001) X1 hx hZ hown (own_w hw 44 rfl) (own_w hw 46 rfl) (own_w hw 1 rfl) (own_w hw 45 rfl) (own_w hw 2 rfl) (own_w hw 47 rfl) [(.long jp1x9_36)] [] P3 (own_rm8 l Z a0 hw [] b5001 jp1x9_36 (61 : Int32) h0 n0 Z0 P2) 0 (hb hby own_d9_10) (by rw [hml]; rfl) (lenOf own_pd3 rfl) e1 rfl rfl (by show 2 * 0 + _ ≤ _; exact Nat.le_of_eq rfl) (by decide) (by decide) (by decide) (by decide) (by decide) fun v2 T2 L2 X2 hQ2 => ?_
  obtain ⟨N2q, e2, hL2⟩ := hQ2
  have N2 := Fr.app N0 N2q
  rcases hL2 with ⟨rfl, -⟩
  · skip
    refine own_st (fun t k => XS.istore X2.here hx rfl (hb hby own_d9_13) rfl (l' := #[.val (.ref b5001), .val (.long jp1x9_36), .second, .val (.int ((8 : Int32) - (1 : Int32))), .val (.int (own_home jp1x9_36))]) rfl (XS.aloadN X2.here hx rfl (hb hby own_d9_15) rfl rfl k)) ?_
    show own_Go _ _ _ _ T2 (mkF m 16 #[.val (.ref b5001), .val (.long jp1x9_36), .second, .val (.int ((8 : Int32) - (1 : Int32))), .val (.int (own_home jp1x9_36))] [(.ref b5001)])
    refine own_gF X2 hx hZ hown (own_w hw 23 rfl) Via.refl e2 P0 (hb hby own_d9_16) rfl rfl fun T3 X3 e3 => ?_
    refine own_st (fun t k => XS.iload X3.here hx rfl (hb hby own_d9_19) rfl k) ?_
    have i4 : ¬ (own_home jp1x9_36) < 0 ∧ (own_home jp1x9_36) < (8 : Int32) := ((by decide +kernel : ∀ x ∈ own_D8, (¬ x < 0 ∧ x < (8 : Int32))) _ (own_m8 (own_home_r jp1x9_36)) )
    by_cases hc5 : (own_home jp1x9_36) = (own_home jp0)
    · skip
      refine own_st (own_baloadZH X3 hx hZ e3 P1 i4 (v := (.int (1 : Int32))) (getH_hit i4.1 hc5) (g := (mkF m 21 #[.val (.ref b5001), .val (.long jp1x9_36), .second, .val (.int ((8 : Int32) - (1 : Int32))), .val (.int (own_home jp1x9_36))] [(.int (own_home jp1x9_36)), (.ref b7x3_12c9c5002)])) rfl rfl (hb hby own_d9_21)) ?_
      show own_Go _ _ _ _ T3 (mkF m 22 #[.val (.ref b5001), .val (.long jp1x9_36), .second, .val (.int ((8 : Int32) - (1 : Int32))), .val (.int (own_home jp1x9_36))] [(.int (1 : Int32))])
      refine own_st (fun t k => XS.ifNo X3.here hx rfl (hb hby own_d9_22) rfl ((if0 _ _).trans (feq (by decide : ¬ ((1 : Int32) = (0 : Int32)))).1) (XS.iload X3.here hx rfl (hb hby own_d9_25) rfl (XS.iconst X3.here hx rfl (hb hby own_d9_27) k))) ?_
      show own_Go _ _ _ _ T3 (mkF m 28 #[.val (.ref b5001), .val (.long jp1x9_36), .second, .val (.int ((8 : Int32) - (1 : Int32))), .val (.int (own_home jp1x9_36))] [(.int (1 : Int32)), (.int (own_home jp1x9_36))])
      refine own_st (fun t k => XS.iadd X3.here hx rfl (hb hby own_d9_28) rfl (XS.iloadN X3.here hx rfl (hb hby own_d9_29) rfl (XS.iand X3.here hx rfl (hb hby own_d9_30) rfl k))) ?_
      show own_Go _ _ _ _ T3 (mkF m 31 #[.val (.ref b5001), .val (.long jp1x9_36), .second, .val (.int ((8 : Int32) - (1 : Int32))), .val (.int (own_home jp1x9_36))] [(.int (((own_home jp1x9_36) + (1 : Int32)) &&& ((8 : Int32) - (1 : Int32))))])
      refine own_st (fun t k => XS.istore X3.here hx rfl (hb hby own_d9_31) rfl (l' := #[.val (.ref b5001), .val (.long jp1x9_36), .second, .val (.int ((8 : Int32) - (1 : Int32))), .val (.int (((own_home jp1x9_36) + (1 : Int32)) &&& ((8 : Int32) - (1 : Int32))))]) rfl (XS.goto X3.here hx rfl (pc0 := 33) (pc' := 15) rfl (hb hby own_d9_33) (by decide) (by decide) (XS.aloadN X3.here hx rfl (hb hby own_d9_15) rfl rfl k))) ?_
      show own_Go _ _ _ _ T3 (mkF m 16 #[.val (.ref b5001), .val (.long jp1x9_36), .second, .val (.int ((8 : Int32) - (1 : Int32))), .val (.int (((own_home jp1x9_36) + (1 : Int32)) &&& ((8 : Int32) - (1 : Int32))))] [(.ref b5001)])
      refine own_gF X3 hx hZ hown (own_w hw 23 rfl) Via.refl e3 P0 (hb hby own_d9_16) rfl rfl fun T6 X6 e6 => ?_
      refine own_st (fun t k => XS.iload X6.here hx rfl (hb hby own_d9_19) rfl k) ?_
      have i7 : ¬ (((own_home jp1x9_36) + (1 : Int32)) &&& ((8 : Int32) - (1 : Int32))) < 0 ∧ (((own_home jp1x9_36) + (1 : Int32)) &&& ((8 : Int32) - (1 : Int32))) < (8 : Int32) := ((by decide +kernel : ∀ x ∈ own_D8, (¬ ((x + (1 : Int32)) &&& ((8 : Int32) - (1 : Int32))) < 0 ∧ ((x + (1 : Int32)) &&& ((8 : Int32) - (1 : Int32))) < (8 : Int32))) _ (own_m8 (own_home_r jp1x9_36)) )
      refine own_st (own_baloadZH X6 hx hZ e6 P1 i7 (v := (.int (0 : Int32))) (getH_miss i7.1 ((by decide +kernel : ∀ x ∈ own_D8, ∀ y ∈ own_D8, (y = x) → ¬ (((y + (1 : Int32)) &&& ((8 : Int32) - (1 : Int32))) = x)) _ (own_m8 (own_home_r jp0)) _ (own_m8 (own_home_r jp1x9_36)) hc5) (getH_all rfl _)) (g := (mkF m 21 #[.val (.ref b5001), .val (.long jp1x9_36), .second, .val (.int ((8 : Int32) - (1 : Int32))), .val (.int (((own_home jp1x9_36) + (1 : Int32)) &&& ((8 : Int32) - (1 : Int32))))] [(.int (((own_home jp1x9_36) + (1 : Int32)) &&& ((8 : Int32) - (1 : Int32)))), (.ref b7x3_12c9c5002)])) rfl rfl (hb hby own_d9_21)) ?_
      show own_Go _ _ _ _ T6 (mkF m 22 #[.val (.ref b5001), .val (.long jp1x9_36), .second, .val (.int ((8 : Int32) - (1 : Int32))), .val (.int (((own_home jp1x9_36) + (1 : Int32)) &&& ((8 : Int32) - (1 : Int32))))] [(.int (0 : Int32))])
      refine own_st (fun t k => XS.ifYes X6.here hx rfl (pc0 := 22) (pc' := 36) rfl (hb hby own_d9_22) rfl ((if0 _ _).trans (teq (by decide : (0 : Int32) = (0 : Int32))).1) (by decide) (by decide) (XS.iload X6.here hx rfl (hb hby own_d9_36) rfl k)) ?_
      exact own_retI X6 hx hlk hret (hb hby own_d9_38) (by decide) (by decide) e6 ⟨N2, (Keep.refl h0 []), (Or.inl ⟨rfl, hc5, trivial⟩)⟩
    · skip
      refine own_st (own_baloadZH X3 hx hZ e3 P1 i4 (v := (.int (0 : Int32))) (getH_miss i4.1 hc5 (getH_all rfl _)) (g := (mkF m 21 #[.val (.ref b5001), .val (.long jp1x9_36), .second, .val (.int ((8 : Int32) - (1 : Int32))), .val (.int (own_home jp1x9_36))] [(.int (own_home jp1x9_36)), (.ref b7x3_12c9c5002)])) rfl rfl (hb hby own_d9_21)) ?_
      show own_Go _ _ _ _ T3 (mkF m 22 #[.val (.ref b5001), .val (.long jp1x9_36), .second, .val (.int ((8 : Int32) - (1 : Int32))), .val (.int (own_home jp1x9_36))] [(.int (0 : Int32))])
      refine own_st (fun t k => XS.ifYes X3.here hx rfl (pc0 := 22) (pc' := 36) rfl (hb hby own_d9_22) rfl ((if0 _ _).trans (teq (by decide : (0 : Int32) = (0 : Int32))).1) (by decide) (by decide) (XS.iload X3.here hx rfl (hb hby own_d9_36) rfl k)) ?_
      exact own_retI X3 hx hlk hret (hb hby own_d9_38) (by decide) (by decide) e3 ⟨N2, (Keep.refl h0 []), (Or.inr ⟨rfl, hc5, trivial⟩)⟩
def own_Q10_38 (Z : State) (b3x3_12c9c5002 : Addr) (sv10_38 : Int32) (fv0 : Int32) (k3x3_12c9c5002c25c5004 : ClassId) (jp1x6_34 : Int64) (jp0 : Int64) (h0 : Heap) (n0 : Nat) (v : Option Value) (h : Heap) (L : List Loc) : Prop := Fr n0 L ∧ Keep h0 h [b3x3_12c9c5002] ∧ ((∃ k3x3_12c9c5002c25c5004 : ClassId, v = none ∧ Arh Z h b3x3_12c9c5002 k3x3_12c9c5002c25c5004 .long ((((8 : Int32).toInt64) * (((1 : Int32) + fv0).toInt64)).toInt32) [((sv10_38 * ((1 : Int32) + fv0)), (.long jp1x6_34)), (((own_home jp0) * ((1 : Int32) + fv0)), (.long jp0))] [] (.long (0 : Int64)) ∧ True))
set_option maxRecDepth 65536 in
set_option maxHeartbeats 40000000 in
theorem own_rm10_38 (l : Launch) (Z : State) (a0 : Array Value) (hw : ∀ d ∈ tables_1, d.before a0 Z = true) (ws : List Jvm.Cond) (b3x3_12c9c5002 : Addr) (sv10_38 : Int32) (fv0 : Int32) (k3x3_12c9c5002c25c5004 : ClassId) (jp1x6_34 : Int64) (jp0 : Int64) (h0 : Heap) (n0 : Nat) (Z0 : n0 ≤ h0.size) (R_sv10_38 : sv10_38 = (0 : Int32) ∨ sv10_38 = (1 : Int32) ∨ sv10_38 = (2 : Int32) ∨ sv10_38 = (3 : Int32) ∨ sv10_38 = (4 : Int32) ∨ sv10_38 = (5 : Int32) ∨ sv10_38 = (6 : Int32) ∨ sv10_38 = (7 : Int32)) (P1 : Arh Z h0 b3x3_12c9c5002 k3x3_12c9c5002c25c5004 .long ((((8 : Int32).toInt64) * (((1 : Int32) + fv0).toInt64)).toInt32) [((sv10_38 * ((1 : Int32) + fv0)), (.long jp1x6_34)), (((own_home jp0) * ((1 : Int32) + fv0)), (.long jp0))] [] (.long (0 : Int64))) (R_fv0 : fv0 = (0 : Int32) ∨ fv0 = (1 : Int32) ∨ fv0 = (2 : Int32) ∨ fv0 = (3 : Int32)) (g_b3x3_12c9c5002 : n0 ≤ b3x3_12c9c5002) :
    MetFree l own_y2 (head1 (Jvm.Cond.code own_y2 jdk_65_method_102_code 6 none :: ws) ({ frames := 1, cells := 0, slots := 0, locals := 14 } : Room)) (fun a U => a = #[(.ref b3x3_12c9c5002), (.int ((sv10_38 * ((1 : Int32) + fv0)) + (1 : Int32))), (.int ((sv10_38 + (1 : Int32)) * ((1 : Int32) + fv0))), (.long (0 : Int64))] ∧ Z.Warmed39 U.vm ∧ U.heap = h0) (fun _ _ _ _ _ => True) (fun _ U o U' => ∃ v L, o = .returned v ∧ own_Q10_38 Z b3x3_12c9c5002 sv10_38 fv0 k3x3_12c9c5002c25c5004 jp1x6_34 jp0 h0 n0 v U'.heap L ∧ FrameEnd U o U' L ({ frames := 1, cells := 0, slots := 0, locals := 14 } : Room).cells ({ frames := 1, cells := 0, slots := 0, locals := 14 } : Room).slots) := by
  refine MetFree.of_bodySF (plainFor_of_name own_pn2) hisR ?_
  intro p e s m args below meth c s₁ Bd hml0 hP hK
  obtain ⟨rfl, hZ, hh⟩ := hP
  have hx := Bd.exec
  have hlk := Bd.notSynchronized
  have hret := Bd.returns
  have hby := Bd.bytes
  have hml : c.maxLocals = 6 := hml0
  have hown : s.vm.findClass "java/util/Arrays" = some m.cls := findClass_of_methodNamed Bd.named
  have hnm := (name_of_methodNamed Bd.named Bd.method).1
  have X0 : Stand p l e ({ frames := 1, cells := 0, slots := 0, locals := 14 } : Room) s m #[(.ref b3x3_12c9c5002), (.int ((sv10_38 * ((1 : Int32) + fv0)) + (1 : Int32))), (.int ((sv10_38 + (1 : Int32)) * ((1 : Int32) + fv0))), (.long (0 : Int64))] below meth c s₁ [] 0 0 := Stand.of_body Bd
  have e0 : s₁.heap = h0 := by rw [← hh, Bd.state]; rfl
  have N0 := Fr.nil n0
  refine own_open (Q := own_Q10_38 Z b3x3_12c9c5002 sv10_38 fv0 k3x3_12c9c5002c25c5004 jp1x6_34 jp0 h0 n0) (own_ef10 m b3x3_12c9c5002 ((sv10_38 * ((1 : Int32) + fv0)) + (1 : Int32)) ((sv10_38 + (1 : Int32)) * ((1 : Int32) + fv0)) (0 : Int64)) ?_
  refine own_st (fun t k => XS.aloadN X0.here hx rfl (hb hby own_d10_0) rfl rfl k) ?_
  refine own_st (own_alenH X0 hx hZ e0 P1 (g := (mkF m 1 #[.val (.ref b3x3_12c9c5002), .val (.int ((sv10_38 * ((1 : Int32) + fv0)) + (1 : Int32))), .val (.int ((sv10_38 + (1 : Int32)) * ((1 : Int32) + fv0))), .val (.long (0 : Int64)), .second, .unset] [(.ref b3x3_12c9c5002)])) rfl rfl (hb hby own_d10_1)) ?_
  show own_Go _ _ _ _ s₁ (mkF m 2 #[.val (.ref b3x3_12c9c5002), .val (.int ((sv10_38 * ((1 : Int32) + fv0)) + (1 : Int32))), .val (.int ((sv10_38 + (1 : Int32)) * ((1 : Int32) + fv0))), .val (.long (0 : Int64)), .second, .unset] [(.int ((((8 : Int32).toInt64) * (((1 : Int32) + fv0).toInt64)).toInt32))])
  refine own_st (fun t k => XS.iloadN X0.here hx rfl (hb hby own_d10_2) rfl (XS.iloadN X0.here hx rfl (hb hby own_d10_3) rfl k)) ?_
  refine own_cS X0 hx hZ hown (own_w hw 59 rfl) (own_w hw 60 rfl) (own_w hw 57 rfl) (own_w hw 61 rfl) [(.int ((((8 : Int32).toInt64) * (((1 : Int32) + fv0).toInt64)).toInt32)), (.int ((sv10_38 * ((1 : Int32) + fv0)) + (1 : Int32))), (.int ((sv10_38 + (1 : Int32)) * ((1 : Int32) + fv0)))] [] (own_rm11_28 l Z a0 hw [] fv0 sv10_38 h0 n0 Z0 R_sv10_38 R_fv0) 0 (hb hby own_d10_4) (by rw [hml]; rfl) (lenOf own_pd4 rfl) e0 rfl rfl (by show 2 * 0 + _ ≤ _; exact Nat.le_of_eq rfl) (by decide) (by decide) (by decide) (by decide) (by decide) fun v1 T1 L1 X1 hQ1 => ?_
  obtain ⟨N1q, Kq1, hL1⟩ := hQ1
  have N1 := Fr.app N0 N1q
  have K1 : Keep h0 T1.heap [b3x3_12c9c5002] := (Keep.refl h0 [b3x3_12c9c5002]).trans Kq1 all0
  have Z1 := Nat.le_trans Z0 Kq1.1
  rcases hL1 with ⟨rfl, -⟩
  · skip
    show own_Go _ _ _ _ T1 (mkF m 7 #[.val (.ref b3x3_12c9c5002), .val (.int ((sv10_38 * ((1 : Int32) + fv0)) + (1 : Int32))), .val (.int ((sv10_38 + (1 : Int32)) * ((1 : Int32) + fv0))), .val (.long (0 : Int64)), .second, .unset] [])
    refine own_st (fun t k => XS.iloadN X1.here hx rfl (hb hby own_d10_7) rfl (XS.istore X1.here hx rfl (hb hby own_d10_8) rfl (l' := #[.val (.ref b3x3_12c9c5002), .val (.int ((sv10_38 * ((1 : Int32) + fv0)) + (1 : Int32))), .val (.int ((sv10_38 + (1 : Int32)) * ((1 : Int32) + fv0))), .val (.long (0 : Int64)), .second, .val (.int ((sv10_38 * ((1 : Int32) + fv0)) + (1 : Int32)))]) rfl (XS.iload X1.here hx rfl (hb hby own_d10_10) rfl k))) ?_
    show own_Go _ _ _ _ T1 (mkF m 12 #[.val (.ref b3x3_12c9c5002), .val (.int ((sv10_38 * ((1 : Int32) + fv0)) + (1 : Int32))), .val (.int ((sv10_38 + (1 : Int32)) * ((1 : Int32) + fv0))), .val (.long (0 : Int64)), .second, .val (.int ((sv10_38 * ((1 : Int32) + fv0)) + (1 : Int32)))] [(.int ((sv10_38 * ((1 : Int32) + fv0)) + (1 : Int32)))])
    refine own_st (fun t k => XS.iloadN X1.here hx rfl (hb hby own_d10_12) rfl k) ?_
    by_cases hc2 : ((sv10_38 * ((1 : Int32) + fv0)) + (1 : Int32)) < ((sv10_38 + (1 : Int32)) * ((1 : Int32) + fv0))
    · skip
      refine own_st (fun t k => XS.icmpNo X1.here hx rfl (hb hby own_d10_13) rfl (tlt hc2).2.1 (XS.aloadN X1.here hx rfl (hb hby own_d10_16) rfl rfl k)) ?_
      show own_Go _ _ _ _ T1 (mkF m 17 #[.val (.ref b3x3_12c9c5002), .val (.int ((sv10_38 * ((1 : Int32) + fv0)) + (1 : Int32))), .val (.int ((sv10_38 + (1 : Int32)) * ((1 : Int32) + fv0))), .val (.long (0 : Int64)), .second, .val (.int ((sv10_38 * ((1 : Int32) + fv0)) + (1 : Int32)))] [(.ref b3x3_12c9c5002)])
      refine own_st (fun t k => XS.iload X1.here hx rfl (hb hby own_d10_17) rfl (XS.lloadN X1.here hx rfl (hb hby own_d10_19) rfl k)) ?_
      have f3 := (P1.keep Kq1 nin0)
      obtain ⟨c4, A4, q4, S4, M4, H4, G4⟩ := f3
      obtain ⟨T4, h4, X4, e4, W4, st4⟩ := stJ X1 hx hZ rfl A4 (j := ((sv10_38 * ((1 : Int32) + fv0)) + (1 : Int32))) (inb_of S4 ((by decide +kernel : ∀ x ∈ own_D4, ∀ y ∈ own_D8, (((y * ((1 : Int32) + x)) + (1 : Int32)) < ((y + (1 : Int32)) * ((1 : Int32) + x))) → (¬ ((y * ((1 : Int32) + x)) + (1 : Int32)) < 0 ∧ ((y * ((1 : Int32) + x)) + (1 : Int32)) < ((((8 : Int32).toInt64) * (((1 : Int32) + x).toInt64)).toInt32))) _ (own_m4 R_fv0) _ (own_m8 R_sv10_38) hc2)) (g := (mkF m 20 #[.val (.ref b3x3_12c9c5002), .val (.int ((sv10_38 * ((1 : Int32) + fv0)) + (1 : Int32))), .val (.int ((sv10_38 + (1 : Int32)) * ((1 : Int32) + fv0))), .val (.long (0 : Int64)), .second, .val (.int ((sv10_38 * ((1 : Int32) + fv0)) + (1 : Int32)))] [(.long (0 : Int64)), (.int ((sv10_38 * ((1 : Int32) + fv0)) + (1 : Int32))), (.ref b3x3_12c9c5002)])) rfl rfl (hb hby own_d10_20)
      have i4 : ¬ ((sv10_38 * ((1 : Int32) + fv0)) + (1 : Int32)) < 0 ∧ ((sv10_38 * ((1 : Int32) + fv0)) + (1 : Int32)) < ((((8 : Int32).toInt64) * (((1 : Int32) + fv0).toInt64)).toInt32) := ((by decide +kernel : ∀ x ∈ own_D4, ∀ y ∈ own_D8, (((y * ((1 : Int32) + x)) + (1 : Int32)) < ((y + (1 : Int32)) * ((1 : Int32) + x))) → (¬ ((y * ((1 : Int32) + x)) + (1 : Int32)) < 0 ∧ ((y * ((1 : Int32) + x)) + (1 : Int32)) < ((((8 : Int32).toInt64) * (((1 : Int32) + x).toInt64)).toInt32))) _ (own_m4 R_fv0) _ (own_m8 R_sv10_38) hc2)
      refine own_st st4 ?_
      have K4 : Keep h0 h4 [b3x3_12c9c5002] := K1.wr W4 (Or.inl (List.mem_of_getElem? (i := 0) rfl))
      have Z4 := Nat.le_trans Z1 (Keep.of_wr W4).1
      have N4 := Fr.snoc X4 N1 g_b3x3_12c9c5002
      have V4 : Arh Z h4 b3x3_12c9c5002 k3x3_12c9c5002c25c5004 .long ((((8 : Int32).toInt64) * (((1 : Int32) + fv0).toInt64)).toInt32) [((sv10_38 * ((1 : Int32) + fv0)), (.long jp1x6_34)), (((own_home jp0) * ((1 : Int32) + fv0)), (.long jp0))] [] (.long (0 : Int64)) := own_again (Arh.push A4 q4 S4 M4 H4 G4 rfl W4 (inb_of S4 ((by decide +kernel : ∀ x ∈ own_D4, ∀ y ∈ own_D8, (((y * ((1 : Int32) + x)) + (1 : Int32)) < ((y + (1 : Int32)) * ((1 : Int32) + x))) → (¬ ((y * ((1 : Int32) + x)) + (1 : Int32)) < 0 ∧ ((y * ((1 : Int32) + x)) + (1 : Int32)) < ((((8 : Int32).toInt64) * (((1 : Int32) + x).toInt64)).toInt32))) _ (own_m4 R_fv0) _ (own_m8 R_sv10_38) hc2))) i4 (getH_miss i4.1 ((by decide +kernel : ∀ x ∈ own_D4, ∀ y ∈ own_D8, (((y * ((1 : Int32) + x)) + (1 : Int32)) < ((y + (1 : Int32)) * ((1 : Int32) + x))) → ¬ (((y * ((1 : Int32) + x)) + (1 : Int32)) = (y * ((1 : Int32) + x)))) _ (own_m4 R_fv0) _ (own_m8 R_sv10_38) hc2) (getH_miss i4.1 ((by decide +kernel : ∀ x ∈ own_D8, ∀ y ∈ own_D4, ∀ z ∈ own_D8, (((z * ((1 : Int32) + y)) + (1 : Int32)) < ((z + (1 : Int32)) * ((1 : Int32) + y))) → ¬ (((z * ((1 : Int32) + y)) + (1 : Int32)) = (x * ((1 : Int32) + y)))) _ (own_m8 (own_home_r jp0)) _ (own_m4 R_fv0) _ (own_m8 R_sv10_38) hc2) (getH_all rfl _)))
      show own_Go _ _ _ _ T4 (mkF m 21 #[.val (.ref b3x3_12c9c5002), .val (.int ((sv10_38 * ((1 : Int32) + fv0)) + (1 : Int32))), .val (.int ((sv10_38 + (1 : Int32)) * ((1 : Int32) + fv0))), .val (.long (0 : Int64)), .second, .val (.int ((sv10_38 * ((1 : Int32) + fv0)) + (1 : Int32)))] [])
      refine own_st (fun t k => XS.iinc X4.here hx rfl (hb hby own_d10_21) rfl (l' := #[.val (.ref b3x3_12c9c5002), .val (.int ((sv10_38 * ((1 : Int32) + fv0)) + (1 : Int32))), .val (.int ((sv10_38 + (1 : Int32)) * ((1 : Int32) + fv0))), .val (.long (0 : Int64)), .second, .val (.int (((sv10_38 * ((1 : Int32) + fv0)) + (1 : Int32)) + (1 : Int32)))]) rfl (XS.goto X4.here hx rfl (pc0 := 24) (pc' := 10) rfl (hb hby own_d10_24) (by decide) (by decide) (XS.iload X4.here hx rfl (hb hby own_d10_10) rfl k))) ?_
      show own_Go _ _ _ _ T4 (mkF m 12 #[.val (.ref b3x3_12c9c5002), .val (.int ((sv10_38 * ((1 : Int32) + fv0)) + (1 : Int32))), .val (.int ((sv10_38 + (1 : Int32)) * ((1 : Int32) + fv0))), .val (.long (0 : Int64)), .second, .val (.int (((sv10_38 * ((1 : Int32) + fv0)) + (1 : Int32)) + (1 : Int32)))] [(.int (((sv10_38 * ((1 : Int32) + fv0)) + (1 : Int32)) + (1 : Int32)))])
      refine own_st (fun t k => XS.iloadN X4.here hx rfl (hb hby own_d10_12) rfl k) ?_
      by_cases hc5 : (((sv10_38 * ((1 : Int32) + fv0)) + (1 : Int32)) + (1 : Int32)) < ((sv10_38 + (1 : Int32)) * ((1 : Int32) + fv0))
      · skip
        refine own_st (fun t k => XS.icmpNo X4.here hx rfl (hb hby own_d10_13) rfl (tlt hc5).2.1 (XS.aloadN X4.here hx rfl (hb hby own_d10_16) rfl rfl k)) ?_
        show own_Go _ _ _ _ T4 (mkF m 17 #[.val (.ref b3x3_12c9c5002), .val (.int ((sv10_38 * ((1 : Int32) + fv0)) + (1 : Int32))), .val (.int ((sv10_38 + (1 : Int32)) * ((1 : Int32) + fv0))), .val (.long (0 : Int64)), .second, .val (.int (((sv10_38 * ((1 : Int32) + fv0)) + (1 : Int32)) + (1 : Int32)))] [(.ref b3x3_12c9c5002)])
        refine own_st (fun t k => XS.iload X4.here hx rfl (hb hby own_d10_17) rfl (XS.lloadN X4.here hx rfl (hb hby own_d10_19) rfl k)) ?_
        obtain ⟨c6, A6, q6, S6, M6, H6, G6⟩ := V4
        obtain ⟨T6, h6, X6, e6, W6, st6⟩ := stJ X4 hx hZ e4 A6 (j := (((sv10_38 * ((1 : Int32) + fv0)) + (1 : Int32)) + (1 : Int32))) (inb_of S6 ((by decide +kernel : ∀ x ∈ own_D4, ∀ y ∈ own_D8, (((y * ((1 : Int32) + x)) + (1 : Int32)) < ((y + (1 : Int32)) * ((1 : Int32) + x))) → ((((y * ((1 : Int32) + x)) + (1 : Int32)) + (1 : Int32)) < ((y + (1 : Int32)) * ((1 : Int32) + x))) → (¬ (((y * ((1 : Int32) + x)) + (1 : Int32)) + (1 : Int32)) < 0 ∧ (((y * ((1 : Int32) + x)) + (1 : Int32)) + (1 : Int32)) < ((((8 : Int32).toInt64) * (((1 : Int32) + x).toInt64)).toInt32))) _ (own_m4 R_fv0) _ (own_m8 R_sv10_38) hc2 hc5)) (g := (mkF m 20 #[.val (.ref b3x3_12c9c5002), .val (.int ((sv10_38 * ((1 : Int32) + fv0)) + (1 : Int32))), .val (.int ((sv10_38 + (1 : Int32)) * ((1 : Int32) + fv0))), .val (.long (0 : Int64)), .second, .val (.int (((sv10_38 * ((1 : Int32) + fv0)) + (1 : Int32)) + (1 : Int32)))] [(.long (0 : Int64)), (.int (((sv10_38 * ((1 : Int32) + fv0)) + (1 : Int32)) + (1 : Int32))), (.ref b3x3_12c9c5002)])) rfl rfl (hb hby own_d10_20)
        have i6 : ¬ (((sv10_38 * ((1 : Int32) + fv0)) + (1 : Int32)) + (1 : Int32)) < 0 ∧ (((sv10_38 * ((1 : Int32) + fv0)) + (1 : Int32)) + (1 : Int32)) < ((((8 : Int32).toInt64) * (((1 : Int32) + fv0).toInt64)).toInt32) := ((by decide +kernel : ∀ x ∈ own_D4, ∀ y ∈ own_D8, (((y * ((1 : Int32) + x)) + (1 : Int32)) < ((y + (1 : Int32)) * ((1 : Int32) + x))) → ((((y * ((1 : Int32) + x)) + (1 : Int32)) + (1 : Int32)) < ((y + (1 : Int32)) * ((1 : Int32) + x))) → (¬ (((y * ((1 : Int32) + x)) + (1 : Int32)) + (1 : Int32)) < 0 ∧ (((y * ((1 : Int32) + x)) + (1 : Int32)) + (1 : Int32)) < ((((8 : Int32).toInt64) * (((1 : Int32) + x).toInt64)).toInt32))) _ (own_m4 R_fv0) _ (own_m8 R_sv10_38) hc2 hc5)
        refine own_st st6 ?_
        have K6 : Keep h0 h6 [b3x3_12c9c5002] := K4.wr W6 (Or.inl (List.mem_of_getElem? (i := 0) rfl))
        have Z6 := Nat.le_trans Z4 (Keep.of_wr W6).1
        have N6 := Fr.snoc X6 N4 g_b3x3_12c9c5002
        have V6 : Arh Z h6 b3x3_12c9c5002 k3x3_12c9c5002c25c5004 .long ((((8 : Int32).toInt64) * (((1 : Int32) + fv0).toInt64)).toInt32) [((sv10_38 * ((1 : Int32) + fv0)), (.long jp1x6_34)), (((own_home jp0) * ((1 : Int32) + fv0)), (.long jp0))] [] (.long (0 : Int64)) := own_again (Arh.push A6 q6 S6 M6 H6 G6 rfl W6 (inb_of S6 ((by decide +kernel : ∀ x ∈ own_D4, ∀ y ∈ own_D8, (((y * ((1 : Int32) + x)) + (1 : Int32)) < ((y + (1 : Int32)) * ((1 : Int32) + x))) → ((((y * ((1 : Int32) + x)) + (1 : Int32)) + (1 : Int32)) < ((y + (1 : Int32)) * ((1 : Int32) + x))) → (¬ (((y * ((1 : Int32) + x)) + (1 : Int32)) + (1 : Int32)) < 0 ∧ (((y * ((1 : Int32) + x)) + (1 : Int32)) + (1 : Int32)) < ((((8 : Int32).toInt64) * (((1 : Int32) + x).toInt64)).toInt32))) _ (own_m4 R_fv0) _ (own_m8 R_sv10_38) hc2 hc5))) i6 (getH_miss i6.1 ((by decide +kernel : ∀ x ∈ own_D4, ∀ y ∈ own_D8, (((y * ((1 : Int32) + x)) + (1 : Int32)) < ((y + (1 : Int32)) * ((1 : Int32) + x))) → ((((y * ((1 : Int32) + x)) + (1 : Int32)) + (1 : Int32)) < ((y + (1 : Int32)) * ((1 : Int32) + x))) → ¬ ((((y * ((1 : Int32) + x)) + (1 : Int32)) + (1 : Int32)) = (y * ((1 : Int32) + x)))) _ (own_m4 R_fv0) _ (own_m8 R_sv10_38) hc2 hc5) (getH_miss i6.1 ((by decide +kernel : ∀ x ∈ own_D8, ∀ y ∈ own_D4, ∀ z ∈ own_D8, (((z * ((1 : Int32) + y)) + (1 : Int32)) < ((z + (1 : Int32)) * ((1 : Int32) + y))) → ((((z * ((1 : Int32) + y)) + (1 : Int32)) + (1 : Int32)) < ((z + (1 : Int32)) * ((1 : Int32) + y))) → ¬ ((((z * ((1 : Int32) + y)) + (1 : Int32)) + (1 : Int32)) = (x * ((1 : Int32) + y)))) _ (own_m8 (own_home_r jp0)) _ (own_m4 R_fv0) _ (own_m8 R_sv10_38) hc2 hc5) (getH_all rfl _)))
        show own_Go _ _ _ _ T6 (mkF m 21 #[.val (.ref b3x3_12c9c5002), .val (.int ((sv10_38 * ((1 : Int32) + fv0)) + (1 : Int32))), .val (.int ((sv10_38 + (1 : Int32)) * ((1 : Int32) + fv0))), .val (.long (0 : Int64)), .second, .val (.int (((sv10_38 * ((1 : Int32) + fv0)) + (1 : Int32)) + (1 : Int32)))] [])
        refine own_st (fun t k => XS.iinc X6.here hx rfl (hb hby own_d10_21) rfl (l' := #[.val (.ref b3x3_12c9c5002), .val (.int ((sv10_38 * ((1 : Int32) + fv0)) + (1 : Int32))), .val (.int ((sv10_38 + (1 : Int32)) * ((1 : Int32) + fv0))), .val (.long (0 : Int64)), .second, .val (.int ((((sv10_38 * ((1 : Int32) + fv0)) + (1 : Int32)) + (1 : Int32)) + (1 : Int32)))]) rfl (XS.goto X6.here hx rfl (pc0 := 24) (pc' := 10) rfl (hb hby own_d10_24) (by decide) (by decide) (XS.iload X6.here hx rfl (hb hby own_d10_10) rfl k))) ?_
        show own_Go _ _ _ _ T6 (mkF m 12 #[.val (.ref b3x3_12c9c5002), .val (.int ((sv10_38 * ((1 : Int32) + fv0)) + (1 : Int32))), .val (.int ((sv10_38 + (1 : Int32)) * ((1 : Int32) + fv0))), .val (.long (0 : Int64)), .second, .val (.int ((((sv10_38 * ((1 : Int32) + fv0)) + (1 : Int32)) + (1 : Int32)) + (1 : Int32)))] [(.int ((((sv10_38 * ((1 : Int32) + fv0)) + (1 : Int32)) + (1 : Int32)) + (1 : Int32)))])
        refine own_st (fun t k => XS.iloadN X6.here hx rfl (hb hby own_d10_12) rfl k) ?_
        by_cases hc7 : ((((sv10_38 * ((1 : Int32) + fv0)) + (1 : Int32)) + (1 : Int32)) + (1 : Int32)) < ((sv10_38 + (1 : Int32)) * ((1 : Int32) + fv0))
        · skip
          refine own_st (fun t k => XS.icmpNo X6.here hx rfl (hb hby own_d10_13) rfl (tlt hc7).2.1 (XS.aloadN X6.here hx rfl (hb hby own_d10_16) rfl rfl k)) ?_
          show own_Go _ _ _ _ T6 (mkF m 17 #[.val (.ref b3x3_12c9c5002), .val (.int ((sv10_38 * ((1 : Int32) + fv0)) + (1 : Int32))), .val (.int ((sv10_38 + (1 : Int32)) * ((1 : Int32) + fv0))), .val (.long (0 : Int64)), .second, .val (.int ((((sv10_38 * ((1 : Int32) + fv0)) + (1 : Int32)) + (1 : Int32)) + (1 : Int32)))] [(.ref b3x3_12c9c5002)])
          refine own_st (fun t k => XS.iload X6.here hx rfl (hb hby own_d10_17) rfl (XS.lloadN X6.here hx rfl (hb hby own_d10_19) rfl k)) ?_
          obtain ⟨c8, A8, q8, S8, M8, H8, G8⟩ := V6
          obtain ⟨T8, h8, X8, e8, W8, st8⟩ := stJ X6 hx hZ e6 A8 (j := ((((sv10_38 * ((1 : Int32) + fv0)) + (1 : Int32)) + (1 : Int32)) + (1 : Int32))) (inb_of S8 ((by decide +kernel : ∀ x ∈ own_D4, ∀ y ∈ own_D8, (((y * ((1 : Int32) + x)) + (1 : Int32)) < ((y + (1 : Int32)) * ((1 : Int32) + x))) → ((((y * ((1 : Int32) + x)) + (1 : Int32)) + (1 : Int32)) < ((y + (1 : Int32)) * ((1 : Int32) + x))) → (((((y * ((1 : Int32) + x)) + (1 : Int32)) + (1 : Int32)) + (1 : Int32)) < ((y + (1 : Int32)) * ((1 : Int32) + x))) → (¬ ((((y * ((1 : Int32) + x)) + (1 : Int32)) + (1 : Int32)) + (1 : Int32)) < 0 ∧ ((((y * ((1 : Int32) + x)) + (1 : Int32)) + (1 : Int32)) + (1 : Int32)) < ((((8 : Int32).toInt64) * (((1 : Int32) + x).toInt64)).toInt32))) _ (own_m4 R_fv0) _ (own_m8 R_sv10_38) hc2 hc5 hc7)) (g := (mkF m 20 #[.val (.ref b3x3_12c9c5002), .val (.int ((sv10_38 * ((1 : Int32) + fv0)) + (1 : Int32))), .val (.int ((sv10_38 + (1 : Int32)) * ((1 : Int32) + fv0))), .val (.long (0 : Int64)), .second, .val (.int ((((sv10_38 * ((1 : Int32) + fv0)) + (1 : Int32)) + (1 : Int32)) + (1 : Int32)))] [(.long (0 : Int64)), (.int ((((sv10_38 * ((1 : Int32) + fv0)) + (1 : Int32)) + (1 : Int32)) + (1 : Int32))), (.ref b3x3_12c9c5002)])) rfl rfl (hb hby own_d10_20)
          have i8 : ¬ ((((sv10_38 * ((1 : Int32) + fv0)) + (1 : Int32)) + (1 : Int32)) + (1 : Int32)) < 0 ∧ ((((sv10_38 * ((1 : Int32) + fv0)) + (1 : Int32)) + (1 : Int32)) + (1 : Int32)) < ((((8 : Int32).toInt64) * (((1 : Int32) + fv0).toInt64)).toInt32) := ((by decide +kernel : ∀ x ∈ own_D4, ∀ y ∈ own_D8, (((y * ((1 : Int32) + x)) + (1 : Int32)) < ((y + (1 : Int32)) * ((1 : Int32) + x))) → ((((y * ((1 : Int32) + x)) + (1 : Int32)) + (1 : Int32)) < ((y + (1 : Int32)) * ((1 : Int32) + x))) → (((((y * ((1 : Int32) + x)) + (1 : Int32)) + (1 : Int32)) + (1 : Int32)) < ((y + (1 : Int32)) * ((1 : Int32) + x))) → (¬ ((((y * ((1 : Int32) + x)) + (1 : Int32)) + (1 : Int32)) + (1 : Int32)) < 0 ∧ ((((y * ((1 : Int32) + x)) + (1 : Int32)) + (1 : Int32)) + (1 : Int32)) < ((((8 : Int32).toInt64) * (((1 : Int32) + x).toInt64)).toInt32))) _ (own_m4 R_fv0) _ (own_m8 R_sv10_38) hc2 hc5 hc7)
          refine own_st st8 ?_
          have K8 : Keep h0 h8 [b3x3_12c9c5002] := K6.wr W8 (Or.inl (List.mem_of_getElem? (i := 0) rfl))
          have Z8 := Nat.le_trans Z6 (Keep.of_wr W8).1
          have N8 := Fr.snoc X8 N6 g_b3x3_12c9c5002
          have V8 : Arh Z h8 b3x3_12c9c5002 k3x3_12c9c5002c25c5004 .long ((((8 : Int32).toInt64) * (((1 : Int32) + fv0).toInt64)).toInt32) [((sv10_38 * ((1 : Int32) + fv0)), (.long jp1x6_34)), (((own_home jp0) * ((1 : Int32) + fv0)), (.long jp0))] [] (.long (0 : Int64)) := own_again (Arh.push A8 q8 S8 M8 H8 G8 rfl W8 (inb_of S8 ((by decide +kernel : ∀ x ∈ own_D4, ∀ y ∈ own_D8, (((y * ((1 : Int32) + x)) + (1 : Int32)) < ((y + (1 : Int32)) * ((1 : Int32) + x))) → ((((y * ((1 : Int32) + x)) + (1 : Int32)) + (1 : Int32)) < ((y + (1 : Int32)) * ((1 : Int32) + x))) → (((((y * ((1 : Int32) + x)) + (1 : Int32)) + (1 : Int32)) + (1 : Int32)) < ((y + (1 : Int32)) * ((1 : Int32) + x))) → (¬ ((((y * ((1 : Int32) + x)) + (1 : Int32)) + (1 : Int32)) + (1 : Int32)) < 0 ∧ ((((y * ((1 : Int32) + x)) + (1 : Int32)) + (1 : Int32)) + (1 : Int32)) < ((((8 : Int32).toInt64) * (((1 : Int32) + x).toInt64)).toInt32))) _ (own_m4 R_fv0) _ (own_m8 R_sv10_38) hc2 hc5 hc7))) i8 (getH_miss i8.1 ((by decide +kernel : ∀ x ∈ own_D4, ∀ y ∈ own_D8, (((y * ((1 : Int32) + x)) + (1 : Int32)) < ((y + (1 : Int32)) * ((1 : Int32) + x))) → ((((y * ((1 : Int32) + x)) + (1 : Int32)) + (1 : Int32)) < ((y + (1 : Int32)) * ((1 : Int32) + x))) → (((((y * ((1 : Int32) + x)) + (1 : Int32)) + (1 : Int32)) + (1 : Int32)) < ((y + (1 : Int32)) * ((1 : Int32) + x))) → ¬ (((((y * ((1 : Int32) + x)) + (1 : Int32)) + (1 : Int32)) + (1 : Int32)) = (y * ((1 : Int32) + x)))) _ (own_m4 R_fv0) _ (own_m8 R_sv10_38) hc2 hc5 hc7) (getH_miss i8.1 ((by decide +kernel : ∀ x ∈ own_D8, ∀ y ∈ own_D4, ∀ z ∈ own_D8, (((z * ((1 : Int32) + y)) + (1 : Int32)) < ((z + (1 : Int32)) * ((1 : Int32) + y))) → ((((z * ((1 : Int32) + y)) + (1 : Int32)) + (1 : Int32)) < ((z + (1 : Int32)) * ((1 : Int32) + y))) → (((((z * ((1 : Int32) + y)) + (1 : Int32)) + (1 : Int32)) + (1 : Int32)) < ((z + (1 : Int32)) * ((1 : Int32) + y))) → ¬ (((((z * ((1 : Int32) + y)) + (1 : Int32)) + (1 : Int32)) + (1 : Int32)) = (x * ((1 : Int32) + y)))) _ (own_m8 (own_home_r jp0)) _ (own_m4 R_fv0) _ (own_m8 R_sv10_38) hc2 hc5 hc7) (getH_all rfl _)))
          show own_Go _ _ _ _ T8 (mkF m 21 #[.val (.ref b3x3_12c9c5002), .val (.int ((sv10_38 * ((1 : Int32) + fv0)) + (1 : Int32))), .val (.int ((sv10_38 + (1 : Int32)) * ((1 : Int32) + fv0))), .val (.long (0 : Int64)), .second, .val (.int ((((sv10_38 * ((1 : Int32) + fv0)) + (1 : Int32)) + (1 : Int32)) + (1 : Int32)))] [])
          refine own_st (fun t k => XS.iinc X8.here hx rfl (hb hby own_d10_21) rfl (l' := #[.val (.ref b3x3_12c9c5002), .val (.int ((sv10_38 * ((1 : Int32) + fv0)) + (1 : Int32))), .val (.int ((sv10_38 + (1 : Int32)) * ((1 : Int32) + fv0))), .val (.long (0 : Int64)), .second, .val (.int (((((sv10_38 * ((1 : Int32) + fv0)) + (1 : Int32)) + (1 : Int32)) + (1 : Int32)) + (1 : Int32)))]) rfl (XS.goto X8.here hx rfl (pc0 := 24) (pc' := 10) rfl (hb hby own_d10_24) (by decide) (by decide) (XS.iload X8.here hx rfl (hb hby own_d10_10) rfl k))) ?_
          show own_Go _ _ _ _ T8 (mkF m 12 #[.val (.ref b3x3_12c9c5002), .val (.int ((sv10_38 * ((1 : Int32) + fv0)) + (1 : Int32))), .val (.int ((sv10_38 + (1 : Int32)) * ((1 : Int32) + fv0))), .val (.long (0 : Int64)), .second, .val (.int (((((sv10_38 * ((1 : Int32) + fv0)) + (1 : Int32)) + (1 : Int32)) + (1 : Int32)) + (1 : Int32)))] [(.int (((((sv10_38 * ((1 : Int32) + fv0)) + (1 : Int32)) + (1 : Int32)) + (1 : Int32)) + (1 : Int32)))])
          refine own_st (fun t k => XS.iloadN X8.here hx rfl (hb hby own_d10_12) rfl (XS.icmpYes X8.here hx rfl (pc0 := 13) (pc' := 27) rfl (hb hby own_d10_13) rfl (flt ((by decide +kernel : ∀ x ∈ own_D4, ∀ y ∈ own_D8, (((y * ((1 : Int32) + x)) + (1 : Int32)) < ((y + (1 : Int32)) * ((1 : Int32) + x))) → ((((y * ((1 : Int32) + x)) + (1 : Int32)) + (1 : Int32)) < ((y + (1 : Int32)) * ((1 : Int32) + x))) → (((((y * ((1 : Int32) + x)) + (1 : Int32)) + (1 : Int32)) + (1 : Int32)) < ((y + (1 : Int32)) * ((1 : Int32) + x))) → ¬ ((((((y * ((1 : Int32) + x)) + (1 : Int32)) + (1 : Int32)) + (1 : Int32)) + (1 : Int32)) < ((y + (1 : Int32)) * ((1 : Int32) + x)))) _ (own_m4 R_fv0) _ (own_m8 R_sv10_38) hc2 hc5 hc7)).2.1 (by decide) (by decide) k)) ?_
          exact own_retV X8 hx hlk hret (hb hby own_d10_27) (by decide) (by decide) e8 ⟨N8, K8, ⟨_, rfl, V8, trivial⟩⟩
        · skip
          refine own_st (fun t k => XS.icmpYes X6.here hx rfl (pc0 := 13) (pc' := 27) rfl (hb hby own_d10_13) rfl (flt hc7).2.1 (by decide) (by decide) k) ?_
          show own_Go _ _ _ _ T6 (mkF m 27 #[.val (.ref b3x3_12c9c5002), .val (.int ((sv10_38 * ((1 : Int32) + fv0)) + (1 : Int32))), .val (.int ((sv10_38 + (1 : Int32)) * ((1 : Int32) + fv0))), .val (.long (0 : Int64)), .second, .val (.int ((((sv10_38 * ((1 : Int32) + fv0)) + (1 : Int32)) + (1 : Int32)) + (1 : Int32)))] [])
          exact own_retV X6 hx hlk hret (hb hby own_d10_27) (by decide) (by decide) e6 ⟨N6, K6, ⟨_, rfl, V6, trivial⟩⟩
      · skip
        refine own_st (fun t k => XS.icmpYes X4.here hx rfl (pc0 := 13) (pc' := 27) rfl (hb hby own_d10_13) rfl (flt hc5).2.1 (by decide) (by decide) k) ?_
        exact own_retV X4 hx hlk hret (hb hby own_d10_27) (by decide) (by decide) e4 ⟨N4, K4, ⟨_, rfl, V4, trivial⟩⟩
    · skip
      refine own_st (fun t k => XS.icmpYes X1.here hx rfl (pc0 := 13) (pc' := 27) rfl (hb hby own_d10_13) rfl (flt hc2).2.1 (by decide) (by decide) k) ?_
      have f9 := (P1.keep Kq1 nin0)
      exact own_retV X1 hx hlk hret (hb hby own_d10_27) (by decide) (by decide) rfl ⟨N1, K1, ⟨_, rfl, f9, trivial⟩⟩
theorem own_d6_9 : decode prog_69_method_5_code 9 = .ok (.iconst (-1), 1) := by decide +kernel
theorem own_d6_10 : decode prog_69_method_5_code 10 = .ok (.ireturn, 1) := by decide +kernel
def own_Q6_34 (Z : State) (b5001 : Addr) (jp1x6_34 : Int64) (b7x3_12c9c5002 : Addr) (k7x3_12c9c5002c5004 : ClassId) (jp0 : Int64) (b3x3_12c9c5002 : Addr) (fv0 : Int32) (k3x3_12c9c5002c25c5004 : ClassId) (h0 : Heap) (n0 : Nat) (v : Option Value) (h : Heap) (L : List Loc) : Prop := Fr n0 L ∧ Keep h0 h [b7x3_12c9c5002, b3x3_12c9c5002, b5001] ∧ ((∃ k7x3_12c9c5002c5004 : ClassId, ∃ k3x3_12c9c5002c25c5004 : ClassId, v = some (.int (-1 : Int32)) ∧ ((own_home jp1x6_34) = (own_home jp0)) ∧ ((lcmpW jp0 jp1x6_34) = (0 : Int32)) ∧ Arh Z h b7x3_12c9c5002 k7x3_12c9c5002c5004 .boolean (8 : Int32) [((own_home jp0), (.int (1 : Int32)))] [] (.int (0 : Int32)) ∧ Arh Z h b3x3_12c9c5002 k3x3_12c9c5002c25c5004 .long ((((8 : Int32).toInt64) * (((1 : Int32) + fv0).toInt64)).toInt32) [(((own_home jp0) * ((1 : Int32) + fv0)), (.long jp0))] [] (.long (0 : Int64)) ∧ Fld Z h b5001 own_s0 "used" "[Z" (.ref b7x3_12c9c5002) ∧ Fld Z h b5001 own_s0 "shift" "I" (.int (61 : Int32)) ∧ Fld Z h b5001 own_s0 "rows" "[J" (.ref b3x3_12c9c5002) ∧ Fld Z h b5001 own_s0 "width" "I" (.int ((1 : Int32) + fv0)) ∧ Fld Z h b5001 own_s0 "values" own_s2 .null ∧ Fld Z h b5001 own_s0 "size" "I" (.int (1 : Int32)) ∧ True) ∨ (∃ k7x3_12c9c5002c5004 : ClassId, ∃ k3x3_12c9c5002c25c5004c33 : ClassId, v = some (.int (((own_home jp1x6_34) + (1 : Int32)) &&& ((8 : Int32) - (1 : Int32)))) ∧ ((own_home jp1x6_34) = (own_home jp0)) ∧ (¬ ((lcmpW jp0 jp1x6_34) = (0 : Int32))) ∧ ((own_home jp1x6_34) = (own_home jp0)) ∧ Arh Z h b7x3_12c9c5002 k7x3_12c9c5002c5004 .boolean (8 : Int32) [((((own_home jp1x6_34) + (1 : Int32)) &&& ((8 : Int32) - (1 : Int32))), (.int (1 : Int32))), ((own_home jp0), (.int (1 : Int32)))] [] (.int (0 : Int32)) ∧ Arh Z h b3x3_12c9c5002 k3x3_12c9c5002c25c5004c33 .long ((((8 : Int32).toInt64) * (((1 : Int32) + fv0).toInt64)).toInt32) [(((((own_home jp1x6_34) + (1 : Int32)) &&& ((8 : Int32) - (1 : Int32))) * ((1 : Int32) + fv0)), (.long jp1x6_34)), (((own_home jp0) * ((1 : Int32) + fv0)), (.long jp0))] [] (.long (0 : Int64)) ∧ Fld Z h b5001 own_s0 "used" "[Z" (.ref b7x3_12c9c5002) ∧ Fld Z h b5001 own_s0 "shift" "I" (.int (61 : Int32)) ∧ Fld Z h b5001 own_s0 "rows" "[J" (.ref b3x3_12c9c5002) ∧ Fld Z h b5001 own_s0 "width" "I" (.int ((1 : Int32) + fv0)) ∧ Fld Z h b5001 own_s0 "size" "I" (.int (2 : Int32)) ∧ Fld Z h b5001 own_s0 "values" own_s2 .null ∧ True) ∨ (∃ k7x3_12c9c5002c5004 : ClassId, ∃ k3x3_12c9c5002c25c5004c68 : ClassId, v = some (.int (own_home jp1x6_34)) ∧ (¬ ((own_home jp1x6_34) = (own_home jp0))) ∧ (¬ ((own_home jp1x6_34) = (own_home jp0))) ∧ Arh Z h b7x3_12c9c5002 k7x3_12c9c5002c5004 .boolean (8 : Int32) [((own_home jp1x6_34), (.int (1 : Int32))), ((own_home jp0), (.int (1 : Int32)))] [] (.int (0 : Int32)) ∧ Arh Z h b3x3_12c9c5002 k3x3_12c9c5002c25c5004c68 .long ((((8 : Int32).toInt64) * (((1 : Int32) + fv0).toInt64)).toInt32) [(((own_home jp1x6_34) * ((1 : Int32) + fv0)), (.long jp1x6_34)), (((own_home jp0) * ((1 : Int32) + fv0)), (.long jp0))] [] (.long (0 : Int64)) ∧ Fld Z h b5001 own_s0 "used" "[Z" (.ref b7x3_12c9c5002) ∧ Fld Z h b5001 own_s0 "shift" "I" (.int (61 : Int32)) ∧ Fld Z h b5001 own_s0 "rows" "[J" (.ref b3x3_12c9c5002) ∧ Fld Z h b5001 own_s0 "width" "I" (.int ((1 : Int32) + fv0)) ∧ Fld Z h b5001 own_s0 "size" "I" (.int (2 : Int32)) ∧ Fld Z h b5001 own_s0 "values" own_s2 .null ∧ True))
set_option maxRecDepth 65536 in
set_option maxHeartbeats 40000000 in
theorem own_rm6_34 (l : Launch) (Z : State) (a0 : Array Value) (hw : ∀ d ∈ tables_1, d.before a0 Z = true) (ws : List Jvm.Cond) (b5001 : Addr) (jp1x6_34 : Int64) (b7x3_12c9c5002 : Addr) (k7x3_12c9c5002c5004 : ClassId) (jp0 : Int64) (b3x3_12c9c5002 : Addr) (fv0 : Int32) (k3x3_12c9c5002c25c5004 : ClassId) (h0 : Heap) (n0 : Nat) (Z0 : n0 ≤ h0.size) (P0 : Fld Z h0 b5001 own_s0 "used" "[Z" (.ref b7x3_12c9c5002)) (P1 : Arh Z h0 b7x3_12c9c5002 k7x3_12c9c5002c5004 .boolean (8 : Int32) [((own_home jp0), (.int (1 : Int32)))] [] (.int (0 : Int32))) (P2 : Fld Z h0 b5001 own_s0 "shift" "I" (.int (61 : Int32))) (P3 : Exa Z h0 b5001 own_s0) (P4 : Fld Z h0 b5001 own_s0 "rows" "[J" (.ref b3x3_12c9c5002)) (P5 : Fld Z h0 b5001 own_s0 "width" "I" (.int ((1 : Int32) + fv0))) (P6 : Arh Z h0 b3x3_12c9c5002 k3x3_12c9c5002c25c5004 .long ((((8 : Int32).toInt64) * (((1 : Int32) + fv0).toInt64)).toInt32) [(((own_home jp0) * ((1 : Int32) + fv0)), (.long jp0))] [] (.long (0 : Int64))) (R_fv0 : fv0 = (0 : Int32) ∨ fv0 = (1 : Int32) ∨ fv0 = (2 : Int32) ∨ fv0 = (3 : Int32)) (P8 : Fld Z h0 b5001 own_s0 "values" own_s2 .null) (P9 : Fld Z h0 b5001 own_s0 "size" "I" (.int (1 : Int32))) (g_b7x3_12c9c5002 : n0 ≤ b7x3_12c9c5002) (P11 : Exa Z h0 b7x3_12c9c5002 "[Z") (P12 : Exa Z h0 b3x3_12c9c5002 "[J") (g_b3x3_12c9c5002 : n0 ≤ b3x3_12c9c5002) (g_b5001 : n0 ≤ b5001) :
    MetFree l own_y5 (head1 (Jvm.Cond.code own_y5 prog_69_method_5_code 4 (some .int) :: ws) ({ frames := 2, cells := 0, slots := 0, locals := 31 } : Room)) (fun a U => a = #[(.ref b5001), (.long jp1x6_34)] ∧ Z.Warmed39 U.vm ∧ U.heap = h0) (fun _ _ _ _ _ => True) (fun _ U o U' => ∃ v L, o = .returned v ∧ own_Q6_34 Z b5001 jp1x6_34 b7x3_12c9c5002 k7x3_12c9c5002c5004 jp0 b3x3_12c9c5002 fv0 k3x3_12c9c5002c25c5004 h0 n0 v U'.heap L ∧ FrameEnd U o U' L ({ frames := 2, cells := 0, slots := 0, locals := 31 } : Room).cells ({ frames := 2, cells := 0, slots := 0, locals := 31 } : Room).slots) := by
  refine MetFree.of_bodySF (plainFor_of_name own_pn1) hisR ?_
  intro p e s m args below meth c s₁ Bd hml0 hP hK
  obtain ⟨rfl, hZ, hh⟩ := hP
  have hx := Bd.exec
  have hlk := Bd.notSynchronized
  have hret := Bd.returns
  have hby := Bd.bytes
  have hml : c.maxLocals = 4 := hml0
  have hown : s.vm.findClass own_s0 = some m.cls := findClass_of_methodNamed Bd.named
  have hnm := (name_of_methodNamed Bd.named Bd.method).1
  have X0 : Stand p l e ({ frames := 2, cells := 0, slots := 0, locals := 31 } : Room) s m #[(.ref b5001), (.long jp1x6_34)] below meth c s₁ [] 0 0 := Stand.of_body Bd
  have e0 : s₁.heap = h0 := by rw [← hh, Bd.state]; rfl
  have N0 := Fr.nil n0
  refine own_open (Q := own_Q6_34 Z b5001 jp1x6_34 b7x3_12c9c5002 k7x3_12c9c5002c5004 jp0 b3x3_12c9c5002 fv0 k3x3_12c9c5002c25c5004 h0 n0) (own_ef6 m b5001 jp1x6_34) ?_
  refine own_st (fun t k => XS.aloadN X0.here hx rfl (hb hby own_d6_0) rfl rfl (XS.lloadN X0.here hx rfl (hb hby own_d6_1) rfl k)) ?_
  show own_Go _ _ _ _ s₁ (mkF m 2 #[.val (.ref b5001), .val (.long jp1x6_34), .second, .unset] [(.long jp1x6_34), (.ref b5001)])
  refine own_cV (a := b5001) X0 hx hZ hown (own_w hw 39 rfl) (own_w hw 40 rfl) (own_w hw 42 rfl) (own_w hw 41 rfl) (own_w hw 2 rfl) (own_w hw 43 rfl) [(.long jp1x6_34)] [] P3 (own_rm7_35 l Z a0 hw [] b5001 jp1x6_34 b7x3_12c9c5002 k7x3_12c9c5002c5004 jp0 b3x3_12c9c5002 fv0 k3x3_12c9c5002c25c5004 h0 n0 Z0 P0 P1 P2 P3 P4 P5 P6 R_fv0) 0 (hb hby own_d6_2) (by rw [hml]; rfl) (lenOf own_pd3 rfl) e0 rfl rfl (by show 2 * 0 + _ ≤ _; exact Nat.le_of_eq rfl) (by decide) (by decide) (by decide) (by decide) (by decide) fun v1 T1 L1 X1 hQ1 => ?_
  obtain ⟨N1q, Kq1, hL1⟩ := hQ1
  have N1 := Fr.app N0 N1q
  have K1 : Keep h0 T1.heap [b7x3_12c9c5002, b3x3_12c9c5002, b5001] := (Keep.refl h0 [b7x3_12c9c5002, b3x3_12c9c5002, b5001]).trans Kq1 all0
  have Z1 := Nat.le_trans Z0 Kq1.1
  rcases hL1 with ⟨rfl, hq1_0_0, hq1_0_1, -⟩ | ⟨rfl, hq1_1_0, hq1_1_1, -⟩ | ⟨rfl, hq1_2_0, -⟩
  · skip
    refine own_st (fun t k => XS.iconst X1.here hx rfl (hb hby own_d6_5) (XS.icmpNo X1.here hx rfl (hb hby own_d6_6) rfl (feq ((by decide +kernel : ∀ x ∈ own_D8, ¬ (x = (-1 : Int32))) _ (own_m8 (own_home_r jp1x6_34)) )).1 k)) ?_
    show own_Go _ _ _ _ T1 (mkF m 9 #[.val (.ref b5001), .val (.long jp1x6_34), .second, .unset] [])
    refine own_st (fun t k => XS.iconst X1.here hx rfl (hb hby own_d6_9) k) ?_
    have f2 := (P1.keep Kq1 nin0)
    have f3 := (P6.keep Kq1 nin0)
    have f4 := (P0.keep Kq1 nin0)
    have f5 := (P2.keep Kq1 nin0)
    have f6 := (P4.keep Kq1 nin0)
    have f7 := (P5.keep Kq1 nin0)
    have f8 := (P8.keep Kq1 nin0)
    have f9 := (P9.keep Kq1 nin0)
    exact own_retI X1 hx hlk hret (hb hby own_d6_10) (by decide) (by decide) rfl ⟨N1, K1, (Or.inl ⟨_, _, rfl, hq1_0_0, hq1_0_1, f2, f3, f4, f5, f6, f7, f8, f9, trivial⟩)⟩
  · skip
    refine own_st (fun t k => XS.iconst X1.here hx rfl (hb hby own_d6_5) k) ?_
    show own_Go _ _ _ _ T1 (mkF m 6 #[.val (.ref b5001), .val (.long jp1x6_34), .second, .unset] [(.int (-1 : Int32)), (.int (-1 : Int32))])
    refine own_st (fun t k => XS.icmpYes X1.here hx rfl (pc0 := 6) (pc' := 11) rfl (hb hby own_d6_6) rfl (teq (by decide : (-1 : Int32) = (-1 : Int32))).1 (by decide) (by decide) (XS.iconst X1.here hx rfl (hb hby own_d6_11) (XS.aloadN X1.here hx rfl (hb hby own_d6_12) rfl rfl k))) ?_
    show own_Go _ _ _ _ T1 (mkF m 13 #[.val (.ref b5001), .val (.long jp1x6_34), .second, .unset] [(.ref b5001), (.int (2 : Int32))])
    have f10 := (P9.keep Kq1 nin0)
    refine own_gF X1 hx hZ hown (own_w hw 49 rfl) Via.refl rfl f10 (hb hby own_d6_13) rfl rfl fun T11 X11 e11 => ?_
    refine own_st (fun t k => XS.iconst X11.here hx rfl (hb hby own_d6_16) (XS.iadd X11.here hx rfl (hb hby own_d6_17) rfl k)) ?_
    show own_Go _ _ _ _ T11 (mkF m 18 #[.val (.ref b5001), .val (.long jp1x6_34), .second, .unset] [(.int ((1 : Int32) + (1 : Int32))), (.int (2 : Int32))])
    refine own_st (fun t k => XS.imul X11.here hx rfl (hb hby own_d6_18) rfl (XS.aloadN X11.here hx rfl (hb hby own_d6_19) rfl rfl k)) ?_
    have f12 := (P0.keep Kq1 nin0)
    refine own_gF X11 hx hZ hown (own_w hw 23 rfl) Via.refl e11 f12 (hb hby own_d6_20) rfl rfl fun T13 X13 e13 => ?_
    show own_Go _ _ _ _ T13 (mkF m 23 #[.val (.ref b5001), .val (.long jp1x6_34), .second, .unset] [(.ref b7x3_12c9c5002), (.int ((2 : Int32) * ((1 : Int32) + (1 : Int32))))])
    have f14 := (P1.keep Kq1 nin0)
    refine own_st (own_alenH X13 hx hZ e13 f14 (g := (mkF m 23 #[.val (.ref b5001), .val (.long jp1x6_34), .second, .unset] [(.ref b7x3_12c9c5002), (.int ((2 : Int32) * ((1 : Int32) + (1 : Int32))))])) rfl rfl (hb hby own_d6_23)) ?_
    refine own_st (fun t k => XS.icmpYes X13.here hx rfl (pc0 := 24) (pc' := 31) rfl (hb hby own_d6_24) rfl (flt (by decide : ¬ ((8 : Int32) < ((2 : Int32) * ((1 : Int32) + (1 : Int32)))))).2.2.2 (by decide) (by decide) (XS.aloadN X13.here hx rfl (hb hby own_d6_31) rfl rfl k)) ?_
    show own_Go _ _ _ _ T13 (mkF m 32 #[.val (.ref b5001), .val (.long jp1x6_34), .second, .unset] [(.ref b5001)])
    refine own_st (fun t k => XS.lloadN X13.here hx rfl (hb hby own_d6_32) rfl k) ?_
    have f15 := (P2.keep Kq1 nin0)
    have f16 := (P3.keep Kq1)
    refine own_cP (a := b5001) X13 hx hZ hown (own_w hw 51 rfl) (own_w hw 53 rfl) (own_w hw 1 rfl) (own_w hw 52 rfl) (own_w hw 2 rfl) (own_w hw 54 rfl) [(.long jp1x6_34)] [] f16 (own_rm9_36 l Z a0 hw [] b5001 jp1x6_34 b7x3_12c9c5002 k7x3_12c9c5002c5004 jp0 T1.heap n0 Z1 f12 f14 f15 f16) 0 (hb hby own_d6_33) (by rw [hml]; rfl) (lenOf own_pd3 rfl) e13 rfl rfl (by show 2 * 0 + _ ≤ _; exact Nat.le_of_eq rfl) (by decide) (by decide) (by decide) (by decide) (by decide) fun v17 T17 L17 X17 hQ17 => ?_
    obtain ⟨N17q, Kq17, hL17⟩ := hQ17
    have N17 := Fr.app N1 N17q
    have K17 : Keep h0 T17.heap [b7x3_12c9c5002, b3x3_12c9c5002, b5001] := K1.trans Kq17 all0
    have Z17 := Nat.le_trans Z1 Kq17.1
    rcases hL17 with ⟨rfl, hq17_0_0, -⟩ | ⟨rfl, hq17_1_0, -⟩
    · skip
      refine own_st (fun t k => XS.istoreN X17.here hx rfl (hb hby own_d6_36) rfl (l' := #[.val (.ref b5001), .val (.long jp1x6_34), .second, .val (.int (((own_home jp1x6_34) + (1 : Int32)) &&& ((8 : Int32) - (1 : Int32))))]) rfl k) ?_
      show own_Go _ _ _ _ T17 (mkF m 37 #[.val (.ref b5001), .val (.long jp1x6_34), .second, .val (.int (((own_home jp1x6_34) + (1 : Int32)) &&& ((8 : Int32) - (1 : Int32))))] [])
      refine own_st (fun t k => XS.aloadN X17.here hx rfl (hb hby own_d6_37) rfl rfl k) ?_
      have f18 := (f12.keep Kq17 nin0)
      refine own_gF X17 hx hZ hown (own_w hw 23 rfl) Via.refl rfl f18 (hb hby own_d6_38) rfl rfl fun T19 X19 e19 => ?_
      refine own_st (fun t k => XS.iloadN X19.here hx rfl (hb hby own_d6_41) rfl k) ?_
      show own_Go _ _ _ _ T19 (mkF m 42 #[.val (.ref b5001), .val (.long jp1x6_34), .second, .val (.int (((own_home jp1x6_34) + (1 : Int32)) &&& ((8 : Int32) - (1 : Int32))))] [(.int (((own_home jp1x6_34) + (1 : Int32)) &&& ((8 : Int32) - (1 : Int32)))), (.ref b7x3_12c9c5002)])
      refine own_st (fun t k => XS.iconst X19.here hx rfl (hb hby own_d6_42) k) ?_
      have f20 := (f14.keep Kq17 nin0)
      obtain ⟨c21, A21, q21, S21, M21, H21, G21⟩ := f20
      obtain ⟨T21, h21, X21, e21, W21, st21⟩ := stZ X19 hx hZ e19 A21 (j := (((own_home jp1x6_34) + (1 : Int32)) &&& ((8 : Int32) - (1 : Int32)))) (inb_of S21 ((by decide +kernel : ∀ x ∈ own_D8, (¬ ((x + (1 : Int32)) &&& ((8 : Int32) - (1 : Int32))) < 0 ∧ ((x + (1 : Int32)) &&& ((8 : Int32) - (1 : Int32))) < (8 : Int32))) _ (own_m8 (own_home_r jp1x6_34)) )) (g := (mkF m 43 #[.val (.ref b5001), .val (.long jp1x6_34), .second, .val (.int (((own_home jp1x6_34) + (1 : Int32)) &&& ((8 : Int32) - (1 : Int32))))] [(.int (1 : Int32)), (.int (((own_home jp1x6_34) + (1 : Int32)) &&& ((8 : Int32) - (1 : Int32)))), (.ref b7x3_12c9c5002)])) rfl rfl (hb hby own_d6_43)
      refine own_st st21 ?_
      have K21 : Keep h0 h21 [b7x3_12c9c5002, b3x3_12c9c5002, b5001] := K17.wr W21 (Or.inl (List.mem_of_getElem? (i := 0) rfl))
      have Z21 := Nat.le_trans Z17 (Keep.of_wr W21).1
      have N21 := Fr.snoc X21 N17 g_b7x3_12c9c5002
      have V21 : Arh Z h21 b7x3_12c9c5002 k7x3_12c9c5002c5004 .boolean (8 : Int32) [((((own_home jp1x6_34) + (1 : Int32)) &&& ((8 : Int32) - (1 : Int32))), (.int (1 : Int32))), ((own_home jp0), (.int (1 : Int32)))] [] (.int (0 : Int32)) := Arh.push A21 q21 S21 M21 H21 G21 rfl W21 (inb_of S21 ((by decide +kernel : ∀ x ∈ own_D8, (¬ ((x + (1 : Int32)) &&& ((8 : Int32) - (1 : Int32))) < 0 ∧ ((x + (1 : Int32)) &&& ((8 : Int32) - (1 : Int32))) < (8 : Int32))) _ (own_m8 (own_home_r jp1x6_34)) ))
      refine own_st (fun t k => XS.aloadN X21.here hx rfl (hb hby own_d6_44) rfl rfl k) ?_
      show own_Go _ _ _ _ T21 (mkF m 45 #[.val (.ref b5001), .val (.long jp1x6_34), .second, .val (.int (((own_home jp1x6_34) + (1 : Int32)) &&& ((8 : Int32) - (1 : Int32))))] [(.ref b5001)])
      have f22 := (((P4.keep Kq1 nin0).keep Kq17 nin0).other W21 (Or.inl (ne_exa P3 P11 (by decide))))
      refine own_gF X21 hx hZ hown (own_w hw 20 rfl) Via.refl e21 f22 (hb hby own_d6_45) rfl rfl fun T23 X23 e23 => ?_
      refine own_st (fun t k => XS.iloadN X23.here hx rfl (hb hby own_d6_48) rfl (XS.aloadN X23.here hx rfl (hb hby own_d6_49) rfl rfl k)) ?_
      show own_Go _ _ _ _ T23 (mkF m 50 #[.val (.ref b5001), .val (.long jp1x6_34), .second, .val (.int (((own_home jp1x6_34) + (1 : Int32)) &&& ((8 : Int32) - (1 : Int32))))] [(.ref b5001), (.int (((own_home jp1x6_34) + (1 : Int32)) &&& ((8 : Int32) - (1 : Int32)))), (.ref b3x3_12c9c5002)])
      have f24 := (((P5.keep Kq1 nin0).keep Kq17 nin0).other W21 (Or.inl (ne_exa P3 P11 (by decide))))
      refine own_gF X23 hx hZ hown (own_w hw 9 rfl) Via.refl e23 f24 (hb hby own_d6_50) rfl rfl fun T25 X25 e25 => ?_
      refine own_st (fun t k => XS.imul X25.here hx rfl (hb hby own_d6_53) rfl (XS.lloadN X25.here hx rfl (hb hby own_d6_54) rfl k)) ?_
      show own_Go _ _ _ _ T25 (mkF m 55 #[.val (.ref b5001), .val (.long jp1x6_34), .second, .val (.int (((own_home jp1x6_34) + (1 : Int32)) &&& ((8 : Int32) - (1 : Int32))))] [(.long jp1x6_34), (.int ((((own_home jp1x6_34) + (1 : Int32)) &&& ((8 : Int32) - (1 : Int32))) * ((1 : Int32) + fv0))), (.ref b3x3_12c9c5002)])
      have f26 := (((P6.keep Kq1 nin0).keep Kq17 nin0).other W21 (ne_exa P12 P11 (by decide)))
      obtain ⟨c27, A27, q27, S27, M27, H27, G27⟩ := f26
      obtain ⟨T27, h27, X27, e27, W27, st27⟩ := stJ X25 hx hZ e25 A27 (j := ((((own_home jp1x6_34) + (1 : Int32)) &&& ((8 : Int32) - (1 : Int32))) * ((1 : Int32) + fv0))) (inb_of S27 ((by decide +kernel : ∀ x ∈ own_D8, ∀ y ∈ own_D4, (¬ (((x + (1 : Int32)) &&& ((8 : Int32) - (1 : Int32))) * ((1 : Int32) + y)) < 0 ∧ (((x + (1 : Int32)) &&& ((8 : Int32) - (1 : Int32))) * ((1 : Int32) + y)) < ((((8 : Int32).toInt64) * (((1 : Int32) + y).toInt64)).toInt32))) _ (own_m8 (own_home_r jp1x6_34)) _ (own_m4 R_fv0) )) (g := (mkF m 55 #[.val (.ref b5001), .val (.long jp1x6_34), .second, .val (.int (((own_home jp1x6_34) + (1 : Int32)) &&& ((8 : Int32) - (1 : Int32))))] [(.long jp1x6_34), (.int ((((own_home jp1x6_34) + (1 : Int32)) &&& ((8 : Int32) - (1 : Int32))) * ((1 : Int32) + fv0))), (.ref b3x3_12c9c5002)])) rfl rfl (hb hby own_d6_55)
      refine own_st st27 ?_
      have K27 : Keep h0 h27 [b7x3_12c9c5002, b3x3_12c9c5002, b5001] := K21.wr W27 (Or.inl (List.mem_of_getElem? (i := 1) rfl))
      have Z27 := Nat.le_trans Z21 (Keep.of_wr W27).1
      have N27 := Fr.snoc X27 N21 g_b3x3_12c9c5002
      have V27 : Arh Z h27 b3x3_12c9c5002 k3x3_12c9c5002c25c5004 .long ((((8 : Int32).toInt64) * (((1 : Int32) + fv0).toInt64)).toInt32) [(((((own_home jp1x6_34) + (1 : Int32)) &&& ((8 : Int32) - (1 : Int32))) * ((1 : Int32) + fv0)), (.long jp1x6_34)), (((own_home jp0) * ((1 : Int32) + fv0)), (.long jp0))] [] (.long (0 : Int64)) := Arh.push A27 q27 S27 M27 H27 G27 rfl W27 (inb_of S27 ((by decide +kernel : ∀ x ∈ own_D8, ∀ y ∈ own_D4, (¬ (((x + (1 : Int32)) &&& ((8 : Int32) - (1 : Int32))) * ((1 : Int32) + y)) < 0 ∧ (((x + (1 : Int32)) &&& ((8 : Int32) - (1 : Int32))) * ((1 : Int32) + y)) < ((((8 : Int32).toInt64) * (((1 : Int32) + y).toInt64)).toInt32))) _ (own_m8 (own_home_r jp1x6_34)) _ (own_m4 R_fv0) ))
      refine own_st (fun t k => XS.aloadN X27.here hx rfl (hb hby own_d6_56) rfl rfl k) ?_
      have f28 := (f22.other W27 (Or.inl (ne_exa P3 P12 (by decide))))
      refine own_gF X27 hx hZ hown (own_w hw 20 rfl) Via.refl e27 f28 (hb hby own_d6_57) rfl rfl fun T29 X29 e29 => ?_
      show own_Go _ _ _ _ T29 (mkF m 60 #[.val (.ref b5001), .val (.long jp1x6_34), .second, .val (.int (((own_home jp1x6_34) + (1 : Int32)) &&& ((8 : Int32) - (1 : Int32))))] [(.ref b3x3_12c9c5002)])
      refine own_st (fun t k => XS.iloadN X29.here hx rfl (hb hby own_d6_60) rfl (XS.aloadN X29.here hx rfl (hb hby own_d6_61) rfl rfl k)) ?_
      have f30 := (f24.other W27 (Or.inl (ne_exa P3 P12 (by decide))))
      refine own_gF X29 hx hZ hown (own_w hw 9 rfl) Via.refl e29 f30 (hb hby own_d6_62) rfl rfl fun T31 X31 e31 => ?_
      show own_Go _ _ _ _ T31 (mkF m 65 #[.val (.ref b5001), .val (.long jp1x6_34), .second, .val (.int (((own_home jp1x6_34) + (1 : Int32)) &&& ((8 : Int32) - (1 : Int32))))] [(.int ((1 : Int32) + fv0)), (.int (((own_home jp1x6_34) + (1 : Int32)) &&& ((8 : Int32) - (1 : Int32)))), (.ref b3x3_12c9c5002)])
      refine own_st (fun t k => XS.imul X31.here hx rfl (hb hby own_d6_65) rfl (XS.iconst X31.here hx rfl (hb hby own_d6_66) (XS.iadd X31.here hx rfl (hb hby own_d6_67) rfl k))) ?_
      show own_Go _ _ _ _ T31 (mkF m 68 #[.val (.ref b5001), .val (.long jp1x6_34), .second, .val (.int (((own_home jp1x6_34) + (1 : Int32)) &&& ((8 : Int32) - (1 : Int32))))] [(.int (((((own_home jp1x6_34) + (1 : Int32)) &&& ((8 : Int32) - (1 : Int32))) * ((1 : Int32) + fv0)) + (1 : Int32))), (.ref b3x3_12c9c5002)])
      refine own_st (fun t k => XS.iloadN X31.here hx rfl (hb hby own_d6_68) rfl (XS.iconst X31.here hx rfl (hb hby own_d6_69) (XS.iadd X31.here hx rfl (hb hby own_d6_70) rfl k))) ?_
      show own_Go _ _ _ _ T31 (mkF m 71 #[.val (.ref b5001), .val (.long jp1x6_34), .second, .val (.int (((own_home jp1x6_34) + (1 : Int32)) &&& ((8 : Int32) - (1 : Int32))))] [(.int ((((own_home jp1x6_34) + (1 : Int32)) &&& ((8 : Int32) - (1 : Int32))) + (1 : Int32))), (.int (((((own_home jp1x6_34) + (1 : Int32)) &&& ((8 : Int32) - (1 : Int32))) * ((1 : Int32) + fv0)) + (1 : Int32))), (.ref b3x3_12c9c5002)])
      refine own_st (fun t k => XS.aloadN X31.here hx rfl (hb hby own_d6_71) rfl rfl k) ?_
      refine own_gF X31 hx hZ hown (own_w hw 9 rfl) Via.refl e31 f30 (hb hby own_d6_72) rfl rfl fun T32 X32 e32 => ?_
      refine own_st (fun t k => XS.imul X32.here hx rfl (hb hby own_d6_75) rfl k) ?_
      show own_Go _ _ _ _ T32 (mkF m 76 #[.val (.ref b5001), .val (.long jp1x6_34), .second, .val (.int (((own_home jp1x6_34) + (1 : Int32)) &&& ((8 : Int32) - (1 : Int32))))] [(.int (((((own_home jp1x6_34) + (1 : Int32)) &&& ((8 : Int32) - (1 : Int32))) + (1 : Int32)) * ((1 : Int32) + fv0))), (.int (((((own_home jp1x6_34) + (1 : Int32)) &&& ((8 : Int32) - (1 : Int32))) * ((1 : Int32) + fv0)) + (1 : Int32))), (.ref b3x3_12c9c5002)])
      refine own_st (fun t k => XS.lconst X32.here hx rfl (hb hby own_d6_76) k) ?_
      refine own_cS X32 hx hZ hown (own_w hw 55 rfl) (own_w hw 56 rfl) (own_w hw 57 rfl) (own_w hw 58 rfl) [(.ref b3x3_12c9c5002), (.int (((((own_home jp1x6_34) + (1 : Int32)) &&& ((8 : Int32) - (1 : Int32))) * ((1 : Int32) + fv0)) + (1 : Int32))), (.int (((((own_home jp1x6_34) + (1 : Int32)) &&& ((8 : Int32) - (1 : Int32))) + (1 : Int32)) * ((1 : Int32) + fv0))), (.long (0 : Int64))] [] (own_rm10_38 l Z a0 hw [] b3x3_12c9c5002 (((own_home jp1x6_34) + (1 : Int32)) &&& ((8 : Int32) - (1 : Int32))) fv0 k3x3_12c9c5002c25c5004 jp1x6_34 jp0 h27 n0 Z27 ((by decide +kernel : ∀ x ∈ own_D8, (((x + (1 : Int32)) &&& ((8 : Int32) - (1 : Int32))) = (0 : Int32) ∨ ((x + (1 : Int32)) &&& ((8 : Int32) - (1 : Int32))) = (1 : Int32) ∨ ((x + (1 : Int32)) &&& ((8 : Int32) - (1 : Int32))) = (2 : Int32) ∨ ((x + (1 : Int32)) &&& ((8 : Int32) - (1 : Int32))) = (3 : Int32) ∨ ((x + (1 : Int32)) &&& ((8 : Int32) - (1 : Int32))) = (4 : Int32) ∨ ((x + (1 : Int32)) &&& ((8 : Int32) - (1 : Int32))) = (5 : Int32) ∨ ((x + (1 : Int32)) &&& ((8 : Int32) - (1 : Int32))) = (6 : Int32) ∨ ((x + (1 : Int32)) &&& ((8 : Int32) - (1 : Int32))) = (7 : Int32))) _ (own_m8 (own_home_r jp1x6_34)) ) V27 R_fv0 g_b3x3_12c9c5002) 0 (hb hby own_d6_77) (by rw [hml]; rfl) (lenOf own_pd5 rfl) e32 rfl rfl (by show 2 * 0 + _ ≤ _; exact Nat.le_of_eq rfl) (by decide) (by decide) (by decide) (by decide) (by decide) fun v33 T33 L33 X33 hQ33 => ?_
      obtain ⟨N33q, Kq33, hL33⟩ := hQ33
      have N33 := Fr.app N27 N33q
      have K33 : Keep h0 T33.heap [b7x3_12c9c5002, b3x3_12c9c5002, b5001] := K27.trans Kq33 (allS (Or.inl (List.mem_of_getElem? (i := 1) rfl)) all0)
      have Z33 := Nat.le_trans Z27 Kq33.1
      rcases hL33 with ⟨k3x3_12c9c5002c25c5004c33, rfl, Fc33_0_0, -⟩
      · skip
        refine own_st (fun t k => XS.aloadN X33.here hx rfl (hb hby own_d6_80) rfl rfl k) ?_
        show own_Go _ _ _ _ T33 (mkF m 81 #[.val (.ref b5001), .val (.long jp1x6_34), .second, .val (.int (((own_home jp1x6_34) + (1 : Int32)) &&& ((8 : Int32) - (1 : Int32))))] [(.ref b5001)])
        refine own_st (fun t k => XS.dup X33.here hx rfl (hb hby own_d6_81) rfl rfl k) ?_
        have f34 := ((((f10.keep Kq17 nin0).other W21 (Or.inl (ne_exa P3 P11 (by decide)))).other W27 (Or.inl (ne_exa P3 P12 (by decide)))).keep Kq33 (ninS (ne_exa P3 P12 (by decide)) nin0))
        refine own_gF X33 hx hZ hown (own_w hw 49 rfl) Via.refl rfl f34 (hb hby own_d6_82) rfl rfl fun T35 X35 e35 => ?_
        refine own_st (fun t k => XS.iconst X35.here hx rfl (hb hby own_d6_85) k) ?_
        show own_Go _ _ _ _ T35 (mkF m 86 #[.val (.ref b5001), .val (.long jp1x6_34), .second, .val (.int (((own_home jp1x6_34) + (1 : Int32)) &&& ((8 : Int32) - (1 : Int32))))] [(.int (1 : Int32)), (.int (1 : Int32)), (.ref b5001)])
        refine own_st (fun t k => XS.iadd X35.here hx rfl (hb hby own_d6_86) rfl k) ?_
        have f36 := (P3.keep K33)
        refine own_pF X35 hx hZ hown (own_w hw 49 rfl) Via.refl e35 f34 f36 (Or.inl (own_w hw 50 rfl)) (own_w hw 1 rfl) (ty := .int) (by decide) (hb hby own_d6_87) rfl rfl rfl rfl fun T37 h37 X37 e37 W37 => ?_
        have K37 : Keep h0 h37 [b7x3_12c9c5002, b3x3_12c9c5002, b5001] := K33.wr W37 (Or.inl (List.mem_of_getElem? (i := 2) rfl))
        have Z37 := Nat.le_trans Z33 (Keep.of_wr W37).1
        have N37 := Fr.snoc X37 N33 g_b5001
        have F37 : Fld Z h37 b5001 own_s0 "size" "I" (.int (2 : Int32)) := f34.same W37
        refine own_st (fun t k => XS.iloadN X37.here hx rfl (hb hby own_d6_90) rfl k) ?_
        show own_Go _ _ _ _ T37 (mkF m 91 #[.val (.ref b5001), .val (.long jp1x6_34), .second, .val (.int (((own_home jp1x6_34) + (1 : Int32)) &&& ((8 : Int32) - (1 : Int32))))] [(.int (((own_home jp1x6_34) + (1 : Int32)) &&& ((8 : Int32) - (1 : Int32))))])
        have f38 := (((V21.other W27 (ne_exa P11 P12 (by decide))).keep Kq33 (ninS (ne_exa P11 P12 (by decide)) nin0)).other W37 (ne_exa P11 P3 (by decide)))
        have f39 := (Fc33_0_0.other W37 (ne_exa P12 P3 (by decide)))
        have f40 := ((((f18.other W21 (Or.inl (ne_exa P3 P11 (by decide)))).other W27 (Or.inl (ne_exa P3 P12 (by decide)))).keep Kq33 (ninS (ne_exa P3 P12 (by decide)) nin0)).other W37 (Or.inr (slot_ne (Or.inl (own_w hw 24 rfl)) (Or.inl (own_w hw 50 rfl)) (by decide) (t := (.array .boolean)) (t' := .int) (by decide) (by decide))))
        have f41 := (((((f15.keep Kq17 nin0).other W21 (Or.inl (ne_exa P3 P11 (by decide)))).other W27 (Or.inl (ne_exa P3 P12 (by decide)))).keep Kq33 (ninS (ne_exa P3 P12 (by decide)) nin0)).other W37 (Or.inr (slot_ne (Or.inl (own_w hw 33 rfl)) (Or.inl (own_w hw 50 rfl)) (by decide) (t := .int) (t' := .int) (by decide) (by decide))))
        have f42 := ((f28.keep Kq33 (ninS (ne_exa P3 P12 (by decide)) nin0)).other W37 (Or.inr (slot_ne (Or.inl (own_w hw 21 rfl)) (Or.inl (own_w hw 50 rfl)) (by decide) (t := (.array .long)) (t' := .int) (by decide) (by decide))))
        have f43 := ((f30.keep Kq33 (ninS (ne_exa P3 P12 (by decide)) nin0)).other W37 (Or.inr (slot_ne (Or.inr (own_w hw 10 rfl)) (Or.inl (own_w hw 50 rfl)) (by decide) (t := .int) (t' := .int) (by decide) (by decide))))
        have f44 := ((((((P8.keep Kq1 nin0).keep Kq17 nin0).other W21 (Or.inl (ne_exa P3 P11 (by decide)))).other W27 (Or.inl (ne_exa P3 P12 (by decide)))).keep Kq33 (ninS (ne_exa P3 P12 (by decide)) nin0)).other W37 (Or.inr (slot_ne (Or.inl (own_w hw 26 rfl)) (Or.inl (own_w hw 50 rfl)) (by decide) (t := (.array (.object own_s1))) (t' := .int) (by decide) (by decide))))
        exact own_retI X37 hx hlk hret (hb hby own_d6_91) (by decide) (by decide) e37 ⟨N37, K37, (Or.inr (Or.inl ⟨_, _, rfl, hq1_1_0, hq1_1_1, hq17_0_0, f38, f39, f40, f41, f42, f43, F37, f44, trivial⟩))⟩
    · skip
      exact absurd hq1_1_0 hq17_1_0
  · skip
    refine own_st (fun t k => XS.iconst X1.here hx rfl (hb hby own_d6_5) (XS.icmpYes X1.here hx rfl (pc0 := 6) (pc' := 11) rfl (hb hby own_d6_6) rfl (teq (by decide : (-1 : Int32) = (-1 : Int32))).1 (by decide) (by decide) k)) ?_
    show own_Go _ _ _ _ T1 (mkF m 11 #[.val (.ref b5001), .val (.long jp1x6_34), .second, .unset] [])
    refine own_st (fun t k => XS.iconst X1.here hx rfl (hb hby own_d6_11) (XS.aloadN X1.here hx rfl (hb hby own_d6_12) rfl rfl k)) ?_
    have f45 := (P9.keep Kq1 nin0)
    refine own_gF X1 hx hZ hown (own_w hw 49 rfl) Via.refl rfl f45 (hb hby own_d6_13) rfl rfl fun T46 X46 e46 => ?_
    show own_Go _ _ _ _ T46 (mkF m 16 #[.val (.ref b5001), .val (.long jp1x6_34), .second, .unset] [(.int (1 : Int32)), (.int (2 : Int32))])
    refine own_st (fun t k => XS.iconst X46.here hx rfl (hb hby own_d6_16) (XS.iadd X46.here hx rfl (hb hby own_d6_17) rfl (XS.imul X46.here hx rfl (hb hby own_d6_18) rfl k))) ?_
    show own_Go _ _ _ _ T46 (mkF m 19 #[.val (.ref b5001), .val (.long jp1x6_34), .second, .unset] [(.int ((2 : Int32) * ((1 : Int32) + (1 : Int32))))])
    refine own_st (fun t k => XS.aloadN X46.here hx rfl (hb hby own_d6_19) rfl rfl k) ?_
    have f47 := (P0.keep Kq1 nin0)
    refine own_gF X46 hx hZ hown (own_w hw 23 rfl) Via.refl e46 f47 (hb hby own_d6_20) rfl rfl fun T48 X48 e48 => ?_
    have f49 := (P1.keep Kq1 nin0)
    refine own_st (own_alenH X48 hx hZ e48 f49 (g := (mkF m 23 #[.val (.ref b5001), .val (.long jp1x6_34), .second, .unset] [(.ref b7x3_12c9c5002), (.int ((2 : Int32) * ((1 : Int32) + (1 : Int32))))])) rfl rfl (hb hby own_d6_23)) ?_
    show own_Go _ _ _ _ T48 (mkF m 24 #[.val (.ref b5001), .val (.long jp1x6_34), .second, .unset] [(.int (8 : Int32)), (.int ((2 : Int32) * ((1 : Int32) + (1 : Int32))))])
    refine own_st (fun t k => XS.icmpYes X48.here hx rfl (pc0 := 24) (pc' := 31) rfl (hb hby own_d6_24) rfl (flt (by decide : ¬ ((8 : Int32) < ((2 : Int32) * ((1 : Int32) + (1 : Int32)))))).2.2.2 (by decide) (by decide) (XS.aloadN X48.here hx rfl (hb hby own_d6_31) rfl rfl (XS.lloadN X48.here hx rfl (hb hby own_d6_32) rfl k))) ?_
    show own_Go _ _ _ _ T48 (mkF m 33 #[.val (.ref b5001), .val (.long jp1x6_34), .second, .unset] [(.long jp1x6_34), (.ref b5001)])
    have f50 := (P2.keep Kq1 nin0)
    have f51 := (P3.keep Kq1)
    refine own_cP (a := b5001) X48 hx hZ hown (own_w hw 51 rfl) (own_w hw 53 rfl) (own_w hw 1 rfl) (own_w hw 52 rfl) (own_w hw 2 rfl) (own_w hw 54 rfl) [(.long jp1x6_34)] [] f51 (own_rm9_36 l Z a0 hw [] b5001 jp1x6_34 b7x3_12c9c5002 k7x3_12c9c5002c5004 jp0 T1.heap n0 Z1 f47 f49 f50 f51) 0 (hb hby own_d6_33) (by rw [hml]; rfl) (lenOf own_pd3 rfl) e48 rfl rfl (by show 2 * 0 + _ ≤ _; exact Nat.le_of_eq rfl) (by decide) (by decide) (by decide) (by decide) (by decide) fun v52 T52 L52 X52 hQ52 => ?_
    obtain ⟨N52q, Kq52, hL52⟩ := hQ52
    have N52 := Fr.app N1 N52q
    have K52 : Keep h0 T52.heap [b7x3_12c9c5002, b3x3_12c9c5002, b5001] := K1.trans Kq52 all0
    have Z52 := Nat.le_trans Z1 Kq52.1
    rcases hL52 with ⟨rfl, hq52_0_0, -⟩ | ⟨rfl, hq52_1_0, -⟩
    · skip
      exact absurd hq52_0_0 hq1_2_0
    · skip
      refine own_st (fun t k => XS.istoreN X52.here hx rfl (hb hby own_d6_36) rfl (l' := #[.val (.ref b5001), .val (.long jp1x6_34), .second, .val (.int (own_home jp1x6_34))]) rfl (XS.aloadN X52.here hx rfl (hb hby own_d6_37) rfl rfl k)) ?_
      show own_Go _ _ _ _ T52 (mkF m 38 #[.val (.ref b5001), .val (.long jp1x6_34), .second, .val (.int (own_home jp1x6_34))] [(.ref b5001)])
      have f53 := (f47.keep Kq52 nin0)
      refine own_gF X52 hx hZ hown (own_w hw 23 rfl) Via.refl rfl f53 (hb hby own_d6_38) rfl rfl fun T54 X54 e54 => ?_
      refine own_st (fun t k => XS.iloadN X54.here hx rfl (hb hby own_d6_41) rfl (XS.iconst X54.here hx rfl (hb hby own_d6_42) k)) ?_
      show own_Go _ _ _ _ T54 (mkF m 43 #[.val (.ref b5001), .val (.long jp1x6_34), .second, .val (.int (own_home jp1x6_34))] [(.int (1 : Int32)), (.int (own_home jp1x6_34)), (.ref b7x3_12c9c5002)])
      have f55 := (f49.keep Kq52 nin0)
      obtain ⟨c56, A56, q56, S56, M56, H56, G56⟩ := f55
      obtain ⟨T56, h56, X56, e56, W56, st56⟩ := stZ X54 hx hZ e54 A56 (j := (own_home jp1x6_34)) (inb_of S56 ((by decide +kernel : ∀ x ∈ own_D8, (¬ x < 0 ∧ x < (8 : Int32))) _ (own_m8 (own_home_r jp1x6_34)) )) (g := (mkF m 43 #[.val (.ref b5001), .val (.long jp1x6_34), .second, .val (.int (own_home jp1x6_34))] [(.int (1 : Int32)), (.int (own_home jp1x6_34)), (.ref b7x3_12c9c5002)])) rfl rfl (hb hby own_d6_43)
      refine own_st st56 ?_
      have K56 : Keep h0 h56 [b7x3_12c9c5002, b3x3_12c9c5002, b5001] := K52.wr W56 (Or.inl (List.mem_of_getElem? (i := 0) rfl))
      have Z56 := Nat.le_trans Z52 (Keep.of_wr W56).1
      have N56 := Fr.snoc X56 N52 g_b7x3_12c9c5002
      have V56 : Arh Z h56 b7x3_12c9c5002 k7x3_12c9c5002c5004 .boolean (8 : Int32) [((own_home jp1x6_34), (.int (1 : Int32))), ((own_home jp0), (.int (1 : Int32)))] [] (.int (0 : Int32)) := Arh.push A56 q56 S56 M56 H56 G56 rfl W56 (inb_of S56 ((by decide +kernel : ∀ x ∈ own_D8, (¬ x < 0 ∧ x < (8 : Int32))) _ (own_m8 (own_home_r jp1x6_34)) ))
      refine own_st (fun t k => XS.aloadN X56.here hx rfl (hb hby own_d6_44) rfl rfl k) ?_
      have f57 := (((P4.keep Kq1 nin0).keep Kq52 nin0).other W56 (Or.inl (ne_exa P3 P11 (by decide))))
      refine own_gF X56 hx hZ hown (own_w hw 20 rfl) Via.refl e56 f57 (hb hby own_d6_45) rfl rfl fun T58 X58 e58 => ?_
      show own_Go _ _ _ _ T58 (mkF m 48 #[.val (.ref b5001), .val (.long jp1x6_34), .second, .val (.int (own_home jp1x6_34))] [(.ref b3x3_12c9c5002)])
      refine own_st (fun t k => XS.iloadN X58.here hx rfl (hb hby own_d6_48) rfl (XS.aloadN X58.here hx rfl (hb hby own_d6_49) rfl rfl k)) ?_
      have f59 := (((P5.keep Kq1 nin0).keep Kq52 nin0).other W56 (Or.inl (ne_exa P3 P11 (by decide))))
      refine own_gF X58 hx hZ hown (own_w hw 9 rfl) Via.refl e58 f59 (hb hby own_d6_50) rfl rfl fun T60 X60 e60 => ?_
      show own_Go _ _ _ _ T60 (mkF m 53 #[.val (.ref b5001), .val (.long jp1x6_34), .second, .val (.int (own_home jp1x6_34))] [(.int ((1 : Int32) + fv0)), (.int (own_home jp1x6_34)), (.ref b3x3_12c9c5002)])
      refine own_st (fun t k => XS.imul X60.here hx rfl (hb hby own_d6_53) rfl (XS.lloadN X60.here hx rfl (hb hby own_d6_54) rfl k)) ?_
      have f61 := (((P6.keep Kq1 nin0).keep Kq52 nin0).other W56 (ne_exa P12 P11 (by decide)))
      obtain ⟨c62, A62, q62, S62, M62, H62, G62⟩ := f61
      obtain ⟨T62, h62, X62, e62, W62, st62⟩ := stJ X60 hx hZ e60 A62 (j := ((own_home jp1x6_34) * ((1 : Int32) + fv0))) (inb_of S62 ((by decide +kernel : ∀ x ∈ own_D8, ∀ y ∈ own_D4, (¬ (x * ((1 : Int32) + y)) < 0 ∧ (x * ((1 : Int32) + y)) < ((((8 : Int32).toInt64) * (((1 : Int32) + y).toInt64)).toInt32))) _ (own_m8 (own_home_r jp1x6_34)) _ (own_m4 R_fv0) )) (g := (mkF m 55 #[.val (.ref b5001), .val (.long jp1x6_34), .second, .val (.int (own_home jp1x6_34))] [(.long jp1x6_34), (.int ((own_home jp1x6_34) * ((1 : Int32) + fv0))), (.ref b3x3_12c9c5002)])) rfl rfl (hb hby own_d6_55)
      refine own_st st62 ?_
      have K62 : Keep h0 h62 [b7x3_12c9c5002, b3x3_12c9c5002, b5001] := K56.wr W62 (Or.inl (List.mem_of_getElem? (i := 1) rfl))
      have Z62 := Nat.le_trans Z56 (Keep.of_wr W62).1
      have N62 := Fr.snoc X62 N56 g_b3x3_12c9c5002
      have V62 : Arh Z h62 b3x3_12c9c5002 k3x3_12c9c5002c25c5004 .long ((((8 : Int32).toInt64) * (((1 : Int32) + fv0).toInt64)).toInt32) [(((own_home jp1x6_34) * ((1 : Int32) + fv0)), (.long jp1x6_34)), (((own_home jp0) * ((1 : Int32) + fv0)), (.long jp0))] [] (.long (0 : Int64)) := Arh.push A62 q62 S62 M62 H62 G62 rfl W62 (inb_of S62 ((by decide +kernel : ∀ x ∈ own_D8, ∀ y ∈ own_D4, (¬ (x * ((1 : Int32) + y)) < 0 ∧ (x * ((1 : Int32) + y)) < ((((8 : Int32).toInt64) * (((1 : Int32) + y).toInt64)).toInt32))) _ (own_m8 (own_home_r jp1x6_34)) _ (own_m4 R_fv0) ))
      show own_Go _ _ _ _ T62 (mkF m 56 #[.val (.ref b5001), .val (.long jp1x6_34), .second, .val (.int (own_home jp1x6_34))] [])
      refine own_st (fun t k => XS.aloadN X62.here hx rfl (hb hby own_d6_56) rfl rfl k) ?_
      have f63 := (f57.other W62 (Or.inl (ne_exa P3 P12 (by decide))))
      refine own_gF X62 hx hZ hown (own_w hw 20 rfl) Via.refl e62 f63 (hb hby own_d6_57) rfl rfl fun T64 X64 e64 => ?_
      refine own_st (fun t k => XS.iloadN X64.here hx rfl (hb hby own_d6_60) rfl k) ?_
      show own_Go _ _ _ _ T64 (mkF m 61 #[.val (.ref b5001), .val (.long jp1x6_34), .second, .val (.int (own_home jp1x6_34))] [(.int (own_home jp1x6_34)), (.ref b3x3_12c9c5002)])
      refine own_st (fun t k => XS.aloadN X64.here hx rfl (hb hby own_d6_61) rfl rfl k) ?_
      have f65 := (f59.other W62 (Or.inl (ne_exa P3 P12 (by decide))))
      refine own_gF X64 hx hZ hown (own_w hw 9 rfl) Via.refl e64 f65 (hb hby own_d6_62) rfl rfl fun T66 X66 e66 => ?_
      refine own_st (fun t k => XS.imul X66.here hx rfl (hb hby own_d6_65) rfl k) ?_
      show own_Go _ _ _ _ T66 (mkF m 66 #[.val (.ref b5001), .val (.long jp1x6_34), .second, .val (.int (own_home jp1x6_34))] [(.int ((own_home jp1x6_34) * ((1 : Int32) + fv0))), (.ref b3x3_12c9c5002)])
      refine own_st (fun t k => XS.iconst X66.here hx rfl (hb hby own_d6_66) (XS.iadd X66.here hx rfl (hb hby own_d6_67) rfl (XS.iloadN X66.here hx rfl (hb hby own_d6_68) rfl k))) ?_
      show own_Go _ _ _ _ T66 (mkF m 69 #[.val (.ref b5001), .val (.long jp1x6_34), .second, .val (.int (own_home jp1x6_34))] [(.int (own_home jp1x6_34)), (.int (((own_home jp1x6_34) * ((1 : Int32) + fv0)) + (1 : Int32))), (.ref b3x3_12c9c5002)])
      refine own_st (fun t k => XS.iconst X66.here hx rfl (hb hby own_d6_69) (XS.iadd X66.here hx rfl (hb hby own_d6_70) rfl (XS.aloadN X66.here hx rfl (hb hby own_d6_71) rfl rfl k))) ?_
      show own_Go _ _ _ _ T66 (mkF m 72 #[.val (.ref b5001), .val (.long jp1x6_34), .second, .val (.int (own_home jp1x6_34))] [(.ref b5001), (.int ((own_home jp1x6_34) + (1 : Int32))), (.int (((own_home jp1x6_34) * ((1 : Int32) + fv0)) + (1 : Int32))), (.ref b3x3_12c9c5002)])
      refine own_gF X66 hx hZ hown (own_w hw 9 rfl) Via.refl e66 f65 (hb hby own_d6_72) rfl rfl fun T67 X67 e67 => ?_
      refine own_st (fun t k => XS.imul X67.here hx rfl (hb hby own_d6_75) rfl (XS.lconst X67.here hx rfl (hb hby own_d6_76) k)) ?_
      show own_Go _ _ _ _ T67 (mkF m 77 #[.val (.ref b5001), .val (.long jp1x6_34), .second, .val (.int (own_home jp1x6_34))] [(.long (0 : Int64)), (.int (((own_home jp1x6_34) + (1 : Int32)) * ((1 : Int32) + fv0))), (.int (((own_home jp1x6_34) * ((1 : Int32) + fv0)) + (1 : Int32))), (.ref b3x3_12c9c5002)])
      refine own_cS X67 hx hZ hown (own_w hw 55 rfl) (own_w hw 56 rfl) (own_w hw 57 rfl) (own_w hw 58 rfl) [(.ref b3x3_12c9c5002), (.int (((own_home jp1x6_34) * ((1 : Int32) + fv0)) + (1 : Int32))), (.int (((own_home jp1x6_34) + (1 : Int32)) * ((1 : Int32) + fv0))), (.long (0 : Int64))] [] (own_rm10_38 l Z a0 hw [] b3x3_12c9c5002 (own_home jp1x6_34) fv0 k3x3_12c9c5002c25c5004 jp1x6_34 jp0 h62 n0 Z62 (own_home_r jp1x6_34) V62 R_fv0 g_b3x3_12c9c5002) 0 (hb hby own_d6_77) (by rw [hml]; rfl) (lenOf own_pd5 rfl) e67 rfl rfl (by show 2 * 0 + _ ≤ _; exact Nat.le_of_eq rfl) (by decide) (by decide) (by decide) (by decide) (by decide) fun v68 T68 L68 X68 hQ68 => ?_
      obtain ⟨N68q, Kq68, hL68⟩ := hQ68
      have N68 := Fr.app N62 N68q
      have K68 : Keep h0 T68.heap [b7x3_12c9c5002, b3x3_12c9c5002, b5001] := K62.trans Kq68 (allS (Or.inl (List.mem_of_getElem? (i := 1) rfl)) all0)
      have Z68 := Nat.le_trans Z62 Kq68.1
      rcases hL68 with ⟨k3x3_12c9c5002c25c5004c68, rfl, Fc68_0_0, -⟩
      · skip
        refine own_st (fun t k => XS.aloadN X68.here hx rfl (hb hby own_d6_80) rfl rfl (XS.dup X68.here hx rfl (hb hby own_d6_81) rfl rfl k)) ?_
        show own_Go _ _ _ _ T68 (mkF m 82 #[.val (.ref b5001), .val (.long jp1x6_34), .second, .val (.int (own_home jp1x6_34))] [(.ref b5001), (.ref b5001)])
        have f69 := ((((f45.keep Kq52 nin0).other W56 (Or.inl (ne_exa P3 P11 (by decide)))).other W62 (Or.inl (ne_exa P3 P12 (by decide)))).keep Kq68 (ninS (ne_exa P3 P12 (by decide)) nin0))
        refine own_gF X68 hx hZ hown (own_w hw 49 rfl) Via.refl rfl f69 (hb hby own_d6_82) rfl rfl fun T70 X70 e70 => ?_
        refine own_st (fun t k => XS.iconst X70.here hx rfl (hb hby own_d6_85) (XS.iadd X70.here hx rfl (hb hby own_d6_86) rfl k)) ?_
        show own_Go _ _ _ _ T70 (mkF m 87 #[.val (.ref b5001), .val (.long jp1x6_34), .second, .val (.int (own_home jp1x6_34))] [(.int ((1 : Int32) + (1 : Int32))), (.ref b5001)])
        have f71 := (P3.keep K68)
        refine own_pF X70 hx hZ hown (own_w hw 49 rfl) Via.refl e70 f69 f71 (Or.inl (own_w hw 50 rfl)) (own_w hw 1 rfl) (ty := .int) (by decide) (hb hby own_d6_87) rfl rfl rfl rfl fun T72 h72 X72 e72 W72 => ?_
        have K72 : Keep h0 h72 [b7x3_12c9c5002, b3x3_12c9c5002, b5001] := K68.wr W72 (Or.inl (List.mem_of_getElem? (i := 2) rfl))
        have Z72 := Nat.le_trans Z68 (Keep.of_wr W72).1
        have N72 := Fr.snoc X72 N68 g_b5001
        have F72 : Fld Z h72 b5001 own_s0 "size" "I" (.int (2 : Int32)) := f69.same W72
        refine own_st (fun t k => XS.iloadN X72.here hx rfl (hb hby own_d6_90) rfl k) ?_
        have f73 := (((V56.other W62 (ne_exa P11 P12 (by decide))).keep Kq68 (ninS (ne_exa P11 P12 (by decide)) nin0)).other W72 (ne_exa P11 P3 (by decide)))
        have f74 := (Fc68_0_0.other W72 (ne_exa P12 P3 (by decide)))
        have f75 := ((((f53.other W56 (Or.inl (ne_exa P3 P11 (by decide)))).other W62 (Or.inl (ne_exa P3 P12 (by decide)))).keep Kq68 (ninS (ne_exa P3 P12 (by decide)) nin0)).other W72 (Or.inr (slot_ne (Or.inl (own_w hw 24 rfl)) (Or.inl (own_w hw 50 rfl)) (by decide) (t := (.array .boolean)) (t' := .int) (by decide) (by decide))))
        have f76 := (((((f50.keep Kq52 nin0).other W56 (Or.inl (ne_exa P3 P11 (by decide)))).other W62 (Or.inl (ne_exa P3 P12 (by decide)))).keep Kq68 (ninS (ne_exa P3 P12 (by decide)) nin0)).other W72 (Or.inr (slot_ne (Or.inl (own_w hw 33 rfl)) (Or.inl (own_w hw 50 rfl)) (by decide) (t := .int) (t' := .int) (by decide) (by decide))))
        have f77 := ((f63.keep Kq68 (ninS (ne_exa P3 P12 (by decide)) nin0)).other W72 (Or.inr (slot_ne (Or.inl (own_w hw 21 rfl)) (Or.inl (own_w hw 50 rfl)) (by decide) (t := (.array .long)) (t' := .int) (by decide) (by decide))))
        have f78 := ((f65.keep Kq68 (ninS (ne_exa P3 P12 (by decide)) nin0)).other W72 (Or.inr (slot_ne (Or.inr (own_w hw 10 rfl)) (Or.inl (own_w hw 50 rfl)) (by decide) (t := .int) (t' := .int) (by decide) (by decide))))
        have f79 := ((((((P8.keep Kq1 nin0).keep Kq52 nin0).other W56 (Or.inl (ne_exa P3 P11 (by decide)))).other W62 (Or.inl (ne_exa P3 P12 (by decide)))).keep Kq68 (ninS (ne_exa P3 P12 (by decide)) nin0)).other W72 (Or.inr (slot_ne (Or.inl (own_w hw 26 rfl)) (Or.inl (own_w hw 50 rfl)) (by decide) (t := (.array (.object own_s1))) (t' := .int) (by decide) (by decide))))
        exact own_retI X72 hx hlk hret (hb hby own_d6_91) (by decide) (by decide) e72 ⟨N72, K72, (Or.inr (Or.inr ⟨_, _, rfl, hq1_2_0, hq52_1_0, f73, f74, f75, f76, f77, f78, F72, f79, trivial⟩))⟩
theorem own_d13_0 : decode prog_69_method_10_code 0 = .ok (.aload_n 0, 1) := by decide +kernel
theorem own_d13_1 : decode prog_69_method_10_code 1 = .ok (.getfield 47, 3) := by decide +kernel
theorem own_d13_4 : decode prog_69_method_10_code 4 = .ok (.ifnonnull 19, 3) := by decide +kernel
theorem own_d13_7 : decode prog_69_method_10_code 7 = .ok (.aload_n 2, 1) := by decide +kernel
theorem own_d13_8 : decode prog_69_method_10_code 8 = .ok (.ifnull 15, 3) := by decide +kernel
theorem own_d13_23 : decode prog_69_method_10_code 23 = .ok (.aload_n 0, 1) := by decide +kernel
theorem own_d13_24 : decode prog_69_method_10_code 24 = .ok (.getfield 47, 3) := by decide +kernel
theorem own_d13_27 : decode prog_69_method_10_code 27 = .ok (.ifnull 10, 3) := by decide +kernel
theorem own_d13_37 : decode prog_69_method_10_code 37 = .ok (.return_, 1) := by decide +kernel
theorem own_ef13RIN (m : MethodId) (x0 : Addr) (x1 : Int32) : entryFrame m #[(.ref x0), (.int x1), .null] 3 = mkF m 0 #[.val (.ref x0), .val (.int x1), .val .null] [] := by first | (simp [entryFrame, mkF, argsToLocals, Value.category]; done) | rfl
def own_Q13_87 (Z : State) (t10 : Addr) (n11 : Int32) (h0 : Heap) (n0 : Nat) (v : Option Value) (h : Heap) (L : List Loc) : Prop := Fr n0 L ∧ Keep h0 h [] ∧ ((v = none ∧ True))
set_option maxRecDepth 65536 in
set_option maxHeartbeats 40000000 in
theorem own_rm13_87 (l : Launch) (Z : State) (a0 : Array Value) (hw : ∀ d ∈ tables_1, d.before a0 Z = true) (ws : List Jvm.Cond) (t10 : Addr) (n11 : Int32) (h0 : Heap) (n0 : Nat) (Z0 : n0 ≤ h0.size) (P0 : Fld Z h0 t10 own_s0 "values" own_s2 .null) :
    MetFree l own_y1 (head1 (Jvm.Cond.code own_y1 prog_69_method_10_code 3 none :: ws) ({ frames := 0, cells := 0, slots := 0, locals := 0 } : Room)) (fun a U => a = #[(.ref t10), (.int n11), .null] ∧ Z.Warmed39 U.vm ∧ U.heap = h0) (fun _ _ _ _ _ => True) (fun _ U o U' => ∃ v L, o = .returned v ∧ own_Q13_87 Z t10 n11 h0 n0 v U'.heap L ∧ FrameEnd U o U' L ({ frames := 0, cells := 0, slots := 0, locals := 0 } : Room).cells ({ frames := 0, cells := 0, slots := 0, locals := 0 } : Room).slots) := by
  refine MetFree.of_bodySF (plainFor_of_name own_pn1) hisR ?_
  intro p e s m args below meth c s₁ Bd hml0 hP hK
  obtain ⟨rfl, hZ, hh⟩ := hP
  have hx := Bd.exec
  have hlk := Bd.notSynchronized
  have hret := Bd.returns
  have hby := Bd.bytes
  have hml : c.maxLocals = 3 := hml0
  have hown : s.vm.findClass own_s0 = some m.cls := findClass_of_methodNamed Bd.named
  have hnm := (name_of_methodNamed Bd.named Bd.method).1
  have X0 : Stand p l e ({ frames := 0, cells := 0, slots := 0, locals := 0 } : Room) s m #[(.ref t10), (.int n11), .null] below meth c s₁ [] 0 0 := Stand.of_body Bd
  have e0 : s₁.heap = h0 := by rw [← hh, Bd.state]; rfl
  have N0 := Fr.nil n0
  refine own_open (Q := own_Q13_87 Z t10 n11 h0 n0) (own_ef13RIN m t10 n11) ?_
  refine own_st (fun t k => XS.aloadN X0.here hx rfl (hb hby own_d13_0) rfl rfl k) ?_
  refine own_gF X0 hx hZ hown (own_w hw 25 rfl) Via.refl e0 P0 (hb hby own_d13_1) rfl rfl fun T1 X1 e1 => ?_
  show own_Go _ _ _ _ T1 (mkF m 4 #[.val (.ref t10), .val (.int n11), .val .null] [.null])
  refine own_st (fun t k => XS.ifnonnullNo X1.here hx rfl (hb hby own_d13_4) rfl (XS.aloadN X1.here hx rfl (hb hby own_d13_7) rfl rfl (XS.ifnullYes X1.here hx rfl (pc0 := 8) (pc' := 23) rfl (hb hby own_d13_8) rfl (by decide) (by decide) k))) ?_
  show own_Go _ _ _ _ T1 (mkF m 23 #[.val (.ref t10), .val (.int n11), .val .null] [])
  refine own_st (fun t k => XS.aloadN X1.here hx rfl (hb hby own_d13_23) rfl rfl k) ?_
  refine own_gF X1 hx hZ hown (own_w hw 25 rfl) Via.refl e1 P0 (hb hby own_d13_24) rfl rfl fun T2 X2 e2 => ?_
  refine own_st (fun t k => XS.ifnullYes X2.here hx rfl (pc0 := 27) (pc' := 37) rfl (hb hby own_d13_27) rfl (by decide) (by decide) k) ?_
  show own_Go _ _ _ _ T2 (mkF m 37 #[.val (.ref t10), .val (.int n11), .val .null] [])
  exact own_retV X2 hx hlk hret (hb hby own_d13_37) (by decide) (by decide) e2 ⟨N0, (Keep.refl h0 []), ⟨rfl, trivial⟩⟩
theorem own_pd6 : parseMethodDescriptor "(ILjava/lang/Object;)V" = some ⟨[.int, (.object own_s1)], none⟩ := by decide +kernel
def own_Q13_88 (Z : State) (t10 : Addr) (n12 : Int32) (h0 : Heap) (n0 : Nat) (v : Option Value) (h : Heap) (L : List Loc) : Prop := Fr n0 L ∧ Keep h0 h [] ∧ ((v = none ∧ True))
set_option maxRecDepth 65536 in
set_option maxHeartbeats 40000000 in
theorem own_rm13_88 (l : Launch) (Z : State) (a0 : Array Value) (hw : ∀ d ∈ tables_1, d.before a0 Z = true) (ws : List Jvm.Cond) (t10 : Addr) (n12 : Int32) (h0 : Heap) (n0 : Nat) (Z0 : n0 ≤ h0.size) (P0 : Fld Z h0 t10 own_s0 "values" own_s2 .null) :
    MetFree l own_y1 (head1 (Jvm.Cond.code own_y1 prog_69_method_10_code 3 none :: ws) ({ frames := 0, cells := 0, slots := 0, locals := 0 } : Room)) (fun a U => a = #[(.ref t10), (.int n12), .null] ∧ Z.Warmed39 U.vm ∧ U.heap = h0) (fun _ _ _ _ _ => True) (fun _ U o U' => ∃ v L, o = .returned v ∧ own_Q13_88 Z t10 n12 h0 n0 v U'.heap L ∧ FrameEnd U o U' L ({ frames := 0, cells := 0, slots := 0, locals := 0 } : Room).cells ({ frames := 0, cells := 0, slots := 0, locals := 0 } : Room).slots) := by
  refine MetFree.of_bodySF (plainFor_of_name own_pn1) hisR ?_
  intro p e s m args below meth c s₁ Bd hml0 hP hK
  obtain ⟨rfl, hZ, hh⟩ := hP
  have hx := Bd.exec
  have hlk := Bd.notSynchronized
  have hret := Bd.returns
  have hby := Bd.bytes
  have hml : c.maxLocals = 3 := hml0
  have hown : s.vm.findClass own_s0 = some m.cls := findClass_of_methodNamed Bd.named
  have hnm := (name_of_methodNamed Bd.named Bd.method).1
  have X0 : Stand p l e ({ frames := 0, cells := 0, slots := 0, locals := 0 } : Room) s m #[(.ref t10), (.int n12), .null] below meth c s₁ [] 0 0 := Stand.of_body Bd
  have e0 : s₁.heap = h0 := by rw [← hh, Bd.state]; rfl
  have N0 := Fr.nil n0
  refine own_open (Q := own_Q13_88 Z t10 n12 h0 n0) (own_ef13RIN m t10 n12) ?_
  refine own_st (fun t k => XS.aloadN X0.here hx rfl (hb hby own_d13_0) rfl rfl k) ?_
  refine own_gF X0 hx hZ hown (own_w hw 25 rfl) Via.refl e0 P0 (hb hby own_d13_1) rfl rfl fun T1 X1 e1 => ?_
  show own_Go _ _ _ _ T1 (mkF m 4 #[.val (.ref t10), .val (.int n12), .val .null] [.null])
  refine own_st (fun t k => XS.ifnonnullNo X1.here hx rfl (hb hby own_d13_4) rfl (XS.aloadN X1.here hx rfl (hb hby own_d13_7) rfl rfl (XS.ifnullYes X1.here hx rfl (pc0 := 8) (pc' := 23) rfl (hb hby own_d13_8) rfl (by decide) (by decide) k))) ?_
  show own_Go _ _ _ _ T1 (mkF m 23 #[.val (.ref t10), .val (.int n12), .val .null] [])
  refine own_st (fun t k => XS.aloadN X1.here hx rfl (hb hby own_d13_23) rfl rfl k) ?_
  refine own_gF X1 hx hZ hown (own_w hw 25 rfl) Via.refl e1 P0 (hb hby own_d13_24) rfl rfl fun T2 X2 e2 => ?_
  refine own_st (fun t k => XS.ifnullYes X2.here hx rfl (pc0 := 27) (pc' := 37) rfl (hb hby own_d13_27) rfl (by decide) (by decide) k) ?_
  show own_Go _ _ _ _ T2 (mkF m 37 #[.val (.ref t10), .val (.int n12), .val .null] [])
  exact own_retV X2 hx hlk hret (hb hby own_d13_37) (by decide) (by decide) e2 ⟨N0, (Keep.refl h0 []), ⟨rfl, trivial⟩⟩
theorem own_d14_0 : decode prog_69_method_9_code 0 = .ok (.aload_n 0, 1) := by decide +kernel
theorem own_d14_1 : decode prog_69_method_9_code 1 = .ok (.getfield 47, 3) := by decide +kernel
theorem own_d14_4 : decode prog_69_method_9_code 4 = .ok (.ifnonnull 7, 3) := by decide +kernel
theorem own_d14_7 : decode prog_69_method_9_code 7 = .ok (.aconst_null, 1) := by decide +kernel
theorem own_d14_8 : decode prog_69_method_9_code 8 = .ok (.goto 9, 3) := by decide +kernel
theorem own_d14_17 : decode prog_69_method_9_code 17 = .ok (.areturn, 1) := by decide +kernel
theorem own_ef14 (m : MethodId) (x0 : Addr) (x1 : Int32) : entryFrame m #[(.ref x0), (.int x1)] 2 = mkF m 0 #[.val (.ref x0), .val (.int x1)] [] := by first | (simp [entryFrame, mkF, argsToLocals, Value.category]; done) | rfl
def own_Q14_89 (Z : State) (t10 : Addr) (n11 : Int32) (h0 : Heap) (n0 : Nat) (v : Option Value) (h : Heap) (L : List Loc) : Prop := Fr n0 L ∧ Keep h0 h [] ∧ ((v = some .null ∧ True))
set_option maxRecDepth 65536 in
set_option maxHeartbeats 40000000 in
theorem own_rm14_89 (l : Launch) (Z : State) (a0 : Array Value) (hw : ∀ d ∈ tables_1, d.before a0 Z = true) (ws : List Jvm.Cond) (t10 : Addr) (n11 : Int32) (h0 : Heap) (n0 : Nat) (Z0 : n0 ≤ h0.size) (P0 : Fld Z h0 t10 own_s0 "values" own_s2 .null) :
    MetFree l own_y0 (head1 (Jvm.Cond.code own_y0 prog_69_method_9_code 2 (some (.object own_s1)) :: ws) ({ frames := 0, cells := 0, slots := 0, locals := 0 } : Room)) (fun a U => a = #[(.ref t10), (.int n11)] ∧ Z.Warmed39 U.vm ∧ U.heap = h0) (fun _ _ _ _ _ => True) (fun _ U o U' => ∃ v L, o = .returned v ∧ own_Q14_89 Z t10 n11 h0 n0 v U'.heap L ∧ FrameEnd U o U' L ({ frames := 0, cells := 0, slots := 0, locals := 0 } : Room).cells ({ frames := 0, cells := 0, slots := 0, locals := 0 } : Room).slots) := by
  refine MetFree.of_bodySF (plainFor_of_name own_pn1) hisR ?_
  intro p e s m args below meth c s₁ Bd hml0 hP hK
  obtain ⟨rfl, hZ, hh⟩ := hP
  have hx := Bd.exec
  have hlk := Bd.notSynchronized
  have hret := Bd.returns
  have hby := Bd.bytes
  have hml : c.maxLocals = 2 := hml0
  have hown : s.vm.findClass own_s0 = some m.cls := findClass_of_methodNamed Bd.named
  have hnm := (name_of_methodNamed Bd.named Bd.method).1
  have X0 : Stand p l e ({ frames := 0, cells := 0, slots := 0, locals := 0 } : Room) s m #[(.ref t10), (.int n11)] below meth c s₁ [] 0 0 := Stand.of_body Bd
  have e0 : s₁.heap = h0 := by rw [← hh, Bd.state]; rfl
  have N0 := Fr.nil n0
  refine own_open (Q := own_Q14_89 Z t10 n11 h0 n0) (own_ef14 m t10 n11) ?_
  refine own_st (fun t k => XS.aloadN X0.here hx rfl (hb hby own_d14_0) rfl rfl k) ?_
  refine own_gF X0 hx hZ hown (own_w hw 25 rfl) Via.refl e0 P0 (hb hby own_d14_1) rfl rfl fun T1 X1 e1 => ?_
  show own_Go _ _ _ _ T1 (mkF m 4 #[.val (.ref t10), .val (.int n11)] [.null])
  refine own_st (fun t k => XS.ifnonnullNo X1.here hx rfl (hb hby own_d14_4) rfl (XS.aconstNull X1.here hx rfl (hb hby own_d14_7) (XS.goto X1.here hx rfl (pc0 := 8) (pc' := 17) rfl (hb hby own_d14_8) (by decide) (by decide) k))) ?_
  show own_Go _ _ _ _ T1 (mkF m 17 #[.val (.ref t10), .val (.int n11)] [.null])
  exact own_retA X1 hx hlk hret rfl rfl (hb hby own_d14_17) (by decide) (by decide) e1 ⟨N0, (Keep.refl h0 []), ⟨rfl, trivial⟩⟩
theorem own_pd7 : parseMethodDescriptor own_s3 = some ⟨[.int], some (.object own_s1)⟩ := by decide +kernel
def own_Q14_90 (Z : State) (t10 : Addr) (n12 : Int32) (h0 : Heap) (n0 : Nat) (v : Option Value) (h : Heap) (L : List Loc) : Prop := Fr n0 L ∧ Keep h0 h [] ∧ ((v = some .null ∧ True))
set_option maxRecDepth 65536 in
set_option maxHeartbeats 40000000 in
theorem own_rm14_90 (l : Launch) (Z : State) (a0 : Array Value) (hw : ∀ d ∈ tables_1, d.before a0 Z = true) (ws : List Jvm.Cond) (t10 : Addr) (n12 : Int32) (h0 : Heap) (n0 : Nat) (Z0 : n0 ≤ h0.size) (P0 : Fld Z h0 t10 own_s0 "values" own_s2 .null) :
    MetFree l own_y0 (head1 (Jvm.Cond.code own_y0 prog_69_method_9_code 2 (some (.object own_s1)) :: ws) ({ frames := 0, cells := 0, slots := 0, locals := 0 } : Room)) (fun a U => a = #[(.ref t10), (.int n12)] ∧ Z.Warmed39 U.vm ∧ U.heap = h0) (fun _ _ _ _ _ => True) (fun _ U o U' => ∃ v L, o = .returned v ∧ own_Q14_90 Z t10 n12 h0 n0 v U'.heap L ∧ FrameEnd U o U' L ({ frames := 0, cells := 0, slots := 0, locals := 0 } : Room).cells ({ frames := 0, cells := 0, slots := 0, locals := 0 } : Room).slots) := by
  refine MetFree.of_bodySF (plainFor_of_name own_pn1) hisR ?_
  intro p e s m args below meth c s₁ Bd hml0 hP hK
  obtain ⟨rfl, hZ, hh⟩ := hP
  have hx := Bd.exec
  have hlk := Bd.notSynchronized
  have hret := Bd.returns
  have hby := Bd.bytes
  have hml : c.maxLocals = 2 := hml0
  have hown : s.vm.findClass own_s0 = some m.cls := findClass_of_methodNamed Bd.named
  have hnm := (name_of_methodNamed Bd.named Bd.method).1
  have X0 : Stand p l e ({ frames := 0, cells := 0, slots := 0, locals := 0 } : Room) s m #[(.ref t10), (.int n12)] below meth c s₁ [] 0 0 := Stand.of_body Bd
  have e0 : s₁.heap = h0 := by rw [← hh, Bd.state]; rfl
  have N0 := Fr.nil n0
  refine own_open (Q := own_Q14_90 Z t10 n12 h0 n0) (own_ef14 m t10 n12) ?_
  refine own_st (fun t k => XS.aloadN X0.here hx rfl (hb hby own_d14_0) rfl rfl k) ?_
  refine own_gF X0 hx hZ hown (own_w hw 25 rfl) Via.refl e0 P0 (hb hby own_d14_1) rfl rfl fun T1 X1 e1 => ?_
  show own_Go _ _ _ _ T1 (mkF m 4 #[.val (.ref t10), .val (.int n12)] [.null])
  refine own_st (fun t k => XS.ifnonnullNo X1.here hx rfl (hb hby own_d14_4) rfl (XS.aconstNull X1.here hx rfl (hb hby own_d14_7) (XS.goto X1.here hx rfl (pc0 := 8) (pc' := 17) rfl (hb hby own_d14_8) (by decide) (by decide) k))) ?_
  show own_Go _ _ _ _ T1 (mkF m 17 #[.val (.ref t10), .val (.int n12)] [.null])
  exact own_retA X1 hx hlk hret rfl rfl (hb hby own_d14_17) (by decide) (by decide) e1 ⟨N0, (Keep.refl h0 []), ⟨rfl, trivial⟩⟩
theorem own_d16_0 : decode jdk_18_method_1_code 0 = .ok (.aload_n 0, 1) := by decide +kernel
theorem own_d16_1 : decode jdk_18_method_1_code 1 = .ok (.invokespecial 1, 3) := by decide +kernel
theorem own_d16_4 : decode jdk_18_method_1_code 4 = .ok (.return_, 1) := by decide +kernel
theorem own_ef16 (m : MethodId) (x0 : Addr) : entryFrame m #[(.ref x0)] 1 = mkF m 0 #[.val (.ref x0)] [] := by first | (simp [entryFrame, mkF, argsToLocals, Value.category]; done) | rfl
theorem own_pn3 : plainName "java/lang/Number" = true := by first | (simp [plainName, overriddenIn]; done) | decide +kernel
def own_Q16_95 (Z : State) (b2x12_91 : Addr) (h0 : Heap) (n0 : Nat) (v : Option Value) (h : Heap) (L : List Loc) : Prop := Fr n0 L ∧ Keep h0 h [] ∧ ((v = none ∧ True))
set_option maxRecDepth 65536 in
set_option maxHeartbeats 40000000 in
theorem own_rm16_95 (l : Launch) (Z : State) (a0 : Array Value) (hw : ∀ d ∈ tables_1, d.before a0 Z = true) (ws : List Jvm.Cond) (b2x12_91 : Addr) (h0 : Heap) (n0 : Nat) (Z0 : n0 ≤ h0.size) :
    MetFree l (⟨"java/lang/Number", "<init>", "()V"⟩ : MethodName) (head1 (Jvm.Cond.code (⟨"java/lang/Number", "<init>", "()V"⟩ : MethodName) jdk_18_method_1_code 1 none :: ws) ({ frames := 1, cells := 0, slots := 0, locals := 12 } : Room)) (fun a U => a = #[(.ref b2x12_91)] ∧ Z.Warmed39 U.vm ∧ U.heap = h0) (fun _ _ _ _ _ => True) (fun _ U o U' => ∃ v L, o = .returned v ∧ own_Q16_95 Z b2x12_91 h0 n0 v U'.heap L ∧ FrameEnd U o U' L ({ frames := 1, cells := 0, slots := 0, locals := 12 } : Room).cells ({ frames := 1, cells := 0, slots := 0, locals := 12 } : Room).slots) := by
  refine MetFree.of_bodySF (plainFor_of_name own_pn3) hisR ?_
  intro p e s m args below meth c s₁ Bd hml0 hP hK
  obtain ⟨rfl, hZ, hh⟩ := hP
  have hx := Bd.exec
  have hlk := Bd.notSynchronized
  have hret := Bd.returns
  have hby := Bd.bytes
  have hml : c.maxLocals = 1 := hml0
  have hown : s.vm.findClass "java/lang/Number" = some m.cls := findClass_of_methodNamed Bd.named
  have hnm := (name_of_methodNamed Bd.named Bd.method).1
  have X0 : Stand p l e ({ frames := 1, cells := 0, slots := 0, locals := 12 } : Room) s m #[(.ref b2x12_91)] below meth c s₁ [] 0 0 := Stand.of_body Bd
  have e0 : s₁.heap = h0 := by rw [← hh, Bd.state]; rfl
  have N0 := Fr.nil n0
  refine own_open (Q := own_Q16_95 Z b2x12_91 h0 n0) (own_ef16 m b2x12_91) ?_
  refine own_st (fun t k => XS.aloadN X0.here hx rfl (hb hby own_d16_0) rfl rfl k) ?_
  obtain ⟨T1, X1, e1, st1⟩ := initO X0 hx hZ hown (own_w hw 93 rfl) (own_w hw 7 rfl) (own_w hw 8 rfl) e0 (g := (mkF m 1 #[.val (.ref b2x12_91)] [(.ref b2x12_91)])) rfl (by rw [hml]; rfl) rfl (hb hby own_d16_1) (by decide) (W := 0) (by show 2 * 0 + _ ≤ _; exact Nat.le_of_eq rfl) (by decide)
  refine own_st st1 ?_
  show own_Go _ _ _ _ T1 (mkF m 4 #[.val (.ref b2x12_91)] [])
  exact own_retV X1 hx hlk hret (hb hby own_d16_4) (by decide) (by decide) e1 ⟨N0, (Keep.refl h0 []), ⟨rfl, trivial⟩⟩
theorem own_pd8 : parseMethodDescriptor "()V" = some ⟨[], none⟩ := by decide +kernel
theorem own_d15_0 : decode jdk_33_method_23_code 0 = .ok (.aload_n 0, 1) := by decide +kernel
theorem own_d15_1 : decode jdk_33_method_23_code 1 = .ok (.invokespecial 202, 3) := by decide +kernel
theorem own_d15_4 : decode jdk_33_method_23_code 4 = .ok (.aload_n 0, 1) := by decide +kernel
theorem own_d15_5 : decode jdk_33_method_23_code 5 = .ok (.iload_n 1, 1) := by decide +kernel
theorem own_d15_6 : decode jdk_33_method_23_code 6 = .ok (.putfield 205, 3) := by decide +kernel
theorem own_d15_9 : decode jdk_33_method_23_code 9 = .ok (.return_, 1) := by decide +kernel
theorem own_ef15 (m : MethodId) (x0 : Addr) (x1 : Int32) : entryFrame m #[(.ref x0), (.int x1)] 2 = mkF m 0 #[.val (.ref x0), .val (.int x1)] [] := by first | (simp [entryFrame, mkF, argsToLocals, Value.category]; done) | rfl
def own_Q15_94 (Z : State) (b2x12_91 : Addr) (ip1x15_94 : Int32) (h0 : Heap) (n0 : Nat) (v : Option Value) (h : Heap) (L : List Loc) : Prop := Fr n0 L ∧ Keep h0 h [b2x12_91] ∧ ((v = none ∧ Fld Z h b2x12_91 "java/lang/Integer" "value" "I" (.int ip1x15_94) ∧ True))
set_option maxRecDepth 65536 in
set_option maxHeartbeats 40000000 in
theorem own_rm15_94 (l : Launch) (Z : State) (a0 : Array Value) (hw : ∀ d ∈ tables_1, d.before a0 Z = true) (ws : List Jvm.Cond) (b2x12_91 : Addr) (ip1x15_94 : Int32) (h0 : Heap) (n0 : Nat) (Z0 : n0 ≤ h0.size) (P0 : Exa Z h0 b2x12_91 "java/lang/Integer") (P1 : Fld Z h0 b2x12_91 "java/lang/Integer" "value" "I" (.int (0 : Int32))) (g_b2x12_91 : n0 ≤ b2x12_91) :
    MetFree l (⟨"java/lang/Integer", "<init>", "(I)V"⟩ : MethodName) (head1 (Jvm.Cond.code (⟨"java/lang/Integer", "<init>", "(I)V"⟩ : MethodName) jdk_33_method_23_code 2 none :: ws) ({ frames := 2, cells := 0, slots := 0, locals := 24 } : Room)) (fun a U => a = #[(.ref b2x12_91), (.int ip1x15_94)] ∧ Z.Warmed39 U.vm ∧ U.heap = h0) (fun _ _ _ _ _ => True) (fun _ U o U' => ∃ v L, o = .returned v ∧ own_Q15_94 Z b2x12_91 ip1x15_94 h0 n0 v U'.heap L ∧ FrameEnd U o U' L ({ frames := 2, cells := 0, slots := 0, locals := 24 } : Room).cells ({ frames := 2, cells := 0, slots := 0, locals := 24 } : Room).slots) := by
  refine MetFree.of_bodySF (plainFor_of_name own_pn0) hisR ?_
  intro p e s m args below meth c s₁ Bd hml0 hP hK
  obtain ⟨rfl, hZ, hh⟩ := hP
  have hx := Bd.exec
  have hlk := Bd.notSynchronized
  have hret := Bd.returns
  have hby := Bd.bytes
  have hml : c.maxLocals = 2 := hml0
  have hown : s.vm.findClass "java/lang/Integer" = some m.cls := findClass_of_methodNamed Bd.named
  have hnm := (name_of_methodNamed Bd.named Bd.method).1
  have X0 : Stand p l e ({ frames := 2, cells := 0, slots := 0, locals := 24 } : Room) s m #[(.ref b2x12_91), (.int ip1x15_94)] below meth c s₁ [] 0 0 := Stand.of_body Bd
  have e0 : s₁.heap = h0 := by rw [← hh, Bd.state]; rfl
  have N0 := Fr.nil n0
  refine own_open (Q := own_Q15_94 Z b2x12_91 ip1x15_94 h0 n0) (own_ef15 m b2x12_91 ip1x15_94) ?_
  refine own_st (fun t k => XS.aloadN X0.here hx rfl (hb hby own_d15_0) rfl rfl k) ?_
  refine own_cI (a := b2x12_91) X0 hx hZ hown (own_w hw 87 rfl) (own_w hw 88 rfl) (own_w hw 91 rfl) (own_w hw 92 rfl) [] [] (own_rm16_95 l Z a0 hw [] b2x12_91 h0 n0 Z0 ) 0 (hb hby own_d15_1) (by rw [hml]; rfl) (lenOf own_pd8 rfl) e0 rfl rfl (by show 2 * 0 + _ ≤ _; exact Nat.le_of_eq rfl) (by decide) (by decide) (by decide) rfl (by decide) (by decide) fun v1 T1 L1 X1 hQ1 => ?_
  obtain ⟨N1q, Kq1, hL1⟩ := hQ1
  have N1 := Fr.app N0 N1q
  have K1 : Keep h0 T1.heap [b2x12_91] := (Keep.refl h0 [b2x12_91]).trans Kq1 all0
  have Z1 := Nat.le_trans Z0 Kq1.1
  rcases hL1 with ⟨rfl, -⟩
  · skip
    show own_Go _ _ _ _ T1 (mkF m 4 #[.val (.ref b2x12_91), .val (.int ip1x15_94)] [])
    refine own_st (fun t k => XS.aloadN X1.here hx rfl (hb hby own_d15_4) rfl rfl (XS.iloadN X1.here hx rfl (hb hby own_d15_5) rfl k)) ?_
    have f2 := (P0.keep Kq1)
    have f3 := (P1.keep Kq1 nin0)
    refine own_pF X1 hx hZ hown (own_w hw 94 rfl) Via.refl rfl f3 f2 (Or.inr ⟨(own_w hw 95 rfl), rfl, hnm⟩) (own_w hw 82 rfl) (ty := .int) (by decide) (hb hby own_d15_6) rfl rfl rfl rfl fun T4 h4 X4 e4 W4 => ?_
    have K4 : Keep h0 h4 [b2x12_91] := K1.wr W4 (Or.inl (List.mem_of_getElem? (i := 0) rfl))
    have Z4 := Nat.le_trans Z1 (Keep.of_wr W4).1
    have N4 := Fr.snoc X4 N1 g_b2x12_91
    have F4 : Fld Z h4 b2x12_91 "java/lang/Integer" "value" "I" (.int ip1x15_94) := f3.same W4
    show own_Go _ _ _ _ T4 (mkF m 9 #[.val (.ref b2x12_91), .val (.int ip1x15_94)] [])
    exact own_retV X4 hx hlk hret (hb hby own_d15_9) (by decide) (by decide) e4 ⟨N4, K4, ⟨rfl, F4, trivial⟩⟩
theorem own_d12_0 : decode jdk_33_method_22_code 0 = .ok (.iload_n 0, 1) := by decide +kernel
theorem own_d12_1 : decode jdk_33_method_22_code 1 = .ok (.bipush (-128), 2) := by decide +kernel
theorem own_d12_3 : decode jdk_33_method_22_code 3 = .ok (.if_icmp .lt 20, 3) := by decide +kernel
theorem own_d12_6 : decode jdk_33_method_22_code 6 = .ok (.iload_n 0, 1) := by decide +kernel
theorem own_d12_7 : decode jdk_33_method_22_code 7 = .ok (.getstatic 191, 3) := by decide +kernel
theorem own_d12_10 : decode jdk_33_method_22_code 10 = .ok (.if_icmp .gt 13, 3) := by decide +kernel
theorem own_d12_13 : decode jdk_33_method_22_code 13 = .ok (.getstatic 195, 3) := by decide +kernel
theorem own_d12_16 : decode jdk_33_method_22_code 16 = .ok (.iload_n 0, 1) := by decide +kernel
theorem own_d12_17 : decode jdk_33_method_22_code 17 = .ok (.sipush 128, 3) := by decide +kernel
theorem own_d12_20 : decode jdk_33_method_22_code 20 = .ok (.iadd, 1) := by decide +kernel
theorem own_d12_21 : decode jdk_33_method_22_code 21 = .ok (.aaload, 1) := by decide +kernel
theorem own_d12_22 : decode jdk_33_method_22_code 22 = .ok (.areturn, 1) := by decide +kernel
theorem own_d12_23 : decode jdk_33_method_22_code 23 = .ok (.new 1, 3) := by decide +kernel
theorem own_d12_26 : decode jdk_33_method_22_code 26 = .ok (.dup, 1) := by decide +kernel
theorem own_d12_27 : decode jdk_33_method_22_code 27 = .ok (.iload_n 0, 1) := by decide +kernel
theorem own_d12_28 : decode jdk_33_method_22_code 28 = .ok (.invokespecial 199, 3) := by decide +kernel
theorem own_d12_31 : decode jdk_33_method_22_code 31 = .ok (.areturn, 1) := by decide +kernel
theorem own_ef12 (m : MethodId) (x0 : Int32) : entryFrame m #[(.int x0)] 1 = mkF m 0 #[.val (.int x0)] [] := by first | (simp [entryFrame, mkF, argsToLocals, Value.category]; done) | rfl
def own_Q12_91 (Z : State) (ip0x12_91 : Int32) (w_cache : Addr) (h0 : Heap) (n0 : Nat) (v : Option Value) (h : Heap) (L : List Loc) : Prop := Fr n0 L ∧ Keep h0 h [] ∧ ((∃ gx : Addr, v = some (.ref gx) ∧ Exa Z h gx "java/lang/Integer" ∧ True))
set_option maxRecDepth 65536 in
set_option maxHeartbeats 40000000 in
theorem own_rm12_91 (l : Launch) (Z : State) (a0 : Array Value) (hw : ∀ d ∈ tables_1, d.before a0 Z = true) (ws : List Jvm.Cond) (ip0x12_91 : Int32) (w_cache : Addr) (h0 : Heap) (n0 : Nat) (Z0 : n0 ≤ h0.size) (P0 : Sta Z h0 "java/lang/Integer$IntegerCache" "high" "I" (.int (127 : Int32))) (P1 : Sta Z h0 "java/lang/Integer$IntegerCache" "cache" "[Ljava/lang/Integer;" (.ref w_cache)) (P2 : own_Ca Z h0 w_cache) :
    MetFree l (⟨"java/lang/Integer", "valueOf", "(I)Ljava/lang/Integer;"⟩ : MethodName) (head1 (Jvm.Cond.code (⟨"java/lang/Integer", "valueOf", "(I)Ljava/lang/Integer;"⟩ : MethodName) jdk_33_method_22_code 1 (some (.object "java/lang/Integer")) :: ws) ({ frames := 3, cells := 1, slots := 1, locals := 38 } : Room)) (fun a U => a = #[(.int ip0x12_91)] ∧ Z.Warmed39 U.vm ∧ U.heap = h0) (fun _ _ _ _ _ => True) (fun _ U o U' => ∃ v L, o = .returned v ∧ own_Q12_91 Z ip0x12_91 w_cache h0 n0 v U'.heap L ∧ FrameEnd U o U' L ({ frames := 3, cells := 1, slots := 1, locals := 38 } : Room).cells ({ frames := 3, cells := 1, slots := 1, locals := 38 } : Room).slots) := by
  refine MetFree.of_bodySF (plainFor_of_name own_pn0) hisR ?_
  intro p e s m args below meth c s₁ Bd hml0 hP hK
  obtain ⟨rfl, hZ, hh⟩ := hP
  have hx := Bd.exec
  have hlk := Bd.notSynchronized
  have hret := Bd.returns
  have hby := Bd.bytes
  have hml : c.maxLocals = 1 := hml0
  have hown : s.vm.findClass "java/lang/Integer" = some m.cls := findClass_of_methodNamed Bd.named
  have hnm := (name_of_methodNamed Bd.named Bd.method).1
  have X0 : Stand p l e ({ frames := 3, cells := 1, slots := 1, locals := 38 } : Room) s m #[(.int ip0x12_91)] below meth c s₁ [] 0 0 := Stand.of_body Bd
  have e0 : s₁.heap = h0 := by rw [← hh, Bd.state]; rfl
  have N0 := Fr.nil n0
  refine own_open (Q := own_Q12_91 Z ip0x12_91 w_cache h0 n0) (own_ef12 m ip0x12_91) ?_
  refine own_st (fun t k => XS.iloadN X0.here hx rfl (hb hby own_d12_0) rfl (XS.bipush X0.here hx rfl (hb hby own_d12_1) k)) ?_
  show own_Go _ _ _ _ s₁ (mkF m 3 #[.val (.int ip0x12_91)] [(.int (-128 : Int32)), (.int ip0x12_91)])
  by_cases hc1 : ip0x12_91 < (-128 : Int32)
  · skip
    refine own_st (fun t k => XS.icmpYes X0.here hx rfl (pc0 := 3) (pc' := 23) rfl (hb hby own_d12_3) rfl (tlt hc1).1 (by decide) (by decide) k) ?_
    obtain ⟨T2, h2, X2, e2, E2, A2, D2, -, st2⟩ := newO X0 hx hZ hown (own_w hw 81 rfl) (own_w hw 82 rfl) (own_w hw 29 rfl) e0 (g := (mkF m 23 #[.val (.int ip0x12_91)] [])) rfl (hb hby own_d12_23) (by decide) (by decide)
    obtain ⟨b2x12_91, g2⟩ : ∃ z, z = h0.size := ⟨_, rfl⟩
    rw [← g2] at A2 D2 st2
    have g_b2x12_91 : n0 ≤ b2x12_91 := Nat.le_trans Z0 (Nat.le_of_eq g2.symm)
    have sz_b2x12_91 : h0.size ≤ b2x12_91 := Nat.le_trans (Keep.refl h0 []).1 (Nat.le_of_eq g2.symm)
    refine own_st st2 ?_
    have K2 : Keep h0 h2 [] := (Keep.refl h0 []).ext E2
    have Z2 := Nat.le_trans Z0 E2.1
    have F2_95 : Fld Z h2 b2x12_91 "java/lang/Integer" "value" "I" (.int (0 : Int32)) := D2 (Or.inr (own_w hw 95 rfl)) (ty := .int) (by decide)
    refine own_st (fun t k => XS.dup X2.here hx rfl (hb hby own_d12_26) rfl rfl k) ?_
    show own_Go _ _ _ _ T2 (mkF m 27 #[.val (.int ip0x12_91)] [(.ref b2x12_91), (.ref b2x12_91)])
    refine own_st (fun t k => XS.iloadN X2.here hx rfl (hb hby own_d12_27) rfl k) ?_
    refine own_cI (a := b2x12_91) X2 hx hZ hown (own_w hw 83 rfl) (own_w hw 84 rfl) (own_w hw 29 rfl) (own_w hw 86 rfl) [(.int ip0x12_91)] [(.ref b2x12_91)] (own_rm15_94 l Z a0 hw [] b2x12_91 ip0x12_91 h2 n0 Z2 A2 F2_95 g_b2x12_91) 1 (hb hby own_d12_28) (by rw [hml]; rfl) (lenOf own_pd2 rfl) e2 rfl rfl (by show 2 * 0 + _ ≤ _; exact Nat.le_of_eq rfl) (by decide) (by decide) (by decide) rfl (by decide) (by decide) fun v3 T3 L3 X3 hQ3 => ?_
    obtain ⟨N3q, Kq3, hL3⟩ := hQ3
    have N3 := Fr.app N0 N3q
    have K3 : Keep h0 T3.heap [] := K2.trans Kq3 (allS (Or.inr sz_b2x12_91) all0)
    have Z3 := Nat.le_trans Z2 Kq3.1
    rcases hL3 with ⟨rfl, Fc3_0_0, -⟩
    · skip
      have f4 := (A2.keep Kq3)
      exact own_retA X3 hx hlk hret rfl rfl (hb hby own_d12_31) (by decide) (by decide) rfl ⟨N3, K3, ⟨b2x12_91, rfl, f4, trivial⟩⟩
  · skip
    refine own_st (fun t k => XS.icmpNo X0.here hx rfl (hb hby own_d12_3) rfl (flt hc1).1 k) ?_
    show own_Go _ _ _ _ s₁ (mkF m 6 #[.val (.int ip0x12_91)] [])
    refine own_st (fun t k => XS.iloadN X0.here hx rfl (hb hby own_d12_6) rfl k) ?_
    refine own_gS X0 hx hZ hown (own_w hw 65 rfl) e0 P0 (hb hby own_d12_7) rfl fun T5 X5 e5 => ?_
    by_cases hc6 : (127 : Int32) < ip0x12_91
    · skip
      refine own_st (fun t k => XS.icmpYes X5.here hx rfl (pc0 := 10) (pc' := 23) rfl (hb hby own_d12_10) rfl (tlt hc6).2.2.1 (by decide) (by decide) k) ?_
      show own_Go _ _ _ _ T5 (mkF m 23 #[.val (.int ip0x12_91)] [])
      obtain ⟨T7, h7, X7, e7, E7, A7, D7, -, st7⟩ := newO X5 hx hZ hown (own_w hw 81 rfl) (own_w hw 82 rfl) (own_w hw 29 rfl) e5 (g := (mkF m 23 #[.val (.int ip0x12_91)] [])) rfl (hb hby own_d12_23) (by decide) (by decide)
      obtain ⟨b7x12_91, g7⟩ : ∃ z, z = h0.size := ⟨_, rfl⟩
      rw [← g7] at A7 D7 st7
      have g_b7x12_91 : n0 ≤ b7x12_91 := Nat.le_trans Z0 (Nat.le_of_eq g7.symm)
      have sz_b7x12_91 : h0.size ≤ b7x12_91 := Nat.le_trans (Keep.refl h0 []).1 (Nat.le_of_eq g7.symm)
      refine own_st st7 ?_
      have K7 : Keep h0 h7 [] := (Keep.refl h0 []).ext E7
      have Z7 := Nat.le_trans Z0 E7.1
      have F7_95 : Fld Z h7 b7x12_91 "java/lang/Integer" "value" "I" (.int (0 : Int32)) := D7 (Or.inr (own_w hw 95 rfl)) (ty := .int) (by decide)
      refine own_st (fun t k => XS.dup X7.here hx rfl (hb hby own_d12_26) rfl rfl (XS.iloadN X7.here hx rfl (hb hby own_d12_27) rfl k)) ?_
      show own_Go _ _ _ _ T7 (mkF m 28 #[.val (.int ip0x12_91)] [(.int ip0x12_91), (.ref b7x12_91), (.ref b7x12_91)])
      refine own_cI (a := b7x12_91) X7 hx hZ hown (own_w hw 83 rfl) (own_w hw 84 rfl) (own_w hw 29 rfl) (own_w hw 86 rfl) [(.int ip0x12_91)] [(.ref b7x12_91)] (own_rm15_94 l Z a0 hw [] b7x12_91 ip0x12_91 h7 n0 Z7 A7 F7_95 g_b7x12_91) 1 (hb hby own_d12_28) (by rw [hml]; rfl) (lenOf own_pd2 rfl) e7 rfl rfl (by show 2 * 0 + _ ≤ _; exact Nat.le_of_eq rfl) (by decide) (by decide) (by decide) rfl (by decide) (by decide) fun v8 T8 L8 X8 hQ8 => ?_
      obtain ⟨N8q, Kq8, hL8⟩ := hQ8
      have N8 := Fr.app N0 N8q
      have K8 : Keep h0 T8.heap [] := K7.trans Kq8 (allS (Or.inr sz_b7x12_91) all0)
      have Z8 := Nat.le_trans Z7 Kq8.1
      rcases hL8 with ⟨rfl, Fc8_0_0, -⟩
      · skip
        have f9 := (A7.keep Kq8)
        exact own_retA X8 hx hlk hret rfl rfl (hb hby own_d12_31) (by decide) (by decide) rfl ⟨N8, K8, ⟨b7x12_91, rfl, f9, trivial⟩⟩
    · skip
      refine own_st (fun t k => XS.icmpNo X5.here hx rfl (hb hby own_d12_10) rfl (flt hc6).2.2.1 k) ?_
      refine own_gS X5 hx hZ hown (own_w hw 67 rfl) e5 P1 (hb hby own_d12_13) rfl fun T10 X10 e10 => ?_
      show own_Go _ _ _ _ T10 (mkF m 16 #[.val (.int ip0x12_91)] [(.ref w_cache)])
      refine own_st (fun t k => XS.iloadN X10.here hx rfl (hb hby own_d12_16) rfl (XS.sipush X10.here hx rfl (hb hby own_d12_17) (XS.iadd X10.here hx rfl (hb hby own_d12_20) rfl k))) ?_
      show own_Go _ _ _ _ T10 (mkF m 21 #[.val (.int ip0x12_91)] [(.int (ip0x12_91 + (128 : Int32))), (.ref w_cache)])
      obtain ⟨c11, A11, S11, H11⟩ := P2
      have p11 := Jvm.Free.IntBox.place_ok _ hc1 hc6
      obtain ⟨x11, q11, Ex11⟩ := H11 _ p11.2
      refine own_st (X10.aaload hx (j := (ip0x12_91 + (128 : Int32))) (by rw [e10]; exact A11.1) (State.isArrayOf_alike hZ.alike A11.2.1) rfl A11.2.2 (by rw [S11]; exact p11.1) q11 (g := (mkF m 21 #[.val (.int ip0x12_91)] [(.int (ip0x12_91 + (128 : Int32))), (.ref w_cache)])) rfl rfl (hb hby own_d12_21)) ?_
      exact own_retA X10 hx hlk hret rfl rfl (hb hby own_d12_22) (by decide) (by decide) e10 ⟨N0, (Keep.refl h0 []), ⟨x11, rfl, Ex11, trivial⟩⟩
theorem own_pd9 : parseMethodDescriptor "(I)Ljava/lang/Integer;" = some ⟨[.int], some (.object "java/lang/Integer")⟩ := by decide +kernel
theorem own_d13_11 : decode prog_69_method_10_code 11 = .ok (.aload_n 0, 1) := by decide +kernel
theorem own_d13_12 : decode prog_69_method_10_code 12 = .ok (.aload_n 0, 1) := by decide +kernel
theorem own_d13_13 : decode prog_69_method_10_code 13 = .ok (.getfield 20, 3) := by decide +kernel
theorem own_d13_16 : decode prog_69_method_10_code 16 = .ok (.arraylength, 1) := by decide +kernel
theorem own_d13_17 : decode prog_69_method_10_code 17 = .ok (.anewarray 2, 3) := by decide +kernel
theorem own_d13_20 : decode prog_69_method_10_code 20 = .ok (.putfield 47, 3) := by decide +kernel
theorem own_d13_30 : decode prog_69_method_10_code 30 = .ok (.aload_n 0, 1) := by decide +kernel
theorem own_d13_31 : decode prog_69_method_10_code 31 = .ok (.getfield 47, 3) := by decide +kernel
theorem own_d13_34 : decode prog_69_method_10_code 34 = .ok (.iload_n 1, 1) := by decide +kernel
theorem own_d13_35 : decode prog_69_method_10_code 35 = .ok (.aload_n 2, 1) := by decide +kernel
theorem own_d13_36 : decode prog_69_method_10_code 36 = .ok (.aastore, 1) := by decide +kernel
theorem own_ef13 (m : MethodId) (x0 : Addr) (x1 : Int32) (x2 : Addr) : entryFrame m #[(.ref x0), (.int x1), (.ref x2)] 3 = mkF m 0 #[.val (.ref x0), .val (.int x1), .val (.ref x2)] [] := by first | (simp [entryFrame, mkF, argsToLocals, Value.category]; done) | rfl
def own_Q13_97 (Z : State) (t10 : Addr) (n11 : Int32) (gxc5028 : Addr) (u10 : Addr) (h0 : Heap) (n0 : Nat) (v : Option Value) (h : Heap) (L : List Loc) : Prop := Fr n0 L ∧ Keep h0 h [t10] ∧ ((∃ b3x13_97 : Addr, ∃ k3x13_97 : ClassId, v = none ∧ h0.size ≤ b3x13_97 ∧ Fld Z h t10 own_s0 "values" own_s2 (.ref b3x13_97) ∧ Fld Z h t10 own_s0 "used" "[Z" (.ref u10) ∧ Arh Z h b3x13_97 k3x13_97 (.object own_s1) (8 : Int32) [(n11, (.ref gxc5028))] [] .null ∧ Ovr Z k3x13_97 own_s1 ∧ Exa Z h b3x13_97 own_s2 ∧ True))
set_option maxRecDepth 65536 in
set_option maxHeartbeats 40000000 in
theorem own_rm13_97 (l : Launch) (Z : State) (a0 : Array Value) (hw : ∀ d ∈ tables_1, d.before a0 Z = true) (ws : List Jvm.Cond) (t10 : Addr) (n11 : Int32) (gxc5028 : Addr) (u10 : Addr) (h0 : Heap) (n0 : Nat) (Z0 : n0 ≤ h0.size) (P0 : Fld Z h0 t10 own_s0 "values" own_s2 .null) (P1 : Fld Z h0 t10 own_s0 "used" "[Z" (.ref u10)) (P2 : own_Al Z h0 u10 (8 : Int32)) (P3 : Exa Z h0 t10 own_s0) (g_t10 : n0 ≤ t10) (R_n11 : n11 = (0 : Int32) ∨ n11 = (1 : Int32) ∨ n11 = (2 : Int32) ∨ n11 = (3 : Int32) ∨ n11 = (4 : Int32) ∨ n11 = (5 : Int32) ∨ n11 = (6 : Int32) ∨ n11 = (7 : Int32)) (P6 : Exa Z h0 gxc5028 "java/lang/Integer") :
    MetFree l own_y1 (head1 (Jvm.Cond.code own_y1 prog_69_method_10_code 3 none :: ws) ({ frames := 0, cells := 1, slots := 8, locals := 0 } : Room)) (fun a U => a = #[(.ref t10), (.int n11), (.ref gxc5028)] ∧ Z.Warmed39 U.vm ∧ U.heap = h0) (fun _ _ _ _ _ => True) (fun _ U o U' => ∃ v L, o = .returned v ∧ own_Q13_97 Z t10 n11 gxc5028 u10 h0 n0 v U'.heap L ∧ FrameEnd U o U' L ({ frames := 0, cells := 1, slots := 8, locals := 0 } : Room).cells ({ frames := 0, cells := 1, slots := 8, locals := 0 } : Room).slots) := by
  refine MetFree.of_bodySF (plainFor_of_name own_pn1) hisR ?_
  intro p e s m args below meth c s₁ Bd hml0 hP hK
  obtain ⟨rfl, hZ, hh⟩ := hP
  have hx := Bd.exec
  have hlk := Bd.notSynchronized
  have hret := Bd.returns
  have hby := Bd.bytes
  have hml : c.maxLocals = 3 := hml0
  have hown : s.vm.findClass own_s0 = some m.cls := findClass_of_methodNamed Bd.named
  have hnm := (name_of_methodNamed Bd.named Bd.method).1
  have X0 : Stand p l e ({ frames := 0, cells := 1, slots := 8, locals := 0 } : Room) s m #[(.ref t10), (.int n11), (.ref gxc5028)] below meth c s₁ [] 0 0 := Stand.of_body Bd
  have e0 : s₁.heap = h0 := by rw [← hh, Bd.state]; rfl
  have N0 := Fr.nil n0
  refine own_open (Q := own_Q13_97 Z t10 n11 gxc5028 u10 h0 n0) (own_ef13 m t10 n11 gxc5028) ?_
  refine own_st (fun t k => XS.aloadN X0.here hx rfl (hb hby own_d13_0) rfl rfl k) ?_
  refine own_gF X0 hx hZ hown (own_w hw 25 rfl) Via.refl e0 P0 (hb hby own_d13_1) rfl rfl fun T1 X1 e1 => ?_
  show own_Go _ _ _ _ T1 (mkF m 4 #[.val (.ref t10), .val (.int n11), .val (.ref gxc5028)] [.null])
  refine own_st (fun t k => XS.ifnonnullNo X1.here hx rfl (hb hby own_d13_4) rfl (XS.aloadN X1.here hx rfl (hb hby own_d13_7) rfl rfl (XS.ifnullNo X1.here hx rfl (hb hby own_d13_8) rfl k))) ?_
  show own_Go _ _ _ _ T1 (mkF m 11 #[.val (.ref t10), .val (.int n11), .val (.ref gxc5028)] [])
  refine own_st (fun t k => XS.aloadN X1.here hx rfl (hb hby own_d13_11) rfl rfl (XS.aloadN X1.here hx rfl (hb hby own_d13_12) rfl rfl k)) ?_
  refine own_gF X1 hx hZ hown (own_w hw 23 rfl) Via.refl e1 P1 (hb hby own_d13_13) rfl rfl fun T2 X2 e2 => ?_
  show own_Go _ _ _ _ T2 (mkF m 16 #[.val (.ref t10), .val (.int n11), .val (.ref gxc5028)] [(.ref u10), (.ref t10)])
  refine own_st (own_alenA X2 hx hZ e2 P2 (g := (mkF m 16 #[.val (.ref t10), .val (.int n11), .val (.ref gxc5028)] [(.ref u10), (.ref t10)])) rfl rfl (hb hby own_d13_16)) ?_
  obtain ⟨T3, h3, k3x13_97, X3, e3, E3, A3, Ex3, O3, st3⟩ := newRE X2 hx hZ hown (own_w hw 73 rfl) (own_w hw 74 rfl) e2 (g := (mkF m 17 #[.val (.ref t10), .val (.int n11), .val (.ref gxc5028)] [(.int (8 : Int32)), (.ref t10)])) rfl (hb hby own_d13_17) rfl (by decide) (cap := 8) (by decide) (by decide) (by decide) (by decide) (ad := own_s2) (by decide +kernel)
  obtain ⟨b3x13_97, g3⟩ : ∃ z, z = h0.size := ⟨_, rfl⟩
  rw [← g3] at A3 Ex3 st3
  have g_b3x13_97 : n0 ≤ b3x13_97 := Nat.le_trans Z0 (Nat.le_of_eq g3.symm)
  have sz_b3x13_97 : h0.size ≤ b3x13_97 := Nat.le_trans (Keep.refl h0 [t10]).1 (Nat.le_of_eq g3.symm)
  refine own_st st3 ?_
  have K3 : Keep h0 h3 [t10] := (Keep.refl h0 [t10]).ext E3
  have Z3 := Nat.le_trans Z0 E3.1
  have V3 : Arh Z h3 b3x13_97 k3x13_97 (.object own_s1) (8 : Int32) [] [] .null := (Arv.new A3 (by decide)).arh
  have f4 := (P3.ext E3)
  have f5 := (P0.ext E3)
  refine own_pF X3 hx hZ hown (own_w hw 25 rfl) Via.refl e3 f5 f4 (Or.inl (own_w hw 26 rfl)) (own_w hw 1 rfl) (ty := (.array (.object own_s1))) (by decide) (hb hby own_d13_20) rfl rfl rfl rfl fun T6 h6 X6 e6 W6 => ?_
  have K6 : Keep h0 h6 [t10] := K3.wr W6 (Or.inl (List.mem_of_getElem? (i := 0) rfl))
  have Z6 := Nat.le_trans Z3 (Keep.of_wr W6).1
  have N6 := Fr.snoc X6 N0 g_t10
  have F6 : Fld Z h6 t10 own_s0 "values" own_s2 (.ref b3x13_97) := f5.same W6
  show own_Go _ _ _ _ T6 (mkF m 23 #[.val (.ref t10), .val (.int n11), .val (.ref gxc5028)] [])
  refine own_st (fun t k => XS.aloadN X6.here hx rfl (hb hby own_d13_23) rfl rfl k) ?_
  refine own_gF X6 hx hZ hown (own_w hw 25 rfl) Via.refl e6 F6 (hb hby own_d13_24) rfl rfl fun T7 X7 e7 => ?_
  refine own_st (fun t k => XS.ifnullNo X7.here hx rfl (hb hby own_d13_27) rfl k) ?_
  show own_Go _ _ _ _ T7 (mkF m 30 #[.val (.ref t10), .val (.int n11), .val (.ref gxc5028)] [])
  refine own_st (fun t k => XS.aloadN X7.here hx rfl (hb hby own_d13_30) rfl rfl k) ?_
  refine own_gF X7 hx hZ hown (own_w hw 25 rfl) Via.refl e7 F6 (hb hby own_d13_31) rfl rfl fun T8 X8 e8 => ?_
  refine own_st (fun t k => XS.iloadN X8.here hx rfl (hb hby own_d13_34) rfl k) ?_
  show own_Go _ _ _ _ T8 (mkF m 35 #[.val (.ref t10), .val (.int n11), .val (.ref gxc5028)] [(.int n11), (.ref b3x13_97)])
  refine own_st (fun t k => XS.aloadN X8.here hx rfl (hb hby own_d13_35) rfl rfl k) ?_
  have ne9 : t10 ≠ b3x13_97 := Nat.ne_of_lt (Nat.lt_of_lt_of_le P0.lt sz_b3x13_97)
  have f10 := (V3.other W6 (Ne.symm ne9))
  obtain ⟨c11, A11, q11, S11, M11, H11, G11⟩ := f10
  have f12 := (P6.keep K6)
  obtain ⟨T11, h11, X11, e11, W11, st11⟩ := stR X8 hx hZ e8 A11 (j := n11) (inb_of S11 ((by decide +kernel : ∀ x ∈ own_D8, (¬ x < 0 ∧ x < (8 : Int32))) _ (own_m8 R_n11) )) rfl (Sto.ofV A11 q11 O3 (Ins.of_exa f12 (own_w hw 75 rfl))) (g := (mkF m 36 #[.val (.ref t10), .val (.int n11), .val (.ref gxc5028)] [(.ref gxc5028), (.int n11), (.ref b3x13_97)])) rfl rfl (hb hby own_d13_36)
  refine own_st st11 ?_
  have K11 : Keep h0 h11 [t10] := K6.wr W11 (Or.inr sz_b3x13_97)
  have Z11 := Nat.le_trans Z6 (Keep.of_wr W11).1
  have N11 := Fr.snoc X11 N6 g_b3x13_97
  have V11 : Arh Z h11 b3x13_97 k3x13_97 (.object own_s1) (8 : Int32) [(n11, (.ref gxc5028))] [] .null := Arh.push A11 q11 S11 M11 H11 G11 rfl W11 (inb_of S11 ((by decide +kernel : ∀ x ∈ own_D8, (¬ x < 0 ∧ x < (8 : Int32))) _ (own_m8 R_n11) ))
  have f13 := (F6.other W11 (Or.inl ne9))
  have f14 := (((P1.ext E3).other W6 (Or.inr (slot_ne (Or.inl (own_w hw 24 rfl)) (Or.inl (own_w hw 26 rfl)) (by decide) (t := (.array .boolean)) (t' := (.array (.object own_s1))) (by decide) (by decide)))).other W11 (Or.inl ne9))
  have f15 := ((Ex3.wr W6).wr W11)
  exact own_retV X11 hx hlk hret (hb hby own_d13_37) (by decide) (by decide) e11 ⟨N11, K11, ⟨b3x13_97, _, rfl, sz_b3x13_97, f13, f14, V11, O3, f15, trivial⟩⟩
theorem own_d14_11 : decode prog_69_method_9_code 11 = .ok (.aload_n 0, 1) := by decide +kernel
theorem own_d14_12 : decode prog_69_method_9_code 12 = .ok (.getfield 47, 3) := by decide +kernel
theorem own_d14_15 : decode prog_69_method_9_code 15 = .ok (.iload_n 1, 1) := by decide +kernel
theorem own_d14_16 : decode prog_69_method_9_code 16 = .ok (.aaload, 1) := by decide +kernel
def own_Q14_98 (Z : State) (t10 : Addr) (n11 : Int32) (b3x13_97c5053 : Addr) (k3x13_97c5053 : ClassId) (gxc5028 : Addr) (h0 : Heap) (n0 : Nat) (v : Option Value) (h : Heap) (L : List Loc) : Prop := Fr n0 L ∧ Keep h0 h [] ∧ ((v = some (.ref gxc5028) ∧ True))
set_option maxRecDepth 65536 in
set_option maxHeartbeats 40000000 in
theorem own_rm14_98 (l : Launch) (Z : State) (a0 : Array Value) (hw : ∀ d ∈ tables_1, d.before a0 Z = true) (ws : List Jvm.Cond) (t10 : Addr) (n11 : Int32) (b3x13_97c5053 : Addr) (k3x13_97c5053 : ClassId) (gxc5028 : Addr) (h0 : Heap) (n0 : Nat) (Z0 : n0 ≤ h0.size) (P0 : Fld Z h0 t10 own_s0 "values" own_s2 (.ref b3x13_97c5053)) (P1 : Arh Z h0 b3x13_97c5053 k3x13_97c5053 (.object own_s1) (8 : Int32) [(n11, (.ref gxc5028))] [] .null) (OFc5053_0_2 : Ovr Z k3x13_97c5053 own_s1) (R_n11 : n11 = (0 : Int32) ∨ n11 = (1 : Int32) ∨ n11 = (2 : Int32) ∨ n11 = (3 : Int32) ∨ n11 = (4 : Int32) ∨ n11 = (5 : Int32) ∨ n11 = (6 : Int32) ∨ n11 = (7 : Int32)) :
    MetFree l own_y0 (head1 (Jvm.Cond.code own_y0 prog_69_method_9_code 2 (some (.object own_s1)) :: ws) ({ frames := 0, cells := 0, slots := 0, locals := 0 } : Room)) (fun a U => a = #[(.ref t10), (.int n11)] ∧ Z.Warmed39 U.vm ∧ U.heap = h0) (fun _ _ _ _ _ => True) (fun _ U o U' => ∃ v L, o = .returned v ∧ own_Q14_98 Z t10 n11 b3x13_97c5053 k3x13_97c5053 gxc5028 h0 n0 v U'.heap L ∧ FrameEnd U o U' L ({ frames := 0, cells := 0, slots := 0, locals := 0 } : Room).cells ({ frames := 0, cells := 0, slots := 0, locals := 0 } : Room).slots) := by
  refine MetFree.of_bodySF (plainFor_of_name own_pn1) hisR ?_
  intro p e s m args below meth c s₁ Bd hml0 hP hK
  obtain ⟨rfl, hZ, hh⟩ := hP
  have hx := Bd.exec
  have hlk := Bd.notSynchronized
  have hret := Bd.returns
  have hby := Bd.bytes
  have hml : c.maxLocals = 2 := hml0
  have hown : s.vm.findClass own_s0 = some m.cls := findClass_of_methodNamed Bd.named
  have hnm := (name_of_methodNamed Bd.named Bd.method).1
  have X0 : Stand p l e ({ frames := 0, cells := 0, slots := 0, locals := 0 } : Room) s m #[(.ref t10), (.int n11)] below meth c s₁ [] 0 0 := Stand.of_body Bd
  have e0 : s₁.heap = h0 := by rw [← hh, Bd.state]; rfl
  have N0 := Fr.nil n0
  refine own_open (Q := own_Q14_98 Z t10 n11 b3x13_97c5053 k3x13_97c5053 gxc5028 h0 n0) (own_ef14 m t10 n11) ?_
  refine own_st (fun t k => XS.aloadN X0.here hx rfl (hb hby own_d14_0) rfl rfl k) ?_
  refine own_gF X0 hx hZ hown (own_w hw 25 rfl) Via.refl e0 P0 (hb hby own_d14_1) rfl rfl fun T1 X1 e1 => ?_
  show own_Go _ _ _ _ T1 (mkF m 4 #[.val (.ref t10), .val (.int n11)] [(.ref b3x13_97c5053)])
  refine own_st (fun t k => XS.ifnonnullYes X1.here hx rfl (pc0 := 4) (pc' := 11) rfl (hb hby own_d14_4) rfl (by decide) (by decide) (XS.aloadN X1.here hx rfl (hb hby own_d14_11) rfl rfl k)) ?_
  refine own_gF X1 hx hZ hown (own_w hw 25 rfl) Via.refl e1 P0 (hb hby own_d14_12) rfl rfl fun T2 X2 e2 => ?_
  show own_Go _ _ _ _ T2 (mkF m 15 #[.val (.ref t10), .val (.int n11)] [(.ref b3x13_97c5053)])
  refine own_st (fun t k => XS.iloadN X2.here hx rfl (hb hby own_d14_15) rfl k) ?_
  have i3 : ¬ n11 < 0 ∧ n11 < (8 : Int32) := ((by decide +kernel : ∀ x ∈ own_D8, (¬ x < 0 ∧ x < (8 : Int32))) _ (own_m8 R_n11) )
  refine own_st (own_aaloadH X2 hx hZ e2 P1 rfl i3 (v := (.ref gxc5028)) (getH_hit i3.1 rfl) (g := (mkF m 16 #[.val (.ref t10), .val (.int n11)] [(.int n11), (.ref b3x13_97c5053)])) rfl rfl (hb hby own_d14_16)) ?_
  exact own_retA X2 hx hlk hret rfl rfl (hb hby own_d14_17) (by decide) (by decide) e2 ⟨N0, (Keep.refl h0 []), ⟨rfl, trivial⟩⟩
def own_Q14_99 (Z : State) (t10 : Addr) (n12 : Int32) (b3x13_97c5053 : Addr) (k3x13_97c5053 : ClassId) (n11 : Int32) (gxc5028 : Addr) (h0 : Heap) (n0 : Nat) (v : Option Value) (h : Heap) (L : List Loc) : Prop := Fr n0 L ∧ Keep h0 h [] ∧ ((v = some (.ref gxc5028) ∧ (n12 = n11) ∧ True) ∨ (v = some .null ∧ (¬ (n12 = n11)) ∧ True))
set_option maxRecDepth 65536 in
set_option maxHeartbeats 40000000 in
theorem own_rm14_99 (l : Launch) (Z : State) (a0 : Array Value) (hw : ∀ d ∈ tables_1, d.before a0 Z = true) (ws : List Jvm.Cond) (t10 : Addr) (n12 : Int32) (b3x13_97c5053 : Addr) (k3x13_97c5053 : ClassId) (n11 : Int32) (gxc5028 : Addr) (h0 : Heap) (n0 : Nat) (Z0 : n0 ≤ h0.size) (P0 : Fld Z h0 t10 own_s0 "values" own_s2 (.ref b3x13_97c5053)) (P1 : Arh Z h0 b3x13_97c5053 k3x13_97c5053 (.object own_s1) (8 : Int32) [(n11, (.ref gxc5028))] [] .null) (OFc5053_0_2 : Ovr Z k3x13_97c5053 own_s1) (R_n12 : n12 = (0 : Int32) ∨ n12 = (1 : Int32) ∨ n12 = (2 : Int32) ∨ n12 = (3 : Int32) ∨ n12 = (4 : Int32) ∨ n12 = (5 : Int32) ∨ n12 = (6 : Int32) ∨ n12 = (7 : Int32)) (R_n11 : n11 = (0 : Int32) ∨ n11 = (1 : Int32) ∨ n11 = (2 : Int32) ∨ n11 = (3 : Int32) ∨ n11 = (4 : Int32) ∨ n11 = (5 : Int32) ∨ n11 = (6 : Int32) ∨ n11 = (7 : Int32)) :
    MetFree l own_y0 (head1 (Jvm.Cond.code own_y0 prog_69_method_9_code 2 (some (.object own_s1)) :: ws) ({ frames := 0, cells := 0, slots := 0, locals := 0 } : Room)) (fun a U => a = #[(.ref t10), (.int n12)] ∧ Z.Warmed39 U.vm ∧ U.heap = h0) (fun _ _ _ _ _ => True) (fun _ U o U' => ∃ v L, o = .returned v ∧ own_Q14_99 Z t10 n12 b3x13_97c5053 k3x13_97c5053 n11 gxc5028 h0 n0 v U'.heap L ∧ FrameEnd U o U' L ({ frames := 0, cells := 0, slots := 0, locals := 0 } : Room).cells ({ frames := 0, cells := 0, slots := 0, locals := 0 } : Room).slots) := by
  refine MetFree.of_bodySF (plainFor_of_name own_pn1) hisR ?_
  intro p e s m args below meth c s₁ Bd hml0 hP hK
  obtain ⟨rfl, hZ, hh⟩ := hP
  have hx := Bd.exec
  have hlk := Bd.notSynchronized
  have hret := Bd.returns
  have hby := Bd.bytes
  have hml : c.maxLocals = 2 := hml0
  have hown : s.vm.findClass own_s0 = some m.cls := findClass_of_methodNamed Bd.named
  have hnm := (name_of_methodNamed Bd.named Bd.method).1
  have X0 : Stand p l e ({ frames := 0, cells := 0, slots := 0, locals := 0 } : Room) s m #[(.ref t10), (.int n12)] below meth c s₁ [] 0 0 := Stand.of_body Bd
  have e0 : s₁.heap = h0 := by rw [← hh, Bd.state]; rfl
  have N0 := Fr.nil n0
  refine own_open (Q := own_Q14_99 Z t10 n12 b3x13_97c5053 k3x13_97c5053 n11 gxc5028 h0 n0) (own_ef14 m t10 n12) ?_
  refine own_st (fun t k => XS.aloadN X0.here hx rfl (hb hby own_d14_0) rfl rfl k) ?_
  refine own_gF X0 hx hZ hown (own_w hw 25 rfl) Via.refl e0 P0 (hb hby own_d14_1) rfl rfl fun T1 X1 e1 => ?_
  show own_Go _ _ _ _ T1 (mkF m 4 #[.val (.ref t10), .val (.int n12)] [(.ref b3x13_97c5053)])
  refine own_st (fun t k => XS.ifnonnullYes X1.here hx rfl (pc0 := 4) (pc' := 11) rfl (hb hby own_d14_4) rfl (by decide) (by decide) (XS.aloadN X1.here hx rfl (hb hby own_d14_11) rfl rfl k)) ?_
  refine own_gF X1 hx hZ hown (own_w hw 25 rfl) Via.refl e1 P0 (hb hby own_d14_12) rfl rfl fun T2 X2 e2 => ?_
  show own_Go _ _ _ _ T2 (mkF m 15 #[.val (.ref t10), .val (.int n12)] [(.ref b3x13_97c5053)])
  refine own_st (fun t k => XS.iloadN X2.here hx rfl (hb hby own_d14_15) rfl k) ?_
  have i3 : ¬ n12 < 0 ∧ n12 < (8 : Int32) := ((by decide +kernel : ∀ x ∈ own_D8, (¬ x < 0 ∧ x < (8 : Int32))) _ (own_m8 R_n12) )
  by_cases hc4 : n12 = n11
  · skip
    refine own_st (own_aaloadH X2 hx hZ e2 P1 rfl i3 (v := (.ref gxc5028)) (getH_hit i3.1 hc4) (g := (mkF m 16 #[.val (.ref t10), .val (.int n12)] [(.int n12), (.ref b3x13_97c5053)])) rfl rfl (hb hby own_d14_16)) ?_
    exact own_retA X2 hx hlk hret rfl rfl (hb hby own_d14_17) (by decide) (by decide) e2 ⟨N0, (Keep.refl h0 []), (Or.inl ⟨rfl, hc4, trivial⟩)⟩
  · skip
    refine own_st (own_aaloadH X2 hx hZ e2 P1 rfl i3 (v := .null) (getH_miss i3.1 hc4 (getH_all rfl _)) (g := (mkF m 16 #[.val (.ref t10), .val (.int n12)] [(.int n12), (.ref b3x13_97c5053)])) rfl rfl (hb hby own_d14_16)) ?_
    show own_Go _ _ _ _ T2 (mkF m 17 #[.val (.ref t10), .val (.int n12)] [.null])
    exact own_retA X2 hx hlk hret rfl rfl (hb hby own_d14_17) (by decide) (by decide) e2 ⟨N0, (Keep.refl h0 []), (Or.inr ⟨rfl, hc4, trivial⟩)⟩
def own_Q13_101 (Z : State) (t10 : Addr) (n12 : Int32) (gxc5060 : Addr) (u10 : Addr) (h0 : Heap) (n0 : Nat) (v : Option Value) (h : Heap) (L : List Loc) : Prop := Fr n0 L ∧ Keep h0 h [t10] ∧ ((∃ b3x13_101 : Addr, ∃ k3x13_101 : ClassId, v = none ∧ h0.size ≤ b3x13_101 ∧ Fld Z h t10 own_s0 "values" own_s2 (.ref b3x13_101) ∧ Fld Z h t10 own_s0 "used" "[Z" (.ref u10) ∧ Arh Z h b3x13_101 k3x13_101 (.object own_s1) (8 : Int32) [(n12, (.ref gxc5060))] [] .null ∧ Ovr Z k3x13_101 own_s1 ∧ Exa Z h b3x13_101 own_s2 ∧ True))
set_option maxRecDepth 65536 in
set_option maxHeartbeats 40000000 in
theorem own_rm13_101 (l : Launch) (Z : State) (a0 : Array Value) (hw : ∀ d ∈ tables_1, d.before a0 Z = true) (ws : List Jvm.Cond) (t10 : Addr) (n12 : Int32) (gxc5060 : Addr) (u10 : Addr) (h0 : Heap) (n0 : Nat) (Z0 : n0 ≤ h0.size) (P0 : Fld Z h0 t10 own_s0 "values" own_s2 .null) (P1 : Fld Z h0 t10 own_s0 "used" "[Z" (.ref u10)) (P2 : own_Al Z h0 u10 (8 : Int32)) (P3 : Exa Z h0 t10 own_s0) (g_t10 : n0 ≤ t10) (R_n12 : n12 = (0 : Int32) ∨ n12 = (1 : Int32) ∨ n12 = (2 : Int32) ∨ n12 = (3 : Int32) ∨ n12 = (4 : Int32) ∨ n12 = (5 : Int32) ∨ n12 = (6 : Int32) ∨ n12 = (7 : Int32)) (P6 : Exa Z h0 gxc5060 "java/lang/Integer") :
    MetFree l own_y1 (head1 (Jvm.Cond.code own_y1 prog_69_method_10_code 3 none :: ws) ({ frames := 0, cells := 1, slots := 8, locals := 0 } : Room)) (fun a U => a = #[(.ref t10), (.int n12), (.ref gxc5060)] ∧ Z.Warmed39 U.vm ∧ U.heap = h0) (fun _ _ _ _ _ => True) (fun _ U o U' => ∃ v L, o = .returned v ∧ own_Q13_101 Z t10 n12 gxc5060 u10 h0 n0 v U'.heap L ∧ FrameEnd U o U' L ({ frames := 0, cells := 1, slots := 8, locals := 0 } : Room).cells ({ frames := 0, cells := 1, slots := 8, locals := 0 } : Room).slots) := by
  refine MetFree.of_bodySF (plainFor_of_name own_pn1) hisR ?_
  intro p e s m args below meth c s₁ Bd hml0 hP hK
  obtain ⟨rfl, hZ, hh⟩ := hP
  have hx := Bd.exec
  have hlk := Bd.notSynchronized
  have hret := Bd.returns
  have hby := Bd.bytes
  have hml : c.maxLocals = 3 := hml0
  have hown : s.vm.findClass own_s0 = some m.cls := findClass_of_methodNamed Bd.named
  have hnm := (name_of_methodNamed Bd.named Bd.method).1
  have X0 : Stand p l e ({ frames := 0, cells := 1, slots := 8, locals := 0 } : Room) s m #[(.ref t10), (.int n12), (.ref gxc5060)] below meth c s₁ [] 0 0 := Stand.of_body Bd
  have e0 : s₁.heap = h0 := by rw [← hh, Bd.state]; rfl
  have N0 := Fr.nil n0
  refine own_open (Q := own_Q13_101 Z t10 n12 gxc5060 u10 h0 n0) (own_ef13 m t10 n12 gxc5060) ?_
  refine own_st (fun t k => XS.aloadN X0.here hx rfl (hb hby own_d13_0) rfl rfl k) ?_
  refine own_gF X0 hx hZ hown (own_w hw 25 rfl) Via.refl e0 P0 (hb hby own_d13_1) rfl rfl fun T1 X1 e1 => ?_
  show own_Go _ _ _ _ T1 (mkF m 4 #[.val (.ref t10), .val (.int n12), .val (.ref gxc5060)] [.null])
  refine own_st (fun t k => XS.ifnonnullNo X1.here hx rfl (hb hby own_d13_4) rfl (XS.aloadN X1.here hx rfl (hb hby own_d13_7) rfl rfl (XS.ifnullNo X1.here hx rfl (hb hby own_d13_8) rfl k))) ?_
  show own_Go _ _ _ _ T1 (mkF m 11 #[.val (.ref t10), .val (.int n12), .val (.ref gxc5060)] [])
  refine own_st (fun t k => XS.aloadN X1.here hx rfl (hb hby own_d13_11) rfl rfl (XS.aloadN X1.here hx rfl (hb hby own_d13_12) rfl rfl k)) ?_
  refine own_gF X1 hx hZ hown (own_w hw 23 rfl) Via.refl e1 P1 (hb hby own_d13_13) rfl rfl fun T2 X2 e2 => ?_
  show own_Go _ _ _ _ T2 (mkF m 16 #[.val (.ref t10), .val (.int n12), .val (.ref gxc5060)] [(.ref u10), (.ref t10)])
  refine own_st (own_alenA X2 hx hZ e2 P2 (g := (mkF m 16 #[.val (.ref t10), .val (.int n12), .val (.ref gxc5060)] [(.ref u10), (.ref t10)])) rfl rfl (hb hby own_d13_16)) ?_
  obtain ⟨T3, h3, k3x13_101, X3, e3, E3, A3, Ex3, O3, st3⟩ := newRE X2 hx hZ hown (own_w hw 73 rfl) (own_w hw 74 rfl) e2 (g := (mkF m 17 #[.val (.ref t10), .val (.int n12), .val (.ref gxc5060)] [(.int (8 : Int32)), (.ref t10)])) rfl (hb hby own_d13_17) rfl (by decide) (cap := 8) (by decide) (by decide) (by decide) (by decide) (ad := own_s2) (by decide +kernel)
  obtain ⟨b3x13_101, g3⟩ : ∃ z, z = h0.size := ⟨_, rfl⟩
  rw [← g3] at A3 Ex3 st3
  have g_b3x13_101 : n0 ≤ b3x13_101 := Nat.le_trans Z0 (Nat.le_of_eq g3.symm)
  have sz_b3x13_101 : h0.size ≤ b3x13_101 := Nat.le_trans (Keep.refl h0 [t10]).1 (Nat.le_of_eq g3.symm)
  refine own_st st3 ?_
  have K3 : Keep h0 h3 [t10] := (Keep.refl h0 [t10]).ext E3
  have Z3 := Nat.le_trans Z0 E3.1
  have V3 : Arh Z h3 b3x13_101 k3x13_101 (.object own_s1) (8 : Int32) [] [] .null := (Arv.new A3 (by decide)).arh
  have f4 := (P3.ext E3)
  have f5 := (P0.ext E3)
  refine own_pF X3 hx hZ hown (own_w hw 25 rfl) Via.refl e3 f5 f4 (Or.inl (own_w hw 26 rfl)) (own_w hw 1 rfl) (ty := (.array (.object own_s1))) (by decide) (hb hby own_d13_20) rfl rfl rfl rfl fun T6 h6 X6 e6 W6 => ?_
  have K6 : Keep h0 h6 [t10] := K3.wr W6 (Or.inl (List.mem_of_getElem? (i := 0) rfl))
  have Z6 := Nat.le_trans Z3 (Keep.of_wr W6).1
  have N6 := Fr.snoc X6 N0 g_t10
  have F6 : Fld Z h6 t10 own_s0 "values" own_s2 (.ref b3x13_101) := f5.same W6
  show own_Go _ _ _ _ T6 (mkF m 23 #[.val (.ref t10), .val (.int n12), .val (.ref gxc5060)] [])
  refine own_st (fun t k => XS.aloadN X6.here hx rfl (hb hby own_d13_23) rfl rfl k) ?_
  refine own_gF X6 hx hZ hown (own_w hw 25 rfl) Via.refl e6 F6 (hb hby own_d13_24) rfl rfl fun T7 X7 e7 => ?_
  refine own_st (fun t k => XS.ifnullNo X7.here hx rfl (hb hby own_d13_27) rfl k) ?_
  show own_Go _ _ _ _ T7 (mkF m 30 #[.val (.ref t10), .val (.int n12), .val (.ref gxc5060)] [])
  refine own_st (fun t k => XS.aloadN X7.here hx rfl (hb hby own_d13_30) rfl rfl k) ?_
  refine own_gF X7 hx hZ hown (own_w hw 25 rfl) Via.refl e7 F6 (hb hby own_d13_31) rfl rfl fun T8 X8 e8 => ?_
  refine own_st (fun t k => XS.iloadN X8.here hx rfl (hb hby own_d13_34) rfl k) ?_
  show own_Go _ _ _ _ T8 (mkF m 35 #[.val (.ref t10), .val (.int n12), .val (.ref gxc5060)] [(.int n12), (.ref b3x13_101)])
  refine own_st (fun t k => XS.aloadN X8.here hx rfl (hb hby own_d13_35) rfl rfl k) ?_
  have ne9 : t10 ≠ b3x13_101 := Nat.ne_of_lt (Nat.lt_of_lt_of_le P0.lt sz_b3x13_101)
  have f10 := (V3.other W6 (Ne.symm ne9))
  obtain ⟨c11, A11, q11, S11, M11, H11, G11⟩ := f10
  have f12 := (P6.keep K6)
  obtain ⟨T11, h11, X11, e11, W11, st11⟩ := stR X8 hx hZ e8 A11 (j := n12) (inb_of S11 ((by decide +kernel : ∀ x ∈ own_D8, (¬ x < 0 ∧ x < (8 : Int32))) _ (own_m8 R_n12) )) rfl (Sto.ofV A11 q11 O3 (Ins.of_exa f12 (own_w hw 75 rfl))) (g := (mkF m 36 #[.val (.ref t10), .val (.int n12), .val (.ref gxc5060)] [(.ref gxc5060), (.int n12), (.ref b3x13_101)])) rfl rfl (hb hby own_d13_36)
  refine own_st st11 ?_
  have K11 : Keep h0 h11 [t10] := K6.wr W11 (Or.inr sz_b3x13_101)
  have Z11 := Nat.le_trans Z6 (Keep.of_wr W11).1
  have N11 := Fr.snoc X11 N6 g_b3x13_101
  have V11 : Arh Z h11 b3x13_101 k3x13_101 (.object own_s1) (8 : Int32) [(n12, (.ref gxc5060))] [] .null := Arh.push A11 q11 S11 M11 H11 G11 rfl W11 (inb_of S11 ((by decide +kernel : ∀ x ∈ own_D8, (¬ x < 0 ∧ x < (8 : Int32))) _ (own_m8 R_n12) ))
  have f13 := (F6.other W11 (Or.inl ne9))
  have f14 := (((P1.ext E3).other W6 (Or.inr (slot_ne (Or.inl (own_w hw 24 rfl)) (Or.inl (own_w hw 26 rfl)) (by decide) (t := (.array .boolean)) (t' := (.array (.object own_s1))) (by decide) (by decide)))).other W11 (Or.inl ne9))
  have f15 := ((Ex3.wr W6).wr W11)
  exact own_retV X11 hx hlk hret (hb hby own_d13_37) (by decide) (by decide) e11 ⟨N11, K11, ⟨b3x13_101, _, rfl, sz_b3x13_101, f13, f14, V11, O3, f15, trivial⟩⟩
def own_Q14_102 (Z : State) (t10 : Addr) (n11 : Int32) (b3x13_101c5071 : Addr) (k3x13_101c5071 : ClassId) (n12 : Int32) (gxc5060 : Addr) (h0 : Heap) (n0 : Nat) (v : Option Value) (h : Heap) (L : List Loc) : Prop := Fr n0 L ∧ Keep h0 h [] ∧ ((v = some (.ref gxc5060) ∧ (n11 = n12) ∧ True) ∨ (v = some .null ∧ (¬ (n11 = n12)) ∧ True))
set_option maxRecDepth 65536 in
set_option maxHeartbeats 40000000 in
theorem own_rm14_102 (l : Launch) (Z : State) (a0 : Array Value) (hw : ∀ d ∈ tables_1, d.before a0 Z = true) (ws : List Jvm.Cond) (t10 : Addr) (n11 : Int32) (b3x13_101c5071 : Addr) (k3x13_101c5071 : ClassId) (n12 : Int32) (gxc5060 : Addr) (h0 : Heap) (n0 : Nat) (Z0 : n0 ≤ h0.size) (P0 : Fld Z h0 t10 own_s0 "values" own_s2 (.ref b3x13_101c5071)) (P1 : Arh Z h0 b3x13_101c5071 k3x13_101c5071 (.object own_s1) (8 : Int32) [(n12, (.ref gxc5060))] [] .null) (OFc5071_0_2 : Ovr Z k3x13_101c5071 own_s1) (R_n11 : n11 = (0 : Int32) ∨ n11 = (1 : Int32) ∨ n11 = (2 : Int32) ∨ n11 = (3 : Int32) ∨ n11 = (4 : Int32) ∨ n11 = (5 : Int32) ∨ n11 = (6 : Int32) ∨ n11 = (7 : Int32)) (R_n12 : n12 = (0 : Int32) ∨ n12 = (1 : Int32) ∨ n12 = (2 : Int32) ∨ n12 = (3 : Int32) ∨ n12 = (4 : Int32) ∨ n12 = (5 : Int32) ∨ n12 = (6 : Int32) ∨ n12 = (7 : Int32)) :
    MetFree l own_y0 (head1 (Jvm.Cond.code own_y0 prog_69_method_9_code 2 (some (.object own_s1)) :: ws) ({ frames := 0, cells := 0, slots := 0, locals := 0 } : Room)) (fun a U => a = #[(.ref t10), (.int n11)] ∧ Z.Warmed39 U.vm ∧ U.heap = h0) (fun _ _ _ _ _ => True) (fun _ U o U' => ∃ v L, o = .returned v ∧ own_Q14_102 Z t10 n11 b3x13_101c5071 k3x13_101c5071 n12 gxc5060 h0 n0 v U'.heap L ∧ FrameEnd U o U' L ({ frames := 0, cells := 0, slots := 0, locals := 0 } : Room).cells ({ frames := 0, cells := 0, slots := 0, locals := 0 } : Room).slots) := by
  refine MetFree.of_bodySF (plainFor_of_name own_pn1) hisR ?_
  intro p e s m args below meth c s₁ Bd hml0 hP hK
  obtain ⟨rfl, hZ, hh⟩ := hP
  have hx := Bd.exec
  have hlk := Bd.notSynchronized
  have hret := Bd.returns
  have hby := Bd.bytes
  have hml : c.maxLocals = 2 := hml0
  have hown : s.vm.findClass own_s0 = some m.cls := findClass_of_methodNamed Bd.named
  have hnm := (name_of_methodNamed Bd.named Bd.method).1
  have X0 : Stand p l e ({ frames := 0, cells := 0, slots := 0, locals := 0 } : Room) s m #[(.ref t10), (.int n11)] below meth c s₁ [] 0 0 := Stand.of_body Bd
  have e0 : s₁.heap = h0 := by rw [← hh, Bd.state]; rfl
  have N0 := Fr.nil n0
  refine own_open (Q := own_Q14_102 Z t10 n11 b3x13_101c5071 k3x13_101c5071 n12 gxc5060 h0 n0) (own_ef14 m t10 n11) ?_
  refine own_st (fun t k => XS.aloadN X0.here hx rfl (hb hby own_d14_0) rfl rfl k) ?_
  refine own_gF X0 hx hZ hown (own_w hw 25 rfl) Via.refl e0 P0 (hb hby own_d14_1) rfl rfl fun T1 X1 e1 => ?_
  show own_Go _ _ _ _ T1 (mkF m 4 #[.val (.ref t10), .val (.int n11)] [(.ref b3x13_101c5071)])
  refine own_st (fun t k => XS.ifnonnullYes X1.here hx rfl (pc0 := 4) (pc' := 11) rfl (hb hby own_d14_4) rfl (by decide) (by decide) (XS.aloadN X1.here hx rfl (hb hby own_d14_11) rfl rfl k)) ?_
  refine own_gF X1 hx hZ hown (own_w hw 25 rfl) Via.refl e1 P0 (hb hby own_d14_12) rfl rfl fun T2 X2 e2 => ?_
  show own_Go _ _ _ _ T2 (mkF m 15 #[.val (.ref t10), .val (.int n11)] [(.ref b3x13_101c5071)])
  refine own_st (fun t k => XS.iloadN X2.here hx rfl (hb hby own_d14_15) rfl k) ?_
  have i3 : ¬ n11 < 0 ∧ n11 < (8 : Int32) := ((by decide +kernel : ∀ x ∈ own_D8, (¬ x < 0 ∧ x < (8 : Int32))) _ (own_m8 R_n11) )
  by_cases hc4 : n11 = n12
  · skip
    refine own_st (own_aaloadH X2 hx hZ e2 P1 rfl i3 (v := (.ref gxc5060)) (getH_hit i3.1 hc4) (g := (mkF m 16 #[.val (.ref t10), .val (.int n11)] [(.int n11), (.ref b3x13_101c5071)])) rfl rfl (hb hby own_d14_16)) ?_
    exact own_retA X2 hx hlk hret rfl rfl (hb hby own_d14_17) (by decide) (by decide) e2 ⟨N0, (Keep.refl h0 []), (Or.inl ⟨rfl, hc4, trivial⟩)⟩
  · skip
    refine own_st (own_aaloadH X2 hx hZ e2 P1 rfl i3 (v := .null) (getH_miss i3.1 hc4 (getH_all rfl _)) (g := (mkF m 16 #[.val (.ref t10), .val (.int n11)] [(.int n11), (.ref b3x13_101c5071)])) rfl rfl (hb hby own_d14_16)) ?_
    show own_Go _ _ _ _ T2 (mkF m 17 #[.val (.ref t10), .val (.int n11)] [.null])
    exact own_retA X2 hx hlk hret rfl rfl (hb hby own_d14_17) (by decide) (by decide) e2 ⟨N0, (Keep.refl h0 []), (Or.inr ⟨rfl, hc4, trivial⟩)⟩
def own_Q13_104 (Z : State) (t10 : Addr) (n11 : Int32) (b3x13_101c5086 : Addr) (k3x13_101c5086 : ClassId) (n12 : Int32) (gxc5060 : Addr) (h0 : Heap) (n0 : Nat) (v : Option Value) (h : Heap) (L : List Loc) : Prop := Fr n0 L ∧ Keep h0 h [b3x13_101c5086] ∧ ((∃ k3x13_101c5086 : ClassId, v = none ∧ Arh Z h b3x13_101c5086 k3x13_101c5086 (.object own_s1) (8 : Int32) [(n11, .null), (n12, (.ref gxc5060))] [] .null ∧ Ovr Z k3x13_101c5086 own_s1 ∧ True))
set_option maxRecDepth 65536 in
set_option maxHeartbeats 40000000 in
theorem own_rm13_104 (l : Launch) (Z : State) (a0 : Array Value) (hw : ∀ d ∈ tables_1, d.before a0 Z = true) (ws : List Jvm.Cond) (t10 : Addr) (n11 : Int32) (b3x13_101c5086 : Addr) (k3x13_101c5086 : ClassId) (n12 : Int32) (gxc5060 : Addr) (h0 : Heap) (n0 : Nat) (Z0 : n0 ≤ h0.size) (P0 : Fld Z h0 t10 own_s0 "values" own_s2 (.ref b3x13_101c5086)) (P1 : Arh Z h0 b3x13_101c5086 k3x13_101c5086 (.object own_s1) (8 : Int32) [(n12, (.ref gxc5060))] [] .null) (OFc5086_0_2 : Ovr Z k3x13_101c5086 own_s1) (R_n11 : n11 = (0 : Int32) ∨ n11 = (1 : Int32) ∨ n11 = (2 : Int32) ∨ n11 = (3 : Int32) ∨ n11 = (4 : Int32) ∨ n11 = (5 : Int32) ∨ n11 = (6 : Int32) ∨ n11 = (7 : Int32)) (g_b3x13_101c5086 : n0 ≤ b3x13_101c5086) :
    MetFree l own_y1 (head1 (Jvm.Cond.code own_y1 prog_69_method_10_code 3 none :: ws) ({ frames := 0, cells := 0, slots := 0, locals := 0 } : Room)) (fun a U => a = #[(.ref t10), (.int n11), .null] ∧ Z.Warmed39 U.vm ∧ U.heap = h0) (fun _ _ _ _ _ => True) (fun _ U o U' => ∃ v L, o = .returned v ∧ own_Q13_104 Z t10 n11 b3x13_101c5086 k3x13_101c5086 n12 gxc5060 h0 n0 v U'.heap L ∧ FrameEnd U o U' L ({ frames := 0, cells := 0, slots := 0, locals := 0 } : Room).cells ({ frames := 0, cells := 0, slots := 0, locals := 0 } : Room).slots) := by
  refine MetFree.of_bodySF (plainFor_of_name own_pn1) hisR ?_
  intro p e s m args below meth c s₁ Bd hml0 hP hK
  obtain ⟨rfl, hZ, hh⟩ := hP
  have hx := Bd.exec
  have hlk := Bd.notSynchronized
  have hret := Bd.returns
  have hby := Bd.bytes
  have hml : c.maxLocals = 3 := hml0
  have hown : s.vm.findClass own_s0 = some m.cls := findClass_of_methodNamed Bd.named
  have hnm := (name_of_methodNamed Bd.named Bd.method).1
  have X0 : Stand p l e ({ frames := 0, cells := 0, slots := 0, locals := 0 } : Room) s m #[(.ref t10), (.int n11), .null] below meth c s₁ [] 0 0 := Stand.of_body Bd
  have e0 : s₁.heap = h0 := by rw [← hh, Bd.state]; rfl
  have N0 := Fr.nil n0
  refine own_open (Q := own_Q13_104 Z t10 n11 b3x13_101c5086 k3x13_101c5086 n12 gxc5060 h0 n0) (own_ef13RIN m t10 n11) ?_
  refine own_st (fun t k => XS.aloadN X0.here hx rfl (hb hby own_d13_0) rfl rfl k) ?_
  refine own_gF X0 hx hZ hown (own_w hw 25 rfl) Via.refl e0 P0 (hb hby own_d13_1) rfl rfl fun T1 X1 e1 => ?_
  show own_Go _ _ _ _ T1 (mkF m 4 #[.val (.ref t10), .val (.int n11), .val .null] [(.ref b3x13_101c5086)])
  refine own_st (fun t k => XS.ifnonnullYes X1.here hx rfl (pc0 := 4) (pc' := 23) rfl (hb hby own_d13_4) rfl (by decide) (by decide) (XS.aloadN X1.here hx rfl (hb hby own_d13_23) rfl rfl k)) ?_
  refine own_gF X1 hx hZ hown (own_w hw 25 rfl) Via.refl e1 P0 (hb hby own_d13_24) rfl rfl fun T2 X2 e2 => ?_
  show own_Go _ _ _ _ T2 (mkF m 27 #[.val (.ref t10), .val (.int n11), .val .null] [(.ref b3x13_101c5086)])
  refine own_st (fun t k => XS.ifnullNo X2.here hx rfl (hb hby own_d13_27) rfl (XS.aloadN X2.here hx rfl (hb hby own_d13_30) rfl rfl k)) ?_
  refine own_gF X2 hx hZ hown (own_w hw 25 rfl) Via.refl e2 P0 (hb hby own_d13_31) rfl rfl fun T3 X3 e3 => ?_
  show own_Go _ _ _ _ T3 (mkF m 34 #[.val (.ref t10), .val (.int n11), .val .null] [(.ref b3x13_101c5086)])
  refine own_st (fun t k => XS.iloadN X3.here hx rfl (hb hby own_d13_34) rfl (XS.aloadN X3.here hx rfl (hb hby own_d13_35) rfl rfl k)) ?_
  obtain ⟨c4, A4, q4, S4, M4, H4, G4⟩ := P1
  obtain ⟨T4, h4, X4, e4, W4, st4⟩ := stR X3 hx hZ e3 A4 (j := n11) (inb_of S4 ((by decide +kernel : ∀ x ∈ own_D8, (¬ x < 0 ∧ x < (8 : Int32))) _ (own_m8 R_n11) )) rfl (Or.inl rfl) (g := (mkF m 36 #[.val (.ref t10), .val (.int n11), .val .null] [.null, (.int n11), (.ref b3x13_101c5086)])) rfl rfl (hb hby own_d13_36)
  refine own_st st4 ?_
  have K4 : Keep h0 h4 [b3x13_101c5086] := (Keep.refl h0 [b3x13_101c5086]).wr W4 (Or.inl (List.mem_of_getElem? (i := 0) rfl))
  have Z4 := Nat.le_trans Z0 (Keep.of_wr W4).1
  have N4 := Fr.snoc X4 N0 g_b3x13_101c5086
  have V4 : Arh Z h4 b3x13_101c5086 k3x13_101c5086 (.object own_s1) (8 : Int32) [(n11, .null), (n12, (.ref gxc5060))] [] .null := Arh.push A4 q4 S4 M4 H4 G4 rfl W4 (inb_of S4 ((by decide +kernel : ∀ x ∈ own_D8, (¬ x < 0 ∧ x < (8 : Int32))) _ (own_m8 R_n11) ))
  show own_Go _ _ _ _ T4 (mkF m 37 #[.val (.ref t10), .val (.int n11), .val .null] [])
  exact own_retV X4 hx hlk hret (hb hby own_d13_37) (by decide) (by decide) e4 ⟨N4, K4, ⟨_, rfl, V4, OFc5086_0_2, trivial⟩⟩
def own_Q14_105 (Z : State) (t10 : Addr) (n11 : Int32) (b3x13_101c5086 : Addr) (k3x13_101c5086c5087 : ClassId) (n12 : Int32) (gxc5060 : Addr) (h0 : Heap) (n0 : Nat) (v : Option Value) (h : Heap) (L : List Loc) : Prop := Fr n0 L ∧ Keep h0 h [] ∧ ((v = some .null ∧ True))
set_option maxRecDepth 65536 in
set_option maxHeartbeats 40000000 in
theorem own_rm14_105 (l : Launch) (Z : State) (a0 : Array Value) (hw : ∀ d ∈ tables_1, d.before a0 Z = true) (ws : List Jvm.Cond) (t10 : Addr) (n11 : Int32) (b3x13_101c5086 : Addr) (k3x13_101c5086c5087 : ClassId) (n12 : Int32) (gxc5060 : Addr) (h0 : Heap) (n0 : Nat) (Z0 : n0 ≤ h0.size) (P0 : Fld Z h0 t10 own_s0 "values" own_s2 (.ref b3x13_101c5086)) (P1 : Arh Z h0 b3x13_101c5086 k3x13_101c5086c5087 (.object own_s1) (8 : Int32) [(n11, .null), (n12, (.ref gxc5060))] [] .null) (OFc5087_0_0 : Ovr Z k3x13_101c5086c5087 own_s1) (R_n11 : n11 = (0 : Int32) ∨ n11 = (1 : Int32) ∨ n11 = (2 : Int32) ∨ n11 = (3 : Int32) ∨ n11 = (4 : Int32) ∨ n11 = (5 : Int32) ∨ n11 = (6 : Int32) ∨ n11 = (7 : Int32)) :
    MetFree l own_y0 (head1 (Jvm.Cond.code own_y0 prog_69_method_9_code 2 (some (.object own_s1)) :: ws) ({ frames := 0, cells := 0, slots := 0, locals := 0 } : Room)) (fun a U => a = #[(.ref t10), (.int n11)] ∧ Z.Warmed39 U.vm ∧ U.heap = h0) (fun _ _ _ _ _ => True) (fun _ U o U' => ∃ v L, o = .returned v ∧ own_Q14_105 Z t10 n11 b3x13_101c5086 k3x13_101c5086c5087 n12 gxc5060 h0 n0 v U'.heap L ∧ FrameEnd U o U' L ({ frames := 0, cells := 0, slots := 0, locals := 0 } : Room).cells ({ frames := 0, cells := 0, slots := 0, locals := 0 } : Room).slots) := by
  refine MetFree.of_bodySF (plainFor_of_name own_pn1) hisR ?_
  intro p e s m args below meth c s₁ Bd hml0 hP hK
  obtain ⟨rfl, hZ, hh⟩ := hP
  have hx := Bd.exec
  have hlk := Bd.notSynchronized
  have hret := Bd.returns
  have hby := Bd.bytes
  have hml : c.maxLocals = 2 := hml0
  have hown : s.vm.findClass own_s0 = some m.cls := findClass_of_methodNamed Bd.named
  have hnm := (name_of_methodNamed Bd.named Bd.method).1
  have X0 : Stand p l e ({ frames := 0, cells := 0, slots := 0, locals := 0 } : Room) s m #[(.ref t10), (.int n11)] below meth c s₁ [] 0 0 := Stand.of_body Bd
  have e0 : s₁.heap = h0 := by rw [← hh, Bd.state]; rfl
  have N0 := Fr.nil n0
  refine own_open (Q := own_Q14_105 Z t10 n11 b3x13_101c5086 k3x13_101c5086c5087 n12 gxc5060 h0 n0) (own_ef14 m t10 n11) ?_
  refine own_st (fun t k => XS.aloadN X0.here hx rfl (hb hby own_d14_0) rfl rfl k) ?_
  refine own_gF X0 hx hZ hown (own_w hw 25 rfl) Via.refl e0 P0 (hb hby own_d14_1) rfl rfl fun T1 X1 e1 => ?_
  show own_Go _ _ _ _ T1 (mkF m 4 #[.val (.ref t10), .val (.int n11)] [(.ref b3x13_101c5086)])
  refine own_st (fun t k => XS.ifnonnullYes X1.here hx rfl (pc0 := 4) (pc' := 11) rfl (hb hby own_d14_4) rfl (by decide) (by decide) (XS.aloadN X1.here hx rfl (hb hby own_d14_11) rfl rfl k)) ?_
  refine own_gF X1 hx hZ hown (own_w hw 25 rfl) Via.refl e1 P0 (hb hby own_d14_12) rfl rfl fun T2 X2 e2 => ?_
  show own_Go _ _ _ _ T2 (mkF m 15 #[.val (.ref t10), .val (.int n11)] [(.ref b3x13_101c5086)])
  refine own_st (fun t k => XS.iloadN X2.here hx rfl (hb hby own_d14_15) rfl k) ?_
  have i3 : ¬ n11 < 0 ∧ n11 < (8 : Int32) := ((by decide +kernel : ∀ x ∈ own_D8, (¬ x < 0 ∧ x < (8 : Int32))) _ (own_m8 R_n11) )
  refine own_st (own_aaloadH X2 hx hZ e2 P1 rfl i3 (v := .null) (getH_hit i3.1 rfl) (g := (mkF m 16 #[.val (.ref t10), .val (.int n11)] [(.int n11), (.ref b3x13_101c5086)])) rfl rfl (hb hby own_d14_16)) ?_
  exact own_retA X2 hx hlk hret rfl rfl (hb hby own_d14_17) (by decide) (by decide) e2 ⟨N0, (Keep.refl h0 []), ⟨rfl, trivial⟩⟩
def own_Q14_106 (Z : State) (t10 : Addr) (n12 : Int32) (b3x13_101c5086 : Addr) (k3x13_101c5086c5087 : ClassId) (n11 : Int32) (gxc5060 : Addr) (h0 : Heap) (n0 : Nat) (v : Option Value) (h : Heap) (L : List Loc) : Prop := Fr n0 L ∧ Keep h0 h [] ∧ ((v = some .null ∧ (n12 = n11) ∧ True) ∨ (v = some (.ref gxc5060) ∧ (¬ (n12 = n11)) ∧ True))
set_option maxRecDepth 65536 in
set_option maxHeartbeats 40000000 in
theorem own_rm14_106 (l : Launch) (Z : State) (a0 : Array Value) (hw : ∀ d ∈ tables_1, d.before a0 Z = true) (ws : List Jvm.Cond) (t10 : Addr) (n12 : Int32) (b3x13_101c5086 : Addr) (k3x13_101c5086c5087 : ClassId) (n11 : Int32) (gxc5060 : Addr) (h0 : Heap) (n0 : Nat) (Z0 : n0 ≤ h0.size) (P0 : Fld Z h0 t10 own_s0 "values" own_s2 (.ref b3x13_101c5086)) (P1 : Arh Z h0 b3x13_101c5086 k3x13_101c5086c5087 (.object own_s1) (8 : Int32) [(n11, .null), (n12, (.ref gxc5060))] [] .null) (OFc5087_0_0 : Ovr Z k3x13_101c5086c5087 own_s1) (R_n12 : n12 = (0 : Int32) ∨ n12 = (1 : Int32) ∨ n12 = (2 : Int32) ∨ n12 = (3 : Int32) ∨ n12 = (4 : Int32) ∨ n12 = (5 : Int32) ∨ n12 = (6 : Int32) ∨ n12 = (7 : Int32)) (R_n11 : n11 = (0 : Int32) ∨ n11 = (1 : Int32) ∨ n11 = (2 : Int32) ∨ n11 = (3 : Int32) ∨ n11 = (4 : Int32) ∨ n11 = (5 : Int32) ∨ n11 = (6 : Int32) ∨ n11 = (7 : Int32)) :
    MetFree l own_y0 (head1 (Jvm.Cond.code own_y0 prog_69_method_9_code 2 (some (.object own_s1)) :: ws) ({ frames := 0, cells := 0, slots := 0, locals := 0 } : Room)) (fun a U => a = #[(.ref t10), (.int n12)] ∧ Z.Warmed39 U.vm ∧ U.heap = h0) (fun _ _ _ _ _ => True) (fun _ U o U' => ∃ v L, o = .returned v ∧ own_Q14_106 Z t10 n12 b3x13_101c5086 k3x13_101c5086c5087 n11 gxc5060 h0 n0 v U'.heap L ∧ FrameEnd U o U' L ({ frames := 0, cells := 0, slots := 0, locals := 0 } : Room).cells ({ frames := 0, cells := 0, slots := 0, locals := 0 } : Room).slots) := by
  refine MetFree.of_bodySF (plainFor_of_name own_pn1) hisR ?_
  intro p e s m args below meth c s₁ Bd hml0 hP hK
  obtain ⟨rfl, hZ, hh⟩ := hP
  have hx := Bd.exec
  have hlk := Bd.notSynchronized
  have hret := Bd.returns
  have hby := Bd.bytes
  have hml : c.maxLocals = 2 := hml0
  have hown : s.vm.findClass own_s0 = some m.cls := findClass_of_methodNamed Bd.named
  have hnm := (name_of_methodNamed Bd.named Bd.method).1
  have X0 : Stand p l e ({ frames := 0, cells := 0, slots := 0, locals := 0 } : Room) s m #[(.ref t10), (.int n12)] below meth c s₁ [] 0 0 := Stand.of_body Bd
  have e0 : s₁.heap = h0 := by rw [← hh, Bd.state]; rfl
  have N0 := Fr.nil n0
  refine own_open (Q := own_Q14_106 Z t10 n12 b3x13_101c5086 k3x13_101c5086c5087 n11 gxc5060 h0 n0) (own_ef14 m t10 n12) ?_
  refine own_st (fun t k => XS.aloadN X0.here hx rfl (hb hby own_d14_0) rfl rfl k) ?_
  refine own_gF X0 hx hZ hown (own_w hw 25 rfl) Via.refl e0 P0 (hb hby own_d14_1) rfl rfl fun T1 X1 e1 => ?_
  show own_Go _ _ _ _ T1 (mkF m 4 #[.val (.ref t10), .val (.int n12)] [(.ref b3x13_101c5086)])
  refine own_st (fun t k => XS.ifnonnullYes X1.here hx rfl (pc0 := 4) (pc' := 11) rfl (hb hby own_d14_4) rfl (by decide) (by decide) (XS.aloadN X1.here hx rfl (hb hby own_d14_11) rfl rfl k)) ?_
  refine own_gF X1 hx hZ hown (own_w hw 25 rfl) Via.refl e1 P0 (hb hby own_d14_12) rfl rfl fun T2 X2 e2 => ?_
  show own_Go _ _ _ _ T2 (mkF m 15 #[.val (.ref t10), .val (.int n12)] [(.ref b3x13_101c5086)])
  refine own_st (fun t k => XS.iloadN X2.here hx rfl (hb hby own_d14_15) rfl k) ?_
  have i3 : ¬ n12 < 0 ∧ n12 < (8 : Int32) := ((by decide +kernel : ∀ x ∈ own_D8, (¬ x < 0 ∧ x < (8 : Int32))) _ (own_m8 R_n12) )
  by_cases hc4 : n12 = n11
  · skip
    refine own_st (own_aaloadH X2 hx hZ e2 P1 rfl i3 (v := .null) (getH_hit i3.1 hc4) (g := (mkF m 16 #[.val (.ref t10), .val (.int n12)] [(.int n12), (.ref b3x13_101c5086)])) rfl rfl (hb hby own_d14_16)) ?_
    exact own_retA X2 hx hlk hret rfl rfl (hb hby own_d14_17) (by decide) (by decide) e2 ⟨N0, (Keep.refl h0 []), (Or.inl ⟨rfl, hc4, trivial⟩)⟩
  · skip
    refine own_st (own_aaloadH X2 hx hZ e2 P1 rfl i3 (v := (.ref gxc5060)) (getH_miss i3.1 hc4 (getH_hit i3.1 rfl)) (g := (mkF m 16 #[.val (.ref t10), .val (.int n12)] [(.int n12), (.ref b3x13_101c5086)])) rfl rfl (hb hby own_d14_16)) ?_
    show own_Go _ _ _ _ T2 (mkF m 17 #[.val (.ref t10), .val (.int n12)] [(.ref gxc5060)])
    exact own_retA X2 hx hlk hret rfl rfl (hb hby own_d14_17) (by decide) (by decide) e2 ⟨N0, (Keep.refl h0 []), (Or.inr ⟨rfl, hc4, trivial⟩)⟩
def own_Q13_108 (Z : State) (t10 : Addr) (n11 : Int32) (gxc5100 : Addr) (b3x13_101c5125 : Addr) (k3x13_101c5125 : ClassId) (n12 : Int32) (gxc5060 : Addr) (h0 : Heap) (n0 : Nat) (v : Option Value) (h : Heap) (L : List Loc) : Prop := Fr n0 L ∧ Keep h0 h [b3x13_101c5125] ∧ ((∃ k3x13_101c5125 : ClassId, v = none ∧ Arh Z h b3x13_101c5125 k3x13_101c5125 (.object own_s1) (8 : Int32) [(n11, (.ref gxc5100)), (n12, (.ref gxc5060))] [] .null ∧ Ovr Z k3x13_101c5125 own_s1 ∧ True))
set_option maxRecDepth 65536 in
set_option maxHeartbeats 40000000 in
theorem own_rm13_108 (l : Launch) (Z : State) (a0 : Array Value) (hw : ∀ d ∈ tables_1, d.before a0 Z = true) (ws : List Jvm.Cond) (t10 : Addr) (n11 : Int32) (gxc5100 : Addr) (b3x13_101c5125 : Addr) (k3x13_101c5125 : ClassId) (n12 : Int32) (gxc5060 : Addr) (h0 : Heap) (n0 : Nat) (Z0 : n0 ≤ h0.size) (P0 : Fld Z h0 t10 own_s0 "values" own_s2 (.ref b3x13_101c5125)) (P1 : Arh Z h0 b3x13_101c5125 k3x13_101c5125 (.object own_s1) (8 : Int32) [(n12, (.ref gxc5060))] [] .null) (OFc5125_0_2 : Ovr Z k3x13_101c5125 own_s1) (R_n11 : n11 = (0 : Int32) ∨ n11 = (1 : Int32) ∨ n11 = (2 : Int32) ∨ n11 = (3 : Int32) ∨ n11 = (4 : Int32) ∨ n11 = (5 : Int32) ∨ n11 = (6 : Int32) ∨ n11 = (7 : Int32)) (P4 : Exa Z h0 gxc5100 "java/lang/Integer") (g_b3x13_101c5125 : n0 ≤ b3x13_101c5125) :
    MetFree l own_y1 (head1 (Jvm.Cond.code own_y1 prog_69_method_10_code 3 none :: ws) ({ frames := 0, cells := 0, slots := 0, locals := 0 } : Room)) (fun a U => a = #[(.ref t10), (.int n11), (.ref gxc5100)] ∧ Z.Warmed39 U.vm ∧ U.heap = h0) (fun _ _ _ _ _ => True) (fun _ U o U' => ∃ v L, o = .returned v ∧ own_Q13_108 Z t10 n11 gxc5100 b3x13_101c5125 k3x13_101c5125 n12 gxc5060 h0 n0 v U'.heap L ∧ FrameEnd U o U' L ({ frames := 0, cells := 0, slots := 0, locals := 0 } : Room).cells ({ frames := 0, cells := 0, slots := 0, locals := 0 } : Room).slots) := by
  refine MetFree.of_bodySF (plainFor_of_name own_pn1) hisR ?_
  intro p e s m args below meth c s₁ Bd hml0 hP hK
  obtain ⟨rfl, hZ, hh⟩ := hP
  have hx := Bd.exec
  have hlk := Bd.notSynchronized
  have hret := Bd.returns
  have hby := Bd.bytes
  have hml : c.maxLocals = 3 := hml0
  have hown : s.vm.findClass own_s0 = some m.cls := findClass_of_methodNamed Bd.named
  have hnm := (name_of_methodNamed Bd.named Bd.method).1
  have X0 : Stand p l e ({ frames := 0, cells := 0, slots := 0, locals := 0 } : Room) s m #[(.ref t10), (.int n11), (.ref gxc5100)] below meth c s₁ [] 0 0 := Stand.of_body Bd
  have e0 : s₁.heap = h0 := by rw [← hh, Bd.state]; rfl
  have N0 := Fr.nil n0
  refine own_open (Q := own_Q13_108 Z t10 n11 gxc5100 b3x13_101c5125 k3x13_101c5125 n12 gxc5060 h0 n0) (own_ef13 m t10 n11 gxc5100) ?_
  refine own_st (fun t k => XS.aloadN X0.here hx rfl (hb hby own_d13_0) rfl rfl k) ?_
  refine own_gF X0 hx hZ hown (own_w hw 25 rfl) Via.refl e0 P0 (hb hby own_d13_1) rfl rfl fun T1 X1 e1 => ?_
  show own_Go _ _ _ _ T1 (mkF m 4 #[.val (.ref t10), .val (.int n11), .val (.ref gxc5100)] [(.ref b3x13_101c5125)])
  refine own_st (fun t k => XS.ifnonnullYes X1.here hx rfl (pc0 := 4) (pc' := 23) rfl (hb hby own_d13_4) rfl (by decide) (by decide) (XS.aloadN X1.here hx rfl (hb hby own_d13_23) rfl rfl k)) ?_
  refine own_gF X1 hx hZ hown (own_w hw 25 rfl) Via.refl e1 P0 (hb hby own_d13_24) rfl rfl fun T2 X2 e2 => ?_
  show own_Go _ _ _ _ T2 (mkF m 27 #[.val (.ref t10), .val (.int n11), .val (.ref gxc5100)] [(.ref b3x13_101c5125)])
  refine own_st (fun t k => XS.ifnullNo X2.here hx rfl (hb hby own_d13_27) rfl (XS.aloadN X2.here hx rfl (hb hby own_d13_30) rfl rfl k)) ?_
  refine own_gF X2 hx hZ hown (own_w hw 25 rfl) Via.refl e2 P0 (hb hby own_d13_31) rfl rfl fun T3 X3 e3 => ?_
  show own_Go _ _ _ _ T3 (mkF m 34 #[.val (.ref t10), .val (.int n11), .val (.ref gxc5100)] [(.ref b3x13_101c5125)])
  refine own_st (fun t k => XS.iloadN X3.here hx rfl (hb hby own_d13_34) rfl (XS.aloadN X3.here hx rfl (hb hby own_d13_35) rfl rfl k)) ?_
  obtain ⟨c4, A4, q4, S4, M4, H4, G4⟩ := P1
  obtain ⟨T4, h4, X4, e4, W4, st4⟩ := stR X3 hx hZ e3 A4 (j := n11) (inb_of S4 ((by decide +kernel : ∀ x ∈ own_D8, (¬ x < 0 ∧ x < (8 : Int32))) _ (own_m8 R_n11) )) rfl (Sto.ofV A4 q4 OFc5125_0_2 (Ins.of_exa P4 (own_w hw 75 rfl))) (g := (mkF m 36 #[.val (.ref t10), .val (.int n11), .val (.ref gxc5100)] [(.ref gxc5100), (.int n11), (.ref b3x13_101c5125)])) rfl rfl (hb hby own_d13_36)
  refine own_st st4 ?_
  have K4 : Keep h0 h4 [b3x13_101c5125] := (Keep.refl h0 [b3x13_101c5125]).wr W4 (Or.inl (List.mem_of_getElem? (i := 0) rfl))
  have Z4 := Nat.le_trans Z0 (Keep.of_wr W4).1
  have N4 := Fr.snoc X4 N0 g_b3x13_101c5125
  have V4 : Arh Z h4 b3x13_101c5125 k3x13_101c5125 (.object own_s1) (8 : Int32) [(n11, (.ref gxc5100)), (n12, (.ref gxc5060))] [] .null := Arh.push A4 q4 S4 M4 H4 G4 rfl W4 (inb_of S4 ((by decide +kernel : ∀ x ∈ own_D8, (¬ x < 0 ∧ x < (8 : Int32))) _ (own_m8 R_n11) ))
  show own_Go _ _ _ _ T4 (mkF m 37 #[.val (.ref t10), .val (.int n11), .val (.ref gxc5100)] [])
  exact own_retV X4 hx hlk hret (hb hby own_d13_37) (by decide) (by decide) e4 ⟨N4, K4, ⟨_, rfl, V4, OFc5125_0_2, trivial⟩⟩
def own_Q14_109 (Z : State) (t10 : Addr) (n11 : Int32) (b3x13_101c5125 : Addr) (k3x13_101c5125c5127 : ClassId) (gxc5100 : Addr) (n12 : Int32) (gxc5060 : Addr) (h0 : Heap) (n0 : Nat) (v : Option Value) (h : Heap) (L : List Loc) : Prop := Fr n0 L ∧ Keep h0 h [] ∧ ((v = some (.ref gxc5100) ∧ True))
set_option maxRecDepth 65536 in
set_option maxHeartbeats 40000000 in
theorem own_rm14_109 (l : Launch) (Z : State) (a0 : Array Value) (hw : ∀ d ∈ tables_1, d.before a0 Z = true) (ws : List Jvm.Cond) (t10 : Addr) (n11 : Int32) (b3x13_101c5125 : Addr) (k3x13_101c5125c5127 : ClassId) (gxc5100 : Addr) (n12 : Int32) (gxc5060 : Addr) (h0 : Heap) (n0 : Nat) (Z0 : n0 ≤ h0.size) (P0 : Fld Z h0 t10 own_s0 "values" own_s2 (.ref b3x13_101c5125)) (P1 : Arh Z h0 b3x13_101c5125 k3x13_101c5125c5127 (.object own_s1) (8 : Int32) [(n11, (.ref gxc5100)), (n12, (.ref gxc5060))] [] .null) (OFc5127_0_0 : Ovr Z k3x13_101c5125c5127 own_s1) (R_n11 : n11 = (0 : Int32) ∨ n11 = (1 : Int32) ∨ n11 = (2 : Int32) ∨ n11 = (3 : Int32) ∨ n11 = (4 : Int32) ∨ n11 = (5 : Int32) ∨ n11 = (6 : Int32) ∨ n11 = (7 : Int32)) :
    MetFree l own_y0 (head1 (Jvm.Cond.code own_y0 prog_69_method_9_code 2 (some (.object own_s1)) :: ws) ({ frames := 0, cells := 0, slots := 0, locals := 0 } : Room)) (fun a U => a = #[(.ref t10), (.int n11)] ∧ Z.Warmed39 U.vm ∧ U.heap = h0) (fun _ _ _ _ _ => True) (fun _ U o U' => ∃ v L, o = .returned v ∧ own_Q14_109 Z t10 n11 b3x13_101c5125 k3x13_101c5125c5127 gxc5100 n12 gxc5060 h0 n0 v U'.heap L ∧ FrameEnd U o U' L ({ frames := 0, cells := 0, slots := 0, locals := 0 } : Room).cells ({ frames := 0, cells := 0, slots := 0, locals := 0 } : Room).slots) := by
  refine MetFree.of_bodySF (plainFor_of_name own_pn1) hisR ?_
  intro p e s m args below meth c s₁ Bd hml0 hP hK
  obtain ⟨rfl, hZ, hh⟩ := hP
  have hx := Bd.exec
  have hlk := Bd.notSynchronized
  have hret := Bd.returns
  have hby := Bd.bytes
  have hml : c.maxLocals = 2 := hml0
  have hown : s.vm.findClass own_s0 = some m.cls := findClass_of_methodNamed Bd.named
  have hnm := (name_of_methodNamed Bd.named Bd.method).1
  have X0 : Stand p l e ({ frames := 0, cells := 0, slots := 0, locals := 0 } : Room) s m #[(.ref t10), (.int n11)] below meth c s₁ [] 0 0 := Stand.of_body Bd
  have e0 : s₁.heap = h0 := by rw [← hh, Bd.state]; rfl
  have N0 := Fr.nil n0
  refine own_open (Q := own_Q14_109 Z t10 n11 b3x13_101c5125 k3x13_101c5125c5127 gxc5100 n12 gxc5060 h0 n0) (own_ef14 m t10 n11) ?_
  refine own_st (fun t k => XS.aloadN X0.here hx rfl (hb hby own_d14_0) rfl rfl k) ?_
  refine own_gF X0 hx hZ hown (own_w hw 25 rfl) Via.refl e0 P0 (hb hby own_d14_1) rfl rfl fun T1 X1 e1 => ?_
  show own_Go _ _ _ _ T1 (mkF m 4 #[.val (.ref t10), .val (.int n11)] [(.ref b3x13_101c5125)])
  refine own_st (fun t k => XS.ifnonnullYes X1.here hx rfl (pc0 := 4) (pc' := 11) rfl (hb hby own_d14_4) rfl (by decide) (by decide) (XS.aloadN X1.here hx rfl (hb hby own_d14_11) rfl rfl k)) ?_
  refine own_gF X1 hx hZ hown (own_w hw 25 rfl) Via.refl e1 P0 (hb hby own_d14_12) rfl rfl fun T2 X2 e2 => ?_
  show own_Go _ _ _ _ T2 (mkF m 15 #[.val (.ref t10), .val (.int n11)] [(.ref b3x13_101c5125)])
  refine own_st (fun t k => XS.iloadN X2.here hx rfl (hb hby own_d14_15) rfl k) ?_
  have i3 : ¬ n11 < 0 ∧ n11 < (8 : Int32) := ((by decide +kernel : ∀ x ∈ own_D8, (¬ x < 0 ∧ x < (8 : Int32))) _ (own_m8 R_n11) )
  refine own_st (own_aaloadH X2 hx hZ e2 P1 rfl i3 (v := (.ref gxc5100)) (getH_hit i3.1 rfl) (g := (mkF m 16 #[.val (.ref t10), .val (.int n11)] [(.int n11), (.ref b3x13_101c5125)])) rfl rfl (hb hby own_d14_16)) ?_
  exact own_retA X2 hx hlk hret rfl rfl (hb hby own_d14_17) (by decide) (by decide) e2 ⟨N0, (Keep.refl h0 []), ⟨rfl, trivial⟩⟩
def own_Q14_110 (Z : State) (t10 : Addr) (n12 : Int32) (b3x13_101c5125 : Addr) (k3x13_101c5125c5127 : ClassId) (n11 : Int32) (gxc5100 : Addr) (gxc5060 : Addr) (h0 : Heap) (n0 : Nat) (v : Option Value) (h : Heap) (L : List Loc) : Prop := Fr n0 L ∧ Keep h0 h [] ∧ ((v = some (.ref gxc5100) ∧ (n12 = n11) ∧ True) ∨ (v = some (.ref gxc5060) ∧ (¬ (n12 = n11)) ∧ True))
set_option maxRecDepth 65536 in
set_option maxHeartbeats 40000000 in
theorem own_rm14_110 (l : Launch) (Z : State) (a0 : Array Value) (hw : ∀ d ∈ tables_1, d.before a0 Z = true) (ws : List Jvm.Cond) (t10 : Addr) (n12 : Int32) (b3x13_101c5125 : Addr) (k3x13_101c5125c5127 : ClassId) (n11 : Int32) (gxc5100 : Addr) (gxc5060 : Addr) (h0 : Heap) (n0 : Nat) (Z0 : n0 ≤ h0.size) (P0 : Fld Z h0 t10 own_s0 "values" own_s2 (.ref b3x13_101c5125)) (P1 : Arh Z h0 b3x13_101c5125 k3x13_101c5125c5127 (.object own_s1) (8 : Int32) [(n11, (.ref gxc5100)), (n12, (.ref gxc5060))] [] .null) (OFc5127_0_0 : Ovr Z k3x13_101c5125c5127 own_s1) (R_n12 : n12 = (0 : Int32) ∨ n12 = (1 : Int32) ∨ n12 = (2 : Int32) ∨ n12 = (3 : Int32) ∨ n12 = (4 : Int32) ∨ n12 = (5 : Int32) ∨ n12 = (6 : Int32) ∨ n12 = (7 : Int32)) (R_n11 : n11 = (0 : Int32) ∨ n11 = (1 : Int32) ∨ n11 = (2 : Int32) ∨ n11 = (3 : Int32) ∨ n11 = (4 : Int32) ∨ n11 = (5 : Int32) ∨ n11 = (6 : Int32) ∨ n11 = (7 : Int32)) :
    MetFree l own_y0 (head1 (Jvm.Cond.code own_y0 prog_69_method_9_code 2 (some (.object own_s1)) :: ws) ({ frames := 0, cells := 0, slots := 0, locals := 0 } : Room)) (fun a U => a = #[(.ref t10), (.int n12)] ∧ Z.Warmed39 U.vm ∧ U.heap = h0) (fun _ _ _ _ _ => True) (fun _ U o U' => ∃ v L, o = .returned v ∧ own_Q14_110 Z t10 n12 b3x13_101c5125 k3x13_101c5125c5127 n11 gxc5100 gxc5060 h0 n0 v U'.heap L ∧ FrameEnd U o U' L ({ frames := 0, cells := 0, slots := 0, locals := 0 } : Room).cells ({ frames := 0, cells := 0, slots := 0, locals := 0 } : Room).slots) := by
  refine MetFree.of_bodySF (plainFor_of_name own_pn1) hisR ?_
  intro p e s m args below meth c s₁ Bd hml0 hP hK
  obtain ⟨rfl, hZ, hh⟩ := hP
  have hx := Bd.exec
  have hlk := Bd.notSynchronized
  have hret := Bd.returns
  have hby := Bd.bytes
  have hml : c.maxLocals = 2 := hml0
  have hown : s.vm.findClass own_s0 = some m.cls := findClass_of_methodNamed Bd.named
  have hnm := (name_of_methodNamed Bd.named Bd.method).1
  have X0 : Stand p l e ({ frames := 0, cells := 0, slots := 0, locals := 0 } : Room) s m #[(.ref t10), (.int n12)] below meth c s₁ [] 0 0 := Stand.of_body Bd
  have e0 : s₁.heap = h0 := by rw [← hh, Bd.state]; rfl
  have N0 := Fr.nil n0
  refine own_open (Q := own_Q14_110 Z t10 n12 b3x13_101c5125 k3x13_101c5125c5127 n11 gxc5100 gxc5060 h0 n0) (own_ef14 m t10 n12) ?_
  refine own_st (fun t k => XS.aloadN X0.here hx rfl (hb hby own_d14_0) rfl rfl k) ?_
  refine own_gF X0 hx hZ hown (own_w hw 25 rfl) Via.refl e0 P0 (hb hby own_d14_1) rfl rfl fun T1 X1 e1 => ?_
  show own_Go _ _ _ _ T1 (mkF m 4 #[.val (.ref t10), .val (.int n12)] [(.ref b3x13_101c5125)])
  refine own_st (fun t k => XS.ifnonnullYes X1.here hx rfl (pc0 := 4) (pc' := 11) rfl (hb hby own_d14_4) rfl (by decide) (by decide) (XS.aloadN X1.here hx rfl (hb hby own_d14_11) rfl rfl k)) ?_
  refine own_gF X1 hx hZ hown (own_w hw 25 rfl) Via.refl e1 P0 (hb hby own_d14_12) rfl rfl fun T2 X2 e2 => ?_
  show own_Go _ _ _ _ T2 (mkF m 15 #[.val (.ref t10), .val (.int n12)] [(.ref b3x13_101c5125)])
  refine own_st (fun t k => XS.iloadN X2.here hx rfl (hb hby own_d14_15) rfl k) ?_
  have i3 : ¬ n12 < 0 ∧ n12 < (8 : Int32) := ((by decide +kernel : ∀ x ∈ own_D8, (¬ x < 0 ∧ x < (8 : Int32))) _ (own_m8 R_n12) )
  by_cases hc4 : n12 = n11
  · skip
    refine own_st (own_aaloadH X2 hx hZ e2 P1 rfl i3 (v := (.ref gxc5100)) (getH_hit i3.1 hc4) (g := (mkF m 16 #[.val (.ref t10), .val (.int n12)] [(.int n12), (.ref b3x13_101c5125)])) rfl rfl (hb hby own_d14_16)) ?_
    exact own_retA X2 hx hlk hret rfl rfl (hb hby own_d14_17) (by decide) (by decide) e2 ⟨N0, (Keep.refl h0 []), (Or.inl ⟨rfl, hc4, trivial⟩)⟩
  · skip
    refine own_st (own_aaloadH X2 hx hZ e2 P1 rfl i3 (v := (.ref gxc5060)) (getH_miss i3.1 hc4 (getH_hit i3.1 rfl)) (g := (mkF m 16 #[.val (.ref t10), .val (.int n12)] [(.int n12), (.ref b3x13_101c5125)])) rfl rfl (hb hby own_d14_16)) ?_
    show own_Go _ _ _ _ T2 (mkF m 17 #[.val (.ref t10), .val (.int n12)] [(.ref gxc5060)])
    exact own_retA X2 hx hlk hret rfl rfl (hb hby own_d14_17) (by decide) (by decide) e2 ⟨N0, (Keep.refl h0 []), (Or.inr ⟨rfl, hc4, trivial⟩)⟩
def own_Q13_112 (Z : State) (t10 : Addr) (n12 : Int32) (b3x13_97c5145 : Addr) (k3x13_97c5145 : ClassId) (n11 : Int32) (gxc5137 : Addr) (h0 : Heap) (n0 : Nat) (v : Option Value) (h : Heap) (L : List Loc) : Prop := Fr n0 L ∧ Keep h0 h [b3x13_97c5145] ∧ ((∃ k3x13_97c5145 : ClassId, v = none ∧ Arh Z h b3x13_97c5145 k3x13_97c5145 (.object own_s1) (8 : Int32) [(n12, .null), (n11, (.ref gxc5137))] [] .null ∧ Ovr Z k3x13_97c5145 own_s1 ∧ True))
set_option maxRecDepth 65536 in
set_option maxHeartbeats 40000000 in
theorem own_rm13_112 (l : Launch) (Z : State) (a0 : Array Value) (hw : ∀ d ∈ tables_1, d.before a0 Z = true) (ws : List Jvm.Cond) (t10 : Addr) (n12 : Int32) (b3x13_97c5145 : Addr) (k3x13_97c5145 : ClassId) (n11 : Int32) (gxc5137 : Addr) (h0 : Heap) (n0 : Nat) (Z0 : n0 ≤ h0.size) (P0 : Fld Z h0 t10 own_s0 "values" own_s2 (.ref b3x13_97c5145)) (P1 : Arh Z h0 b3x13_97c5145 k3x13_97c5145 (.object own_s1) (8 : Int32) [(n11, (.ref gxc5137))] [] .null) (OFc5145_0_2 : Ovr Z k3x13_97c5145 own_s1) (R_n12 : n12 = (0 : Int32) ∨ n12 = (1 : Int32) ∨ n12 = (2 : Int32) ∨ n12 = (3 : Int32) ∨ n12 = (4 : Int32) ∨ n12 = (5 : Int32) ∨ n12 = (6 : Int32) ∨ n12 = (7 : Int32)) (g_b3x13_97c5145 : n0 ≤ b3x13_97c5145) :
    MetFree l own_y1 (head1 (Jvm.Cond.code own_y1 prog_69_method_10_code 3 none :: ws) ({ frames := 0, cells := 0, slots := 0, locals := 0 } : Room)) (fun a U => a = #[(.ref t10), (.int n12), .null] ∧ Z.Warmed39 U.vm ∧ U.heap = h0) (fun _ _ _ _ _ => True) (fun _ U o U' => ∃ v L, o = .returned v ∧ own_Q13_112 Z t10 n12 b3x13_97c5145 k3x13_97c5145 n11 gxc5137 h0 n0 v U'.heap L ∧ FrameEnd U o U' L ({ frames := 0, cells := 0, slots := 0, locals := 0 } : Room).cells ({ frames := 0, cells := 0, slots := 0, locals := 0 } : Room).slots) := by
  refine MetFree.of_bodySF (plainFor_of_name own_pn1) hisR ?_
  intro p e s m args below meth c s₁ Bd hml0 hP hK
  obtain ⟨rfl, hZ, hh⟩ := hP
  have hx := Bd.exec
  have hlk := Bd.notSynchronized
  have hret := Bd.returns
  have hby := Bd.bytes
  have hml : c.maxLocals = 3 := hml0
  have hown : s.vm.findClass own_s0 = some m.cls := findClass_of_methodNamed Bd.named
  have hnm := (name_of_methodNamed Bd.named Bd.method).1
  have X0 : Stand p l e ({ frames := 0, cells := 0, slots := 0, locals := 0 } : Room) s m #[(.ref t10), (.int n12), .null] below meth c s₁ [] 0 0 := Stand.of_body Bd
  have e0 : s₁.heap = h0 := by rw [← hh, Bd.state]; rfl
  have N0 := Fr.nil n0
  refine own_open (Q := own_Q13_112 Z t10 n12 b3x13_97c5145 k3x13_97c5145 n11 gxc5137 h0 n0) (own_ef13RIN m t10 n12) ?_
  refine own_st (fun t k => XS.aloadN X0.here hx rfl (hb hby own_d13_0) rfl rfl k) ?_
  refine own_gF X0 hx hZ hown (own_w hw 25 rfl) Via.refl e0 P0 (hb hby own_d13_1) rfl rfl fun T1 X1 e1 => ?_
  show own_Go _ _ _ _ T1 (mkF m 4 #[.val (.ref t10), .val (.int n12), .val .null] [(.ref b3x13_97c5145)])
  refine own_st (fun t k => XS.ifnonnullYes X1.here hx rfl (pc0 := 4) (pc' := 23) rfl (hb hby own_d13_4) rfl (by decide) (by decide) (XS.aloadN X1.here hx rfl (hb hby own_d13_23) rfl rfl k)) ?_
  refine own_gF X1 hx hZ hown (own_w hw 25 rfl) Via.refl e1 P0 (hb hby own_d13_24) rfl rfl fun T2 X2 e2 => ?_
  show own_Go _ _ _ _ T2 (mkF m 27 #[.val (.ref t10), .val (.int n12), .val .null] [(.ref b3x13_97c5145)])
  refine own_st (fun t k => XS.ifnullNo X2.here hx rfl (hb hby own_d13_27) rfl (XS.aloadN X2.here hx rfl (hb hby own_d13_30) rfl rfl k)) ?_
  refine own_gF X2 hx hZ hown (own_w hw 25 rfl) Via.refl e2 P0 (hb hby own_d13_31) rfl rfl fun T3 X3 e3 => ?_
  show own_Go _ _ _ _ T3 (mkF m 34 #[.val (.ref t10), .val (.int n12), .val .null] [(.ref b3x13_97c5145)])
  refine own_st (fun t k => XS.iloadN X3.here hx rfl (hb hby own_d13_34) rfl (XS.aloadN X3.here hx rfl (hb hby own_d13_35) rfl rfl k)) ?_
  obtain ⟨c4, A4, q4, S4, M4, H4, G4⟩ := P1
  obtain ⟨T4, h4, X4, e4, W4, st4⟩ := stR X3 hx hZ e3 A4 (j := n12) (inb_of S4 ((by decide +kernel : ∀ x ∈ own_D8, (¬ x < 0 ∧ x < (8 : Int32))) _ (own_m8 R_n12) )) rfl (Or.inl rfl) (g := (mkF m 36 #[.val (.ref t10), .val (.int n12), .val .null] [.null, (.int n12), (.ref b3x13_97c5145)])) rfl rfl (hb hby own_d13_36)
  refine own_st st4 ?_
  have K4 : Keep h0 h4 [b3x13_97c5145] := (Keep.refl h0 [b3x13_97c5145]).wr W4 (Or.inl (List.mem_of_getElem? (i := 0) rfl))
  have Z4 := Nat.le_trans Z0 (Keep.of_wr W4).1
  have N4 := Fr.snoc X4 N0 g_b3x13_97c5145
  have V4 : Arh Z h4 b3x13_97c5145 k3x13_97c5145 (.object own_s1) (8 : Int32) [(n12, .null), (n11, (.ref gxc5137))] [] .null := Arh.push A4 q4 S4 M4 H4 G4 rfl W4 (inb_of S4 ((by decide +kernel : ∀ x ∈ own_D8, (¬ x < 0 ∧ x < (8 : Int32))) _ (own_m8 R_n12) ))
  show own_Go _ _ _ _ T4 (mkF m 37 #[.val (.ref t10), .val (.int n12), .val .null] [])
  exact own_retV X4 hx hlk hret (hb hby own_d13_37) (by decide) (by decide) e4 ⟨N4, K4, ⟨_, rfl, V4, OFc5145_0_2, trivial⟩⟩
def own_Q14_113 (Z : State) (t10 : Addr) (n11 : Int32) (b3x13_97c5145 : Addr) (k3x13_97c5145c5146 : ClassId) (n12 : Int32) (gxc5137 : Addr) (h0 : Heap) (n0 : Nat) (v : Option Value) (h : Heap) (L : List Loc) : Prop := Fr n0 L ∧ Keep h0 h [] ∧ ((v = some .null ∧ (n11 = n12) ∧ True) ∨ (v = some (.ref gxc5137) ∧ (¬ (n11 = n12)) ∧ True))
set_option maxRecDepth 65536 in
set_option maxHeartbeats 40000000 in
theorem own_rm14_113 (l : Launch) (Z : State) (a0 : Array Value) (hw : ∀ d ∈ tables_1, d.before a0 Z = true) (ws : List Jvm.Cond) (t10 : Addr) (n11 : Int32) (b3x13_97c5145 : Addr) (k3x13_97c5145c5146 : ClassId) (n12 : Int32) (gxc5137 : Addr) (h0 : Heap) (n0 : Nat) (Z0 : n0 ≤ h0.size) (P0 : Fld Z h0 t10 own_s0 "values" own_s2 (.ref b3x13_97c5145)) (P1 : Arh Z h0 b3x13_97c5145 k3x13_97c5145c5146 (.object own_s1) (8 : Int32) [(n12, .null), (n11, (.ref gxc5137))] [] .null) (OFc5146_0_0 : Ovr Z k3x13_97c5145c5146 own_s1) (R_n11 : n11 = (0 : Int32) ∨ n11 = (1 : Int32) ∨ n11 = (2 : Int32) ∨ n11 = (3 : Int32) ∨ n11 = (4 : Int32) ∨ n11 = (5 : Int32) ∨ n11 = (6 : Int32) ∨ n11 = (7 : Int32)) (R_n12 : n12 = (0 : Int32) ∨ n12 = (1 : Int32) ∨ n12 = (2 : Int32) ∨ n12 = (3 : Int32) ∨ n12 = (4 : Int32) ∨ n12 = (5 : Int32) ∨ n12 = (6 : Int32) ∨ n12 = (7 : Int32)) :
    MetFree l own_y0 (head1 (Jvm.Cond.code own_y0 prog_69_method_9_code 2 (some (.object own_s1)) :: ws) ({ frames := 0, cells := 0, slots := 0, locals := 0 } : Room)) (fun a U => a = #[(.ref t10), (.int n11)] ∧ Z.Warmed39 U.vm ∧ U.heap = h0) (fun _ _ _ _ _ => True) (fun _ U o U' => ∃ v L, o = .returned v ∧ own_Q14_113 Z t10 n11 b3x13_97c5145 k3x13_97c5145c5146 n12 gxc5137 h0 n0 v U'.heap L ∧ FrameEnd U o U' L ({ frames := 0, cells := 0, slots := 0, locals := 0 } : Room).cells ({ frames := 0, cells := 0, slots := 0, locals := 0 } : Room).slots) := by
  refine MetFree.of_bodySF (plainFor_of_name own_pn1) hisR ?_
  intro p e s m args below meth c s₁ Bd hml0 hP hK
  obtain ⟨rfl, hZ, hh⟩ := hP
  have hx := Bd.exec
  have hlk := Bd.notSynchronized
  have hret := Bd.returns
  have hby := Bd.bytes
  have hml : c.maxLocals = 2 := hml0
  have hown : s.vm.findClass own_s0 = some m.cls := findClass_of_methodNamed Bd.named
  have hnm := (name_of_methodNamed Bd.named Bd.method).1
  have X0 : Stand p l e ({ frames := 0, cells := 0, slots := 0, locals := 0 } : Room) s m #[(.ref t10), (.int n11)] below meth c s₁ [] 0 0 := Stand.of_body Bd
  have e0 : s₁.heap = h0 := by rw [← hh, Bd.state]; rfl
  have N0 := Fr.nil n0
  refine own_open (Q := own_Q14_113 Z t10 n11 b3x13_97c5145 k3x13_97c5145c5146 n12 gxc5137 h0 n0) (own_ef14 m t10 n11) ?_
  refine own_st (fun t k => XS.aloadN X0.here hx rfl (hb hby own_d14_0) rfl rfl k) ?_
  refine own_gF X0 hx hZ hown (own_w hw 25 rfl) Via.refl e0 P0 (hb hby own_d14_1) rfl rfl fun T1 X1 e1 => ?_
  show own_Go _ _ _ _ T1 (mkF m 4 #[.val (.ref t10), .val (.int n11)] [(.ref b3x13_97c5145)])
  refine own_st (fun t k => XS.ifnonnullYes X1.here hx rfl (pc0 := 4) (pc' := 11) rfl (hb hby own_d14_4) rfl (by decide) (by decide) (XS.aloadN X1.here hx rfl (hb hby own_d14_11) rfl rfl k)) ?_
  refine own_gF X1 hx hZ hown (own_w hw 25 rfl) Via.refl e1 P0 (hb hby own_d14_12) rfl rfl fun T2 X2 e2 => ?_
  show own_Go _ _ _ _ T2 (mkF m 15 #[.val (.ref t10), .val (.int n11)] [(.ref b3x13_97c5145)])
  refine own_st (fun t k => XS.iloadN X2.here hx rfl (hb hby own_d14_15) rfl k) ?_
  have i3 : ¬ n11 < 0 ∧ n11 < (8 : Int32) := ((by decide +kernel : ∀ x ∈ own_D8, (¬ x < 0 ∧ x < (8 : Int32))) _ (own_m8 R_n11) )
  by_cases hc4 : n11 = n12
  · skip
    refine own_st (own_aaloadH X2 hx hZ e2 P1 rfl i3 (v := .null) (getH_hit i3.1 hc4) (g := (mkF m 16 #[.val (.ref t10), .val (.int n11)] [(.int n11), (.ref b3x13_97c5145)])) rfl rfl (hb hby own_d14_16)) ?_
    exact own_retA X2 hx hlk hret rfl rfl (hb hby own_d14_17) (by decide) (by decide) e2 ⟨N0, (Keep.refl h0 []), (Or.inl ⟨rfl, hc4, trivial⟩)⟩
  · skip
    refine own_st (own_aaloadH X2 hx hZ e2 P1 rfl i3 (v := (.ref gxc5137)) (getH_miss i3.1 hc4 (getH_hit i3.1 rfl)) (g := (mkF m 16 #[.val (.ref t10), .val (.int n11)] [(.int n11), (.ref b3x13_97c5145)])) rfl rfl (hb hby own_d14_16)) ?_
    show own_Go _ _ _ _ T2 (mkF m 17 #[.val (.ref t10), .val (.int n11)] [(.ref gxc5137)])
    exact own_retA X2 hx hlk hret rfl rfl (hb hby own_d14_17) (by decide) (by decide) e2 ⟨N0, (Keep.refl h0 []), (Or.inr ⟨rfl, hc4, trivial⟩)⟩
def own_Q14_114 (Z : State) (t10 : Addr) (n12 : Int32) (b3x13_97c5145 : Addr) (k3x13_97c5145c5146 : ClassId) (n11 : Int32) (gxc5137 : Addr) (h0 : Heap) (n0 : Nat) (v : Option Value) (h : Heap) (L : List Loc) : Prop := Fr n0 L ∧ Keep h0 h [] ∧ ((v = some .null ∧ True))
set_option maxRecDepth 65536 in
set_option maxHeartbeats 40000000 in
theorem own_rm14_114 (l : Launch) (Z : State) (a0 : Array Value) (hw : ∀ d ∈ tables_1, d.before a0 Z = true) (ws : List Jvm.Cond) (t10 : Addr) (n12 : Int32) (b3x13_97c5145 : Addr) (k3x13_97c5145c5146 : ClassId) (n11 : Int32) (gxc5137 : Addr) (h0 : Heap) (n0 : Nat) (Z0 : n0 ≤ h0.size) (P0 : Fld Z h0 t10 own_s0 "values" own_s2 (.ref b3x13_97c5145)) (P1 : Arh Z h0 b3x13_97c5145 k3x13_97c5145c5146 (.object own_s1) (8 : Int32) [(n12, .null), (n11, (.ref gxc5137))] [] .null) (OFc5146_0_0 : Ovr Z k3x13_97c5145c5146 own_s1) (R_n12 : n12 = (0 : Int32) ∨ n12 = (1 : Int32) ∨ n12 = (2 : Int32) ∨ n12 = (3 : Int32) ∨ n12 = (4 : Int32) ∨ n12 = (5 : Int32) ∨ n12 = (6 : Int32) ∨ n12 = (7 : Int32)) :
    MetFree l own_y0 (head1 (Jvm.Cond.code own_y0 prog_69_method_9_code 2 (some (.object own_s1)) :: ws) ({ frames := 0, cells := 0, slots := 0, locals := 0 } : Room)) (fun a U => a = #[(.ref t10), (.int n12)] ∧ Z.Warmed39 U.vm ∧ U.heap = h0) (fun _ _ _ _ _ => True) (fun _ U o U' => ∃ v L, o = .returned v ∧ own_Q14_114 Z t10 n12 b3x13_97c5145 k3x13_97c5145c5146 n11 gxc5137 h0 n0 v U'.heap L ∧ FrameEnd U o U' L ({ frames := 0, cells := 0, slots := 0, locals := 0 } : Room).cells ({ frames := 0, cells := 0, slots := 0, locals := 0 } : Room).slots) := by
  refine MetFree.of_bodySF (plainFor_of_name own_pn1) hisR ?_
  intro p e s m args below meth c s₁ Bd hml0 hP hK
  obtain ⟨rfl, hZ, hh⟩ := hP
  have hx := Bd.exec
  have hlk := Bd.notSynchronized
  have hret := Bd.returns
  have hby := Bd.bytes
  have hml : c.maxLocals = 2 := hml0
  have hown : s.vm.findClass own_s0 = some m.cls := findClass_of_methodNamed Bd.named
  have hnm := (name_of_methodNamed Bd.named Bd.method).1
  have X0 : Stand p l e ({ frames := 0, cells := 0, slots := 0, locals := 0 } : Room) s m #[(.ref t10), (.int n12)] below meth c s₁ [] 0 0 := Stand.of_body Bd
  have e0 : s₁.heap = h0 := by rw [← hh, Bd.state]; rfl
  have N0 := Fr.nil n0
  refine own_open (Q := own_Q14_114 Z t10 n12 b3x13_97c5145 k3x13_97c5145c5146 n11 gxc5137 h0 n0) (own_ef14 m t10 n12) ?_
  refine own_st (fun t k => XS.aloadN X0.here hx rfl (hb hby own_d14_0) rfl rfl k) ?_
  refine own_gF X0 hx hZ hown (own_w hw 25 rfl) Via.refl e0 P0 (hb hby own_d14_1) rfl rfl fun T1 X1 e1 => ?_
  show own_Go _ _ _ _ T1 (mkF m 4 #[.val (.ref t10), .val (.int n12)] [(.ref b3x13_97c5145)])
  refine own_st (fun t k => XS.ifnonnullYes X1.here hx rfl (pc0 := 4) (pc' := 11) rfl (hb hby own_d14_4) rfl (by decide) (by decide) (XS.aloadN X1.here hx rfl (hb hby own_d14_11) rfl rfl k)) ?_
  refine own_gF X1 hx hZ hown (own_w hw 25 rfl) Via.refl e1 P0 (hb hby own_d14_12) rfl rfl fun T2 X2 e2 => ?_
  show own_Go _ _ _ _ T2 (mkF m 15 #[.val (.ref t10), .val (.int n12)] [(.ref b3x13_97c5145)])
  refine own_st (fun t k => XS.iloadN X2.here hx rfl (hb hby own_d14_15) rfl k) ?_
  have i3 : ¬ n12 < 0 ∧ n12 < (8 : Int32) := ((by decide +kernel : ∀ x ∈ own_D8, (¬ x < 0 ∧ x < (8 : Int32))) _ (own_m8 R_n12) )
  refine own_st (own_aaloadH X2 hx hZ e2 P1 rfl i3 (v := .null) (getH_hit i3.1 rfl) (g := (mkF m 16 #[.val (.ref t10), .val (.int n12)] [(.int n12), (.ref b3x13_97c5145)])) rfl rfl (hb hby own_d14_16)) ?_
  exact own_retA X2 hx hlk hret rfl rfl (hb hby own_d14_17) (by decide) (by decide) e2 ⟨N0, (Keep.refl h0 []), ⟨rfl, trivial⟩⟩
def own_Q13_116 (Z : State) (t10 : Addr) (n11 : Int32) (b3x13_97c5160 : Addr) (k3x13_97c5145c5161 : ClassId) (n12 : Int32) (gxc5137 : Addr) (h0 : Heap) (n0 : Nat) (v : Option Value) (h : Heap) (L : List Loc) : Prop := Fr n0 L ∧ Keep h0 h [b3x13_97c5160] ∧ ((∃ k3x13_97c5145c5161 : ClassId, v = none ∧ Arh Z h b3x13_97c5160 k3x13_97c5145c5161 (.object own_s1) (8 : Int32) [(n11, .null), (n12, .null), (n11, (.ref gxc5137))] [] .null ∧ Ovr Z k3x13_97c5145c5161 own_s1 ∧ True))
set_option maxRecDepth 65536 in
set_option maxHeartbeats 40000000 in
theorem own_rm13_116 (l : Launch) (Z : State) (a0 : Array Value) (hw : ∀ d ∈ tables_1, d.before a0 Z = true) (ws : List Jvm.Cond) (t10 : Addr) (n11 : Int32) (b3x13_97c5160 : Addr) (k3x13_97c5145c5161 : ClassId) (n12 : Int32) (gxc5137 : Addr) (h0 : Heap) (n0 : Nat) (Z0 : n0 ≤ h0.size) (P0 : Fld Z h0 t10 own_s0 "values" own_s2 (.ref b3x13_97c5160)) (P1 : Arh Z h0 b3x13_97c5160 k3x13_97c5145c5161 (.object own_s1) (8 : Int32) [(n12, .null), (n11, (.ref gxc5137))] [] .null) (OFc5161_0_0 : Ovr Z k3x13_97c5145c5161 own_s1) (R_n11 : n11 = (0 : Int32) ∨ n11 = (1 : Int32) ∨ n11 = (2 : Int32) ∨ n11 = (3 : Int32) ∨ n11 = (4 : Int32) ∨ n11 = (5 : Int32) ∨ n11 = (6 : Int32) ∨ n11 = (7 : Int32)) (g_b3x13_97c5160 : n0 ≤ b3x13_97c5160) :
    MetFree l own_y1 (head1 (Jvm.Cond.code own_y1 prog_69_method_10_code 3 none :: ws) ({ frames := 0, cells := 0, slots := 0, locals := 0 } : Room)) (fun a U => a = #[(.ref t10), (.int n11), .null] ∧ Z.Warmed39 U.vm ∧ U.heap = h0) (fun _ _ _ _ _ => True) (fun _ U o U' => ∃ v L, o = .returned v ∧ own_Q13_116 Z t10 n11 b3x13_97c5160 k3x13_97c5145c5161 n12 gxc5137 h0 n0 v U'.heap L ∧ FrameEnd U o U' L ({ frames := 0, cells := 0, slots := 0, locals := 0 } : Room).cells ({ frames := 0, cells := 0, slots := 0, locals := 0 } : Room).slots) := by
  refine MetFree.of_bodySF (plainFor_of_name own_pn1) hisR ?_
  intro p e s m args below meth c s₁ Bd hml0 hP hK
  obtain ⟨rfl, hZ, hh⟩ := hP
  have hx := Bd.exec
  have hlk := Bd.notSynchronized
  have hret := Bd.returns
  have hby := Bd.bytes
  have hml : c.maxLocals = 3 := hml0
  have hown : s.vm.findClass own_s0 = some m.cls := findClass_of_methodNamed Bd.named
  have hnm := (name_of_methodNamed Bd.named Bd.method).1
  have X0 : Stand p l e ({ frames := 0, cells := 0, slots := 0, locals := 0 } : Room) s m #[(.ref t10), (.int n11), .null] below meth c s₁ [] 0 0 := Stand.of_body Bd
  have e0 : s₁.heap = h0 := by rw [← hh, Bd.state]; rfl
  have N0 := Fr.nil n0
  refine own_open (Q := own_Q13_116 Z t10 n11 b3x13_97c5160 k3x13_97c5145c5161 n12 gxc5137 h0 n0) (own_ef13RIN m t10 n11) ?_
  refine own_st (fun t k => XS.aloadN X0.here hx rfl (hb hby own_d13_0) rfl rfl k) ?_
  refine own_gF X0 hx hZ hown (own_w hw 25 rfl) Via.refl e0 P0 (hb hby own_d13_1) rfl rfl fun T1 X1 e1 => ?_
  show own_Go _ _ _ _ T1 (mkF m 4 #[.val (.ref t10), .val (.int n11), .val .null] [(.ref b3x13_97c5160)])
  refine own_st (fun t k => XS.ifnonnullYes X1.here hx rfl (pc0 := 4) (pc' := 23) rfl (hb hby own_d13_4) rfl (by decide) (by decide) (XS.aloadN X1.here hx rfl (hb hby own_d13_23) rfl rfl k)) ?_
  refine own_gF X1 hx hZ hown (own_w hw 25 rfl) Via.refl e1 P0 (hb hby own_d13_24) rfl rfl fun T2 X2 e2 => ?_
  show own_Go _ _ _ _ T2 (mkF m 27 #[.val (.ref t10), .val (.int n11), .val .null] [(.ref b3x13_97c5160)])
  refine own_st (fun t k => XS.ifnullNo X2.here hx rfl (hb hby own_d13_27) rfl (XS.aloadN X2.here hx rfl (hb hby own_d13_30) rfl rfl k)) ?_
  refine own_gF X2 hx hZ hown (own_w hw 25 rfl) Via.refl e2 P0 (hb hby own_d13_31) rfl rfl fun T3 X3 e3 => ?_
  show own_Go _ _ _ _ T3 (mkF m 34 #[.val (.ref t10), .val (.int n11), .val .null] [(.ref b3x13_97c5160)])
  refine own_st (fun t k => XS.iloadN X3.here hx rfl (hb hby own_d13_34) rfl (XS.aloadN X3.here hx rfl (hb hby own_d13_35) rfl rfl k)) ?_
  obtain ⟨c4, A4, q4, S4, M4, H4, G4⟩ := P1
  obtain ⟨T4, h4, X4, e4, W4, st4⟩ := stR X3 hx hZ e3 A4 (j := n11) (inb_of S4 ((by decide +kernel : ∀ x ∈ own_D8, (¬ x < 0 ∧ x < (8 : Int32))) _ (own_m8 R_n11) )) rfl (Or.inl rfl) (g := (mkF m 36 #[.val (.ref t10), .val (.int n11), .val .null] [.null, (.int n11), (.ref b3x13_97c5160)])) rfl rfl (hb hby own_d13_36)
  refine own_st st4 ?_
  have K4 : Keep h0 h4 [b3x13_97c5160] := (Keep.refl h0 [b3x13_97c5160]).wr W4 (Or.inl (List.mem_of_getElem? (i := 0) rfl))
  have Z4 := Nat.le_trans Z0 (Keep.of_wr W4).1
  have N4 := Fr.snoc X4 N0 g_b3x13_97c5160
  have V4 : Arh Z h4 b3x13_97c5160 k3x13_97c5145c5161 (.object own_s1) (8 : Int32) [(n11, .null), (n12, .null), (n11, (.ref gxc5137))] [] .null := Arh.push A4 q4 S4 M4 H4 G4 rfl W4 (inb_of S4 ((by decide +kernel : ∀ x ∈ own_D8, (¬ x < 0 ∧ x < (8 : Int32))) _ (own_m8 R_n11) ))
  show own_Go _ _ _ _ T4 (mkF m 37 #[.val (.ref t10), .val (.int n11), .val .null] [])
  exact own_retV X4 hx hlk hret (hb hby own_d13_37) (by decide) (by decide) e4 ⟨N4, K4, ⟨_, rfl, V4, OFc5161_0_0, trivial⟩⟩
def own_Q14_117 (Z : State) (t10 : Addr) (n11 : Int32) (b3x13_97c5160 : Addr) (k3x13_97c5145c5161c5165 : ClassId) (n12 : Int32) (gxc5137 : Addr) (h0 : Heap) (n0 : Nat) (v : Option Value) (h : Heap) (L : List Loc) : Prop := Fr n0 L ∧ Keep h0 h [] ∧ ((v = some .null ∧ True))
set_option maxRecDepth 65536 in
set_option maxHeartbeats 40000000 in
theorem own_rm14_117 (l : Launch) (Z : State) (a0 : Array Value) (hw : ∀ d ∈ tables_1, d.before a0 Z = true) (ws : List Jvm.Cond) (t10 : Addr) (n11 : Int32) (b3x13_97c5160 : Addr) (k3x13_97c5145c5161c5165 : ClassId) (n12 : Int32) (gxc5137 : Addr) (h0 : Heap) (n0 : Nat) (Z0 : n0 ≤ h0.size) (P0 : Fld Z h0 t10 own_s0 "values" own_s2 (.ref b3x13_97c5160)) (P1 : Arh Z h0 b3x13_97c5160 k3x13_97c5145c5161c5165 (.object own_s1) (8 : Int32) [(n11, .null), (n12, .null), (n11, (.ref gxc5137))] [] .null) (OFc5165_0_0 : Ovr Z k3x13_97c5145c5161c5165 own_s1) (R_n11 : n11 = (0 : Int32) ∨ n11 = (1 : Int32) ∨ n11 = (2 : Int32) ∨ n11 = (3 : Int32) ∨ n11 = (4 : Int32) ∨ n11 = (5 : Int32) ∨ n11 = (6 : Int32) ∨ n11 = (7 : Int32)) :
    MetFree l own_y0 (head1 (Jvm.Cond.code own_y0 prog_69_method_9_code 2 (some (.object own_s1)) :: ws) ({ frames := 0, cells := 0, slots := 0, locals := 0 } : Room)) (fun a U => a = #[(.ref t10), (.int n11)] ∧ Z.Warmed39 U.vm ∧ U.heap = h0) (fun _ _ _ _ _ => True) (fun _ U o U' => ∃ v L, o = .returned v ∧ own_Q14_117 Z t10 n11 b3x13_97c5160 k3x13_97c5145c5161c5165 n12 gxc5137 h0 n0 v U'.heap L ∧ FrameEnd U o U' L ({ frames := 0, cells := 0, slots := 0, locals := 0 } : Room).cells ({ frames := 0, cells := 0, slots := 0, locals := 0 } : Room).slots) := by
  refine MetFree.of_bodySF (plainFor_of_name own_pn1) hisR ?_
  intro p e s m args below meth c s₁ Bd hml0 hP hK
  obtain ⟨rfl, hZ, hh⟩ := hP
  have hx := Bd.exec
  have hlk := Bd.notSynchronized
  have hret := Bd.returns
  have hby := Bd.bytes
  have hml : c.maxLocals = 2 := hml0
  have hown : s.vm.findClass own_s0 = some m.cls := findClass_of_methodNamed Bd.named
  have hnm := (name_of_methodNamed Bd.named Bd.method).1
  have X0 : Stand p l e ({ frames := 0, cells := 0, slots := 0, locals := 0 } : Room) s m #[(.ref t10), (.int n11)] below meth c s₁ [] 0 0 := Stand.of_body Bd
  have e0 : s₁.heap = h0 := by rw [← hh, Bd.state]; rfl
  have N0 := Fr.nil n0
  refine own_open (Q := own_Q14_117 Z t10 n11 b3x13_97c5160 k3x13_97c5145c5161c5165 n12 gxc5137 h0 n0) (own_ef14 m t10 n11) ?_
  refine own_st (fun t k => XS.aloadN X0.here hx rfl (hb hby own_d14_0) rfl rfl k) ?_
  refine own_gF X0 hx hZ hown (own_w hw 25 rfl) Via.refl e0 P0 (hb hby own_d14_1) rfl rfl fun T1 X1 e1 => ?_
  show own_Go _ _ _ _ T1 (mkF m 4 #[.val (.ref t10), .val (.int n11)] [(.ref b3x13_97c5160)])
  refine own_st (fun t k => XS.ifnonnullYes X1.here hx rfl (pc0 := 4) (pc' := 11) rfl (hb hby own_d14_4) rfl (by decide) (by decide) (XS.aloadN X1.here hx rfl (hb hby own_d14_11) rfl rfl k)) ?_
  refine own_gF X1 hx hZ hown (own_w hw 25 rfl) Via.refl e1 P0 (hb hby own_d14_12) rfl rfl fun T2 X2 e2 => ?_
  show own_Go _ _ _ _ T2 (mkF m 15 #[.val (.ref t10), .val (.int n11)] [(.ref b3x13_97c5160)])
  refine own_st (fun t k => XS.iloadN X2.here hx rfl (hb hby own_d14_15) rfl k) ?_
  have i3 : ¬ n11 < 0 ∧ n11 < (8 : Int32) := ((by decide +kernel : ∀ x ∈ own_D8, (¬ x < 0 ∧ x < (8 : Int32))) _ (own_m8 R_n11) )
  refine own_st (own_aaloadH X2 hx hZ e2 P1 rfl i3 (v := .null) (getH_hit i3.1 rfl) (g := (mkF m 16 #[.val (.ref t10), .val (.int n11)] [(.int n11), (.ref b3x13_97c5160)])) rfl rfl (hb hby own_d14_16)) ?_
  exact own_retA X2 hx hlk hret rfl rfl (hb hby own_d14_17) (by decide) (by decide) e2 ⟨N0, (Keep.refl h0 []), ⟨rfl, trivial⟩⟩
def own_Q14_118 (Z : State) (t10 : Addr) (n12 : Int32) (b3x13_97c5160 : Addr) (k3x13_97c5145c5161c5165 : ClassId) (n11 : Int32) (gxc5137 : Addr) (h0 : Heap) (n0 : Nat) (v : Option Value) (h : Heap) (L : List Loc) : Prop := Fr n0 L ∧ Keep h0 h [] ∧ ((v = some .null ∧ True))
set_option maxRecDepth 65536 in
set_option maxHeartbeats 40000000 in
theorem own_rm14_118 (l : Launch) (Z : State) (a0 : Array Value) (hw : ∀ d ∈ tables_1, d.before a0 Z = true) (ws : List Jvm.Cond) (t10 : Addr) (n12 : Int32) (b3x13_97c5160 : Addr) (k3x13_97c5145c5161c5165 : ClassId) (n11 : Int32) (gxc5137 : Addr) (h0 : Heap) (n0 : Nat) (Z0 : n0 ≤ h0.size) (P0 : Fld Z h0 t10 own_s0 "values" own_s2 (.ref b3x13_97c5160)) (P1 : Arh Z h0 b3x13_97c5160 k3x13_97c5145c5161c5165 (.object own_s1) (8 : Int32) [(n11, .null), (n12, .null), (n11, (.ref gxc5137))] [] .null) (OFc5165_0_0 : Ovr Z k3x13_97c5145c5161c5165 own_s1) (R_n12 : n12 = (0 : Int32) ∨ n12 = (1 : Int32) ∨ n12 = (2 : Int32) ∨ n12 = (3 : Int32) ∨ n12 = (4 : Int32) ∨ n12 = (5 : Int32) ∨ n12 = (6 : Int32) ∨ n12 = (7 : Int32)) (R_n11 : n11 = (0 : Int32) ∨ n11 = (1 : Int32) ∨ n11 = (2 : Int32) ∨ n11 = (3 : Int32) ∨ n11 = (4 : Int32) ∨ n11 = (5 : Int32) ∨ n11 = (6 : Int32) ∨ n11 = (7 : Int32)) :
    MetFree l own_y0 (head1 (Jvm.Cond.code own_y0 prog_69_method_9_code 2 (some (.object own_s1)) :: ws) ({ frames := 0, cells := 0, slots := 0, locals := 0 } : Room)) (fun a U => a = #[(.ref t10), (.int n12)] ∧ Z.Warmed39 U.vm ∧ U.heap = h0) (fun _ _ _ _ _ => True) (fun _ U o U' => ∃ v L, o = .returned v ∧ own_Q14_118 Z t10 n12 b3x13_97c5160 k3x13_97c5145c5161c5165 n11 gxc5137 h0 n0 v U'.heap L ∧ FrameEnd U o U' L ({ frames := 0, cells := 0, slots := 0, locals := 0 } : Room).cells ({ frames := 0, cells := 0, slots := 0, locals := 0 } : Room).slots) := by
  refine MetFree.of_bodySF (plainFor_of_name own_pn1) hisR ?_
  intro p e s m args below meth c s₁ Bd hml0 hP hK
  obtain ⟨rfl, hZ, hh⟩ := hP
  have hx := Bd.exec
  have hlk := Bd.notSynchronized
  have hret := Bd.returns
  have hby := Bd.bytes
  have hml : c.maxLocals = 2 := hml0
  have hown : s.vm.findClass own_s0 = some m.cls := findClass_of_methodNamed Bd.named
  have hnm := (name_of_methodNamed Bd.named Bd.method).1
  have X0 : Stand p l e ({ frames := 0, cells := 0, slots := 0, locals := 0 } : Room) s m #[(.ref t10), (.int n12)] below meth c s₁ [] 0 0 := Stand.of_body Bd
  have e0 : s₁.heap = h0 := by rw [← hh, Bd.state]; rfl
  have N0 := Fr.nil n0
  refine own_open (Q := own_Q14_118 Z t10 n12 b3x13_97c5160 k3x13_97c5145c5161c5165 n11 gxc5137 h0 n0) (own_ef14 m t10 n12) ?_
  refine own_st (fun t k => XS.aloadN X0.here hx rfl (hb hby own_d14_0) rfl rfl k) ?_
  refine own_gF X0 hx hZ hown (own_w hw 25 rfl) Via.refl e0 P0 (hb hby own_d14_1) rfl rfl fun T1 X1 e1 => ?_
  show own_Go _ _ _ _ T1 (mkF m 4 #[.val (.ref t10), .val (.int n12)] [(.ref b3x13_97c5160)])
  refine own_st (fun t k => XS.ifnonnullYes X1.here hx rfl (pc0 := 4) (pc' := 11) rfl (hb hby own_d14_4) rfl (by decide) (by decide) (XS.aloadN X1.here hx rfl (hb hby own_d14_11) rfl rfl k)) ?_
  refine own_gF X1 hx hZ hown (own_w hw 25 rfl) Via.refl e1 P0 (hb hby own_d14_12) rfl rfl fun T2 X2 e2 => ?_
  show own_Go _ _ _ _ T2 (mkF m 15 #[.val (.ref t10), .val (.int n12)] [(.ref b3x13_97c5160)])
  refine own_st (fun t k => XS.iloadN X2.here hx rfl (hb hby own_d14_15) rfl k) ?_
  have i3 : ¬ n12 < 0 ∧ n12 < (8 : Int32) := ((by decide +kernel : ∀ x ∈ own_D8, (¬ x < 0 ∧ x < (8 : Int32))) _ (own_m8 R_n12) )
  by_cases hc4 : n12 = n11
  · skip
    refine own_st (own_aaloadH X2 hx hZ e2 P1 rfl i3 (v := .null) (getH_hit i3.1 hc4) (g := (mkF m 16 #[.val (.ref t10), .val (.int n12)] [(.int n12), (.ref b3x13_97c5160)])) rfl rfl (hb hby own_d14_16)) ?_
    exact own_retA X2 hx hlk hret rfl rfl (hb hby own_d14_17) (by decide) (by decide) e2 ⟨N0, (Keep.refl h0 []), ⟨rfl, trivial⟩⟩
  · skip
    refine own_st (own_aaloadH X2 hx hZ e2 P1 rfl i3 (v := .null) (getH_miss i3.1 hc4 (getH_hit i3.1 rfl)) (g := (mkF m 16 #[.val (.ref t10), .val (.int n12)] [(.int n12), (.ref b3x13_97c5160)])) rfl rfl (hb hby own_d14_16)) ?_
    show own_Go _ _ _ _ T2 (mkF m 17 #[.val (.ref t10), .val (.int n12)] [.null])
    exact own_retA X2 hx hlk hret rfl rfl (hb hby own_d14_17) (by decide) (by decide) e2 ⟨N0, (Keep.refl h0 []), ⟨rfl, trivial⟩⟩
def own_Q13_120 (Z : State) (t10 : Addr) (n11 : Int32) (gxc5177 : Addr) (b3x13_97c5200 : Addr) (k3x13_97c5145c5201 : ClassId) (n12 : Int32) (gxc5137 : Addr) (h0 : Heap) (n0 : Nat) (v : Option Value) (h : Heap) (L : List Loc) : Prop := Fr n0 L ∧ Keep h0 h [b3x13_97c5200] ∧ ((∃ k3x13_97c5145c5201 : ClassId, v = none ∧ Arh Z h b3x13_97c5200 k3x13_97c5145c5201 (.object own_s1) (8 : Int32) [(n11, (.ref gxc5177)), (n12, .null), (n11, (.ref gxc5137))] [] .null ∧ Ovr Z k3x13_97c5145c5201 own_s1 ∧ True))
set_option maxRecDepth 65536 in
set_option maxHeartbeats 40000000 in
theorem own_rm13_120 (l : Launch) (Z : State) (a0 : Array Value) (hw : ∀ d ∈ tables_1, d.before a0 Z = true) (ws : List Jvm.Cond) (t10 : Addr) (n11 : Int32) (gxc5177 : Addr) (b3x13_97c5200 : Addr) (k3x13_97c5145c5201 : ClassId) (n12 : Int32) (gxc5137 : Addr) (h0 : Heap) (n0 : Nat) (Z0 : n0 ≤ h0.size) (P0 : Fld Z h0 t10 own_s0 "values" own_s2 (.ref b3x13_97c5200)) (P1 : Arh Z h0 b3x13_97c5200 k3x13_97c5145c5201 (.object own_s1) (8 : Int32) [(n12, .null), (n11, (.ref gxc5137))] [] .null) (OFc5201_0_0 : Ovr Z k3x13_97c5145c5201 own_s1) (R_n11 : n11 = (0 : Int32) ∨ n11 = (1 : Int32) ∨ n11 = (2 : Int32) ∨ n11 = (3 : Int32) ∨ n11 = (4 : Int32) ∨ n11 = (5 : Int32) ∨ n11 = (6 : Int32) ∨ n11 = (7 : Int32)) (P4 : Exa Z h0 gxc5177 "java/lang/Integer") (g_b3x13_97c5200 : n0 ≤ b3x13_97c5200) :
    MetFree l own_y1 (head1 (Jvm.Cond.code own_y1 prog_69_method_10_code 3 none :: ws) ({ frames := 0, cells := 0, slots := 0, locals := 0 } : Room)) (fun a U => a = #[(.ref t10), (.int n11), (.ref gxc5177)] ∧ Z.Warmed39 U.vm ∧ U.heap = h0) (fun _ _ _ _ _ => True) (fun _ U o U' => ∃ v L, o = .returned v ∧ own_Q13_120 Z t10 n11 gxc5177 b3x13_97c5200 k3x13_97c5145c5201 n12 gxc5137 h0 n0 v U'.heap L ∧ FrameEnd U o U' L ({ frames := 0, cells := 0, slots := 0, locals := 0 } : Room).cells ({ frames := 0, cells := 0, slots := 0, locals := 0 } : Room).slots) := by
  refine MetFree.of_bodySF (plainFor_of_name own_pn1) hisR ?_
  intro p e s m args below meth c s₁ Bd hml0 hP hK
  obtain ⟨rfl, hZ, hh⟩ := hP
  have hx := Bd.exec
  have hlk := Bd.notSynchronized
  have hret := Bd.returns
  have hby := Bd.bytes
  have hml : c.maxLocals = 3 := hml0
  have hown : s.vm.findClass own_s0 = some m.cls := findClass_of_methodNamed Bd.named
  have hnm := (name_of_methodNamed Bd.named Bd.method).1
  have X0 : Stand p l e ({ frames := 0, cells := 0, slots := 0, locals := 0 } : Room) s m #[(.ref t10), (.int n11), (.ref gxc5177)] below meth c s₁ [] 0 0 := Stand.of_body Bd
  have e0 : s₁.heap = h0 := by rw [← hh, Bd.state]; rfl
  have N0 := Fr.nil n0
  refine own_open (Q := own_Q13_120 Z t10 n11 gxc5177 b3x13_97c5200 k3x13_97c5145c5201 n12 gxc5137 h0 n0) (own_ef13 m t10 n11 gxc5177) ?_
  refine own_st (fun t k => XS.aloadN X0.here hx rfl (hb hby own_d13_0) rfl rfl k) ?_
  refine own_gF X0 hx hZ hown (own_w hw 25 rfl) Via.refl e0 P0 (hb hby own_d13_1) rfl rfl fun T1 X1 e1 => ?_
  show own_Go _ _ _ _ T1 (mkF m 4 #[.val (.ref t10), .val (.int n11), .val (.ref gxc5177)] [(.ref b3x13_97c5200)])
  refine own_st (fun t k => XS.ifnonnullYes X1.here hx rfl (pc0 := 4) (pc' := 23) rfl (hb hby own_d13_4) rfl (by decide) (by decide) (XS.aloadN X1.here hx rfl (hb hby own_d13_23) rfl rfl k)) ?_
  refine own_gF X1 hx hZ hown (own_w hw 25 rfl) Via.refl e1 P0 (hb hby own_d13_24) rfl rfl fun T2 X2 e2 => ?_
  show own_Go _ _ _ _ T2 (mkF m 27 #[.val (.ref t10), .val (.int n11), .val (.ref gxc5177)] [(.ref b3x13_97c5200)])
  refine own_st (fun t k => XS.ifnullNo X2.here hx rfl (hb hby own_d13_27) rfl (XS.aloadN X2.here hx rfl (hb hby own_d13_30) rfl rfl k)) ?_
  refine own_gF X2 hx hZ hown (own_w hw 25 rfl) Via.refl e2 P0 (hb hby own_d13_31) rfl rfl fun T3 X3 e3 => ?_
  show own_Go _ _ _ _ T3 (mkF m 34 #[.val (.ref t10), .val (.int n11), .val (.ref gxc5177)] [(.ref b3x13_97c5200)])
  refine own_st (fun t k => XS.iloadN X3.here hx rfl (hb hby own_d13_34) rfl (XS.aloadN X3.here hx rfl (hb hby own_d13_35) rfl rfl k)) ?_
  obtain ⟨c4, A4, q4, S4, M4, H4, G4⟩ := P1
  obtain ⟨T4, h4, X4, e4, W4, st4⟩ := stR X3 hx hZ e3 A4 (j := n11) (inb_of S4 ((by decide +kernel : ∀ x ∈ own_D8, (¬ x < 0 ∧ x < (8 : Int32))) _ (own_m8 R_n11) )) rfl (Sto.ofV A4 q4 OFc5201_0_0 (Ins.of_exa P4 (own_w hw 75 rfl))) (g := (mkF m 36 #[.val (.ref t10), .val (.int n11), .val (.ref gxc5177)] [(.ref gxc5177), (.int n11), (.ref b3x13_97c5200)])) rfl rfl (hb hby own_d13_36)
  refine own_st st4 ?_
  have K4 : Keep h0 h4 [b3x13_97c5200] := (Keep.refl h0 [b3x13_97c5200]).wr W4 (Or.inl (List.mem_of_getElem? (i := 0) rfl))
  have Z4 := Nat.le_trans Z0 (Keep.of_wr W4).1
  have N4 := Fr.snoc X4 N0 g_b3x13_97c5200
  have V4 : Arh Z h4 b3x13_97c5200 k3x13_97c5145c5201 (.object own_s1) (8 : Int32) [(n11, (.ref gxc5177)), (n12, .null), (n11, (.ref gxc5137))] [] .null := Arh.push A4 q4 S4 M4 H4 G4 rfl W4 (inb_of S4 ((by decide +kernel : ∀ x ∈ own_D8, (¬ x < 0 ∧ x < (8 : Int32))) _ (own_m8 R_n11) ))
  show own_Go _ _ _ _ T4 (mkF m 37 #[.val (.ref t10), .val (.int n11), .val (.ref gxc5177)] [])
  exact own_retV X4 hx hlk hret (hb hby own_d13_37) (by decide) (by decide) e4 ⟨N4, K4, ⟨_, rfl, V4, OFc5201_0_0, trivial⟩⟩
def own_Q14_121 (Z : State) (t10 : Addr) (n11 : Int32) (b3x13_97c5200 : Addr) (k3x13_97c5145c5201c5206 : ClassId) (gxc5177 : Addr) (n12 : Int32) (gxc5137 : Addr) (h0 : Heap) (n0 : Nat) (v : Option Value) (h : Heap) (L : List Loc) : Prop := Fr n0 L ∧ Keep h0 h [] ∧ ((v = some (.ref gxc5177) ∧ True))
set_option maxRecDepth 65536 in
set_option maxHeartbeats 40000000 in
theorem own_rm14_121 (l : Launch) (Z : State) (a0 : Array Value) (hw : ∀ d ∈ tables_1, d.before a0 Z = true) (ws : List Jvm.Cond) (t10 : Addr) (n11 : Int32) (b3x13_97c5200 : Addr) (k3x13_97c5145c5201c5206 : ClassId) (gxc5177 : Addr) (n12 : Int32) (gxc5137 : Addr) (h0 : Heap) (n0 : Nat) (Z0 : n0 ≤ h0.size) (P0 : Fld Z h0 t10 own_s0 "values" own_s2 (.ref b3x13_97c5200)) (P1 : Arh Z h0 b3x13_97c5200 k3x13_97c5145c5201c5206 (.object own_s1) (8 : Int32) [(n11, (.ref gxc5177)), (n12, .null), (n11, (.ref gxc5137))] [] .null) (OFc5206_0_0 : Ovr Z k3x13_97c5145c5201c5206 own_s1) (R_n11 : n11 = (0 : Int32) ∨ n11 = (1 : Int32) ∨ n11 = (2 : Int32) ∨ n11 = (3 : Int32) ∨ n11 = (4 : Int32) ∨ n11 = (5 : Int32) ∨ n11 = (6 : Int32) ∨ n11 = (7 : Int32)) :
    MetFree l own_y0 (head1 (Jvm.Cond.code own_y0 prog_69_method_9_code 2 (some (.object own_s1)) :: ws) ({ frames := 0, cells := 0, slots := 0, locals := 0 } : Room)) (fun a U => a = #[(.ref t10), (.int n11)] ∧ Z.Warmed39 U.vm ∧ U.heap = h0) (fun _ _ _ _ _ => True) (fun _ U o U' => ∃ v L, o = .returned v ∧ own_Q14_121 Z t10 n11 b3x13_97c5200 k3x13_97c5145c5201c5206 gxc5177 n12 gxc5137 h0 n0 v U'.heap L ∧ FrameEnd U o U' L ({ frames := 0, cells := 0, slots := 0, locals := 0 } : Room).cells ({ frames := 0, cells := 0, slots := 0, locals := 0 } : Room).slots) := by
  refine MetFree.of_bodySF (plainFor_of_name own_pn1) hisR ?_
  intro p e s m args below meth c s₁ Bd hml0 hP hK
  obtain ⟨rfl, hZ, hh⟩ := hP
  have hx := Bd.exec
  have hlk := Bd.notSynchronized
  have hret := Bd.returns
  have hby := Bd.bytes
  have hml : c.maxLocals = 2 := hml0
  have hown : s.vm.findClass own_s0 = some m.cls := findClass_of_methodNamed Bd.named
  have hnm := (name_of_methodNamed Bd.named Bd.method).1
  have X0 : Stand p l e ({ frames := 0, cells := 0, slots := 0, locals := 0 } : Room) s m #[(.ref t10), (.int n11)] below meth c s₁ [] 0 0 := Stand.of_body Bd
  have e0 : s₁.heap = h0 := by rw [← hh, Bd.state]; rfl
  have N0 := Fr.nil n0
  refine own_open (Q := own_Q14_121 Z t10 n11 b3x13_97c5200 k3x13_97c5145c5201c5206 gxc5177 n12 gxc5137 h0 n0) (own_ef14 m t10 n11) ?_
  refine own_st (fun t k => XS.aloadN X0.here hx rfl (hb hby own_d14_0) rfl rfl k) ?_
  refine own_gF X0 hx hZ hown (own_w hw 25 rfl) Via.refl e0 P0 (hb hby own_d14_1) rfl rfl fun T1 X1 e1 => ?_
  show own_Go _ _ _ _ T1 (mkF m 4 #[.val (.ref t10), .val (.int n11)] [(.ref b3x13_97c5200)])
  refine own_st (fun t k => XS.ifnonnullYes X1.here hx rfl (pc0 := 4) (pc' := 11) rfl (hb hby own_d14_4) rfl (by decide) (by decide) (XS.aloadN X1.here hx rfl (hb hby own_d14_11) rfl rfl k)) ?_
  refine own_gF X1 hx hZ hown (own_w hw 25 rfl) Via.refl e1 P0 (hb hby own_d14_12) rfl rfl fun T2 X2 e2 => ?_
  show own_Go _ _ _ _ T2 (mkF m 15 #[.val (.ref t10), .val (.int n11)] [(.ref b3x13_97c5200)])
  refine own_st (fun t k => XS.iloadN X2.here hx rfl (hb hby own_d14_15) rfl k) ?_
  have i3 : ¬ n11 < 0 ∧ n11 < (8 : Int32) := ((by decide +kernel : ∀ x ∈ own_D8, (¬ x < 0 ∧ x < (8 : Int32))) _ (own_m8 R_n11) )
  refine own_st (own_aaloadH X2 hx hZ e2 P1 rfl i3 (v := (.ref gxc5177)) (getH_hit i3.1 rfl) (g := (mkF m 16 #[.val (.ref t10), .val (.int n11)] [(.int n11), (.ref b3x13_97c5200)])) rfl rfl (hb hby own_d14_16)) ?_
  exact own_retA X2 hx hlk hret rfl rfl (hb hby own_d14_17) (by decide) (by decide) e2 ⟨N0, (Keep.refl h0 []), ⟨rfl, trivial⟩⟩
def own_Q14_122 (Z : State) (t10 : Addr) (n12 : Int32) (b3x13_97c5200 : Addr) (k3x13_97c5145c5201c5206 : ClassId) (n11 : Int32) (gxc5177 : Addr) (gxc5137 : Addr) (h0 : Heap) (n0 : Nat) (v : Option Value) (h : Heap) (L : List Loc) : Prop := Fr n0 L ∧ Keep h0 h [] ∧ ((v = some (.ref gxc5177) ∧ (n12 = n11) ∧ True) ∨ (v = some .null ∧ (¬ (n12 = n11)) ∧ True))
set_option maxRecDepth 65536 in
set_option maxHeartbeats 40000000 in
theorem own_rm14_122 (l : Launch) (Z : State) (a0 : Array Value) (hw : ∀ d ∈ tables_1, d.before a0 Z = true) (ws : List Jvm.Cond) (t10 : Addr) (n12 : Int32) (b3x13_97c5200 : Addr) (k3x13_97c5145c5201c5206 : ClassId) (n11 : Int32) (gxc5177 : Addr) (gxc5137 : Addr) (h0 : Heap) (n0 : Nat) (Z0 : n0 ≤ h0.size) (P0 : Fld Z h0 t10 own_s0 "values" own_s2 (.ref b3x13_97c5200)) (P1 : Arh Z h0 b3x13_97c5200 k3x13_97c5145c5201c5206 (.object own_s1) (8 : Int32) [(n11, (.ref gxc5177)), (n12, .null), (n11, (.ref gxc5137))] [] .null) (OFc5206_0_0 : Ovr Z k3x13_97c5145c5201c5206 own_s1) (R_n12 : n12 = (0 : Int32) ∨ n12 = (1 : Int32) ∨ n12 = (2 : Int32) ∨ n12 = (3 : Int32) ∨ n12 = (4 : Int32) ∨ n12 = (5 : Int32) ∨ n12 = (6 : Int32) ∨ n12 = (7 : Int32)) (R_n11 : n11 = (0 : Int32) ∨ n11 = (1 : Int32) ∨ n11 = (2 : Int32) ∨ n11 = (3 : Int32) ∨ n11 = (4 : Int32) ∨ n11 = (5 : Int32) ∨ n11 = (6 : Int32) ∨ n11 = (7 : Int32)) :
    MetFree l own_y0 (head1 (Jvm.Cond.code own_y0 prog_69_method_9_code 2 (some (.object own_s1)) :: ws) ({ frames := 0, cells := 0, slots := 0, locals := 0 } : Room)) (fun a U => a = #[(.ref t10), (.int n12)] ∧ Z.Warmed39 U.vm ∧ U.heap = h0) (fun _ _ _ _ _ => True) (fun _ U o U' => ∃ v L, o = .returned v ∧ own_Q14_122 Z t10 n12 b3x13_97c5200 k3x13_97c5145c5201c5206 n11 gxc5177 gxc5137 h0 n0 v U'.heap L ∧ FrameEnd U o U' L ({ frames := 0, cells := 0, slots := 0, locals := 0 } : Room).cells ({ frames := 0, cells := 0, slots := 0, locals := 0 } : Room).slots) := by
  refine MetFree.of_bodySF (plainFor_of_name own_pn1) hisR ?_
  intro p e s m args below meth c s₁ Bd hml0 hP hK
  obtain ⟨rfl, hZ, hh⟩ := hP
  have hx := Bd.exec
  have hlk := Bd.notSynchronized
  have hret := Bd.returns
  have hby := Bd.bytes
  have hml : c.maxLocals = 2 := hml0
  have hown : s.vm.findClass own_s0 = some m.cls := findClass_of_methodNamed Bd.named
  have hnm := (name_of_methodNamed Bd.named Bd.method).1
  have X0 : Stand p l e ({ frames := 0, cells := 0, slots := 0, locals := 0 } : Room) s m #[(.ref t10), (.int n12)] below meth c s₁ [] 0 0 := Stand.of_body Bd
  have e0 : s₁.heap = h0 := by rw [← hh, Bd.state]; rfl
  have N0 := Fr.nil n0
  refine own_open (Q := own_Q14_122 Z t10 n12 b3x13_97c5200 k3x13_97c5145c5201c5206 n11 gxc5177 gxc5137 h0 n0) (own_ef14 m t10 n12) ?_
  refine own_st (fun t k => XS.aloadN X0.here hx rfl (hb hby own_d14_0) rfl rfl k) ?_
  refine own_gF X0 hx hZ hown (own_w hw 25 rfl) Via.refl e0 P0 (hb hby own_d14_1) rfl rfl fun T1 X1 e1 => ?_
  show own_Go _ _ _ _ T1 (mkF m 4 #[.val (.ref t10), .val (.int n12)] [(.ref b3x13_97c5200)])
  refine own_st (fun t k => XS.ifnonnullYes X1.here hx rfl (pc0 := 4) (pc' := 11) rfl (hb hby own_d14_4) rfl (by decide) (by decide) (XS.aloadN X1.here hx rfl (hb hby own_d14_11) rfl rfl k)) ?_
  refine own_gF X1 hx hZ hown (own_w hw 25 rfl) Via.refl e1 P0 (hb hby own_d14_12) rfl rfl fun T2 X2 e2 => ?_
  show own_Go _ _ _ _ T2 (mkF m 15 #[.val (.ref t10), .val (.int n12)] [(.ref b3x13_97c5200)])
  refine own_st (fun t k => XS.iloadN X2.here hx rfl (hb hby own_d14_15) rfl k) ?_
  have i3 : ¬ n12 < 0 ∧ n12 < (8 : Int32) := ((by decide +kernel : ∀ x ∈ own_D8, (¬ x < 0 ∧ x < (8 : Int32))) _ (own_m8 R_n12) )
  by_cases hc4 : n12 = n11
  · skip
    refine own_st (own_aaloadH X2 hx hZ e2 P1 rfl i3 (v := (.ref gxc5177)) (getH_hit i3.1 hc4) (g := (mkF m 16 #[.val (.ref t10), .val (.int n12)] [(.int n12), (.ref b3x13_97c5200)])) rfl rfl (hb hby own_d14_16)) ?_
    exact own_retA X2 hx hlk hret rfl rfl (hb hby own_d14_17) (by decide) (by decide) e2 ⟨N0, (Keep.refl h0 []), (Or.inl ⟨rfl, hc4, trivial⟩)⟩
  · skip
    refine own_st (own_aaloadH X2 hx hZ e2 P1 rfl i3 (v := .null) (getH_miss i3.1 hc4 (getH_hit i3.1 rfl)) (g := (mkF m 16 #[.val (.ref t10), .val (.int n12)] [(.int n12), (.ref b3x13_97c5200)])) rfl rfl (hb hby own_d14_16)) ?_
    show own_Go _ _ _ _ T2 (mkF m 17 #[.val (.ref t10), .val (.int n12)] [.null])
    exact own_retA X2 hx hlk hret rfl rfl (hb hby own_d14_17) (by decide) (by decide) e2 ⟨N0, (Keep.refl h0 []), (Or.inr ⟨rfl, hc4, trivial⟩)⟩
def own_Q13_124 (Z : State) (t10 : Addr) (n12 : Int32) (gxc5218 : Addr) (b3x13_97c5226 : Addr) (k3x13_97c5226 : ClassId) (n11 : Int32) (gxc5137 : Addr) (h0 : Heap) (n0 : Nat) (v : Option Value) (h : Heap) (L : List Loc) : Prop := Fr n0 L ∧ Keep h0 h [b3x13_97c5226] ∧ ((∃ k3x13_97c5226 : ClassId, v = none ∧ Arh Z h b3x13_97c5226 k3x13_97c5226 (.object own_s1) (8 : Int32) [(n12, (.ref gxc5218)), (n11, (.ref gxc5137))] [] .null ∧ Ovr Z k3x13_97c5226 own_s1 ∧ True))
set_option maxRecDepth 65536 in
set_option maxHeartbeats 40000000 in
theorem own_rm13_124 (l : Launch) (Z : State) (a0 : Array Value) (hw : ∀ d ∈ tables_1, d.before a0 Z = true) (ws : List Jvm.Cond) (t10 : Addr) (n12 : Int32) (gxc5218 : Addr) (b3x13_97c5226 : Addr) (k3x13_97c5226 : ClassId) (n11 : Int32) (gxc5137 : Addr) (h0 : Heap) (n0 : Nat) (Z0 : n0 ≤ h0.size) (P0 : Fld Z h0 t10 own_s0 "values" own_s2 (.ref b3x13_97c5226)) (P1 : Arh Z h0 b3x13_97c5226 k3x13_97c5226 (.object own_s1) (8 : Int32) [(n11, (.ref gxc5137))] [] .null) (OFc5226_0_2 : Ovr Z k3x13_97c5226 own_s1) (R_n12 : n12 = (0 : Int32) ∨ n12 = (1 : Int32) ∨ n12 = (2 : Int32) ∨ n12 = (3 : Int32) ∨ n12 = (4 : Int32) ∨ n12 = (5 : Int32) ∨ n12 = (6 : Int32) ∨ n12 = (7 : Int32)) (P4 : Exa Z h0 gxc5218 "java/lang/Integer") (g_b3x13_97c5226 : n0 ≤ b3x13_97c5226) :
    MetFree l own_y1 (head1 (Jvm.Cond.code own_y1 prog_69_method_10_code 3 none :: ws) ({ frames := 0, cells := 0, slots := 0, locals := 0 } : Room)) (fun a U => a = #[(.ref t10), (.int n12), (.ref gxc5218)] ∧ Z.Warmed39 U.vm ∧ U.heap = h0) (fun _ _ _ _ _ => True) (fun _ U o U' => ∃ v L, o = .returned v ∧ own_Q13_124 Z t10 n12 gxc5218 b3x13_97c5226 k3x13_97c5226 n11 gxc5137 h0 n0 v U'.heap L ∧ FrameEnd U o U' L ({ frames := 0, cells := 0, slots := 0, locals := 0 } : Room).cells ({ frames := 0, cells := 0, slots := 0, locals := 0 } : Room).slots) := by
  refine MetFree.of_bodySF (plainFor_of_name own_pn1) hisR ?_
  intro p e s m args below meth c s₁ Bd hml0 hP hK
  obtain ⟨rfl, hZ, hh⟩ := hP
  have hx := Bd.exec
  have hlk := Bd.notSynchronized
  have hret := Bd.returns
  have hby := Bd.bytes
  have hml : c.maxLocals = 3 := hml0
  have hown : s.vm.findClass own_s0 = some m.cls := findClass_of_methodNamed Bd.named
  have hnm := (name_of_methodNamed Bd.named Bd.method).1
  have X0 : Stand p l e ({ frames := 0, cells := 0, slots := 0, locals := 0 } : Room) s m #[(.ref t10), (.int n12), (.ref gxc5218)] below meth c s₁ [] 0 0 := Stand.of_body Bd
  have e0 : s₁.heap = h0 := by rw [← hh, Bd.state]; rfl
  have N0 := Fr.nil n0
  refine own_open (Q := own_Q13_124 Z t10 n12 gxc5218 b3x13_97c5226 k3x13_97c5226 n11 gxc5137 h0 n0) (own_ef13 m t10 n12 gxc5218) ?_
  refine own_st (fun t k => XS.aloadN X0.here hx rfl (hb hby own_d13_0) rfl rfl k) ?_
  refine own_gF X0 hx hZ hown (own_w hw 25 rfl) Via.refl e0 P0 (hb hby own_d13_1) rfl rfl fun T1 X1 e1 => ?_
  show own_Go _ _ _ _ T1 (mkF m 4 #[.val (.ref t10), .val (.int n12), .val (.ref gxc5218)] [(.ref b3x13_97c5226)])
  refine own_st (fun t k => XS.ifnonnullYes X1.here hx rfl (pc0 := 4) (pc' := 23) rfl (hb hby own_d13_4) rfl (by decide) (by decide) (XS.aloadN X1.here hx rfl (hb hby own_d13_23) rfl rfl k)) ?_
  refine own_gF X1 hx hZ hown (own_w hw 25 rfl) Via.refl e1 P0 (hb hby own_d13_24) rfl rfl fun T2 X2 e2 => ?_
  show own_Go _ _ _ _ T2 (mkF m 27 #[.val (.ref t10), .val (.int n12), .val (.ref gxc5218)] [(.ref b3x13_97c5226)])
  refine own_st (fun t k => XS.ifnullNo X2.here hx rfl (hb hby own_d13_27) rfl (XS.aloadN X2.here hx rfl (hb hby own_d13_30) rfl rfl k)) ?_
  refine own_gF X2 hx hZ hown (own_w hw 25 rfl) Via.refl e2 P0 (hb hby own_d13_31) rfl rfl fun T3 X3 e3 => ?_
  show own_Go _ _ _ _ T3 (mkF m 34 #[.val (.ref t10), .val (.int n12), .val (.ref gxc5218)] [(.ref b3x13_97c5226)])
  refine own_st (fun t k => XS.iloadN X3.here hx rfl (hb hby own_d13_34) rfl (XS.aloadN X3.here hx rfl (hb hby own_d13_35) rfl rfl k)) ?_
  obtain ⟨c4, A4, q4, S4, M4, H4, G4⟩ := P1
  obtain ⟨T4, h4, X4, e4, W4, st4⟩ := stR X3 hx hZ e3 A4 (j := n12) (inb_of S4 ((by decide +kernel : ∀ x ∈ own_D8, (¬ x < 0 ∧ x < (8 : Int32))) _ (own_m8 R_n12) )) rfl (Sto.ofV A4 q4 OFc5226_0_2 (Ins.of_exa P4 (own_w hw 75 rfl))) (g := (mkF m 36 #[.val (.ref t10), .val (.int n12), .val (.ref gxc5218)] [(.ref gxc5218), (.int n12), (.ref b3x13_97c5226)])) rfl rfl (hb hby own_d13_36)
  refine own_st st4 ?_
  have K4 : Keep h0 h4 [b3x13_97c5226] := (Keep.refl h0 [b3x13_97c5226]).wr W4 (Or.inl (List.mem_of_getElem? (i := 0) rfl))
  have Z4 := Nat.le_trans Z0 (Keep.of_wr W4).1
  have N4 := Fr.snoc X4 N0 g_b3x13_97c5226
  have V4 : Arh Z h4 b3x13_97c5226 k3x13_97c5226 (.object own_s1) (8 : Int32) [(n12, (.ref gxc5218)), (n11, (.ref gxc5137))] [] .null := Arh.push A4 q4 S4 M4 H4 G4 rfl W4 (inb_of S4 ((by decide +kernel : ∀ x ∈ own_D8, (¬ x < 0 ∧ x < (8 : Int32))) _ (own_m8 R_n12) ))
  show own_Go _ _ _ _ T4 (mkF m 37 #[.val (.ref t10), .val (.int n12), .val (.ref gxc5218)] [])
  exact own_retV X4 hx hlk hret (hb hby own_d13_37) (by decide) (by decide) e4 ⟨N4, K4, ⟨_, rfl, V4, OFc5226_0_2, trivial⟩⟩
def own_Q14_125 (Z : State) (t10 : Addr) (n11 : Int32) (b3x13_97c5226 : Addr) (k3x13_97c5226c5228 : ClassId) (n12 : Int32) (gxc5218 : Addr) (gxc5137 : Addr) (h0 : Heap) (n0 : Nat) (v : Option Value) (h : Heap) (L : List Loc) : Prop := Fr n0 L ∧ Keep h0 h [] ∧ ((v = some (.ref gxc5218) ∧ (n11 = n12) ∧ True) ∨ (v = some (.ref gxc5137) ∧ (¬ (n11 = n12)) ∧ True))
set_option maxRecDepth 65536 in
set_option maxHeartbeats 40000000 in
theorem own_rm14_125 (l : Launch) (Z : State) (a0 : Array Value) (hw : ∀ d ∈ tables_1, d.before a0 Z = true) (ws : List Jvm.Cond) (t10 : Addr) (n11 : Int32) (b3x13_97c5226 : Addr) (k3x13_97c5226c5228 : ClassId) (n12 : Int32) (gxc5218 : Addr) (gxc5137 : Addr) (h0 : Heap) (n0 : Nat) (Z0 : n0 ≤ h0.size) (P0 : Fld Z h0 t10 own_s0 "values" own_s2 (.ref b3x13_97c5226)) (P1 : Arh Z h0 b3x13_97c5226 k3x13_97c5226c5228 (.object own_s1) (8 : Int32) [(n12, (.ref gxc5218)), (n11, (.ref gxc5137))] [] .null) (OFc5228_0_0 : Ovr Z k3x13_97c5226c5228 own_s1) (R_n11 : n11 = (0 : Int32) ∨ n11 = (1 : Int32) ∨ n11 = (2 : Int32) ∨ n11 = (3 : Int32) ∨ n11 = (4 : Int32) ∨ n11 = (5 : Int32) ∨ n11 = (6 : Int32) ∨ n11 = (7 : Int32)) (R_n12 : n12 = (0 : Int32) ∨ n12 = (1 : Int32) ∨ n12 = (2 : Int32) ∨ n12 = (3 : Int32) ∨ n12 = (4 : Int32) ∨ n12 = (5 : Int32) ∨ n12 = (6 : Int32) ∨ n12 = (7 : Int32)) :
    MetFree l own_y0 (head1 (Jvm.Cond.code own_y0 prog_69_method_9_code 2 (some (.object own_s1)) :: ws) ({ frames := 0, cells := 0, slots := 0, locals := 0 } : Room)) (fun a U => a = #[(.ref t10), (.int n11)] ∧ Z.Warmed39 U.vm ∧ U.heap = h0) (fun _ _ _ _ _ => True) (fun _ U o U' => ∃ v L, o = .returned v ∧ own_Q14_125 Z t10 n11 b3x13_97c5226 k3x13_97c5226c5228 n12 gxc5218 gxc5137 h0 n0 v U'.heap L ∧ FrameEnd U o U' L ({ frames := 0, cells := 0, slots := 0, locals := 0 } : Room).cells ({ frames := 0, cells := 0, slots := 0, locals := 0 } : Room).slots) := by
  refine MetFree.of_bodySF (plainFor_of_name own_pn1) hisR ?_
  intro p e s m args below meth c s₁ Bd hml0 hP hK
  obtain ⟨rfl, hZ, hh⟩ := hP
  have hx := Bd.exec
  have hlk := Bd.notSynchronized
  have hret := Bd.returns
  have hby := Bd.bytes
  have hml : c.maxLocals = 2 := hml0
  have hown : s.vm.findClass own_s0 = some m.cls := findClass_of_methodNamed Bd.named
  have hnm := (name_of_methodNamed Bd.named Bd.method).1
  have X0 : Stand p l e ({ frames := 0, cells := 0, slots := 0, locals := 0 } : Room) s m #[(.ref t10), (.int n11)] below meth c s₁ [] 0 0 := Stand.of_body Bd
  have e0 : s₁.heap = h0 := by rw [← hh, Bd.state]; rfl
  have N0 := Fr.nil n0
  refine own_open (Q := own_Q14_125 Z t10 n11 b3x13_97c5226 k3x13_97c5226c5228 n12 gxc5218 gxc5137 h0 n0) (own_ef14 m t10 n11) ?_
  refine own_st (fun t k => XS.aloadN X0.here hx rfl (hb hby own_d14_0) rfl rfl k) ?_
  refine own_gF X0 hx hZ hown (own_w hw 25 rfl) Via.refl e0 P0 (hb hby own_d14_1) rfl rfl fun T1 X1 e1 => ?_
  show own_Go _ _ _ _ T1 (mkF m 4 #[.val (.ref t10), .val (.int n11)] [(.ref b3x13_97c5226)])
  refine own_st (fun t k => XS.ifnonnullYes X1.here hx rfl (pc0 := 4) (pc' := 11) rfl (hb hby own_d14_4) rfl (by decide) (by decide) (XS.aloadN X1.here hx rfl (hb hby own_d14_11) rfl rfl k)) ?_
  refine own_gF X1 hx hZ hown (own_w hw 25 rfl) Via.refl e1 P0 (hb hby own_d14_12) rfl rfl fun T2 X2 e2 => ?_
  show own_Go _ _ _ _ T2 (mkF m 15 #[.val (.ref t10), .val (.int n11)] [(.ref b3x13_97c5226)])
  refine own_st (fun t k => XS.iloadN X2.here hx rfl (hb hby own_d14_15) rfl k) ?_
  have i3 : ¬ n11 < 0 ∧ n11 < (8 : Int32) := ((by decide +kernel : ∀ x ∈ own_D8, (¬ x < 0 ∧ x < (8 : Int32))) _ (own_m8 R_n11) )
  by_cases hc4 : n11 = n12
  · skip
    refine own_st (own_aaloadH X2 hx hZ e2 P1 rfl i3 (v := (.ref gxc5218)) (getH_hit i3.1 hc4) (g := (mkF m 16 #[.val (.ref t10), .val (.int n11)] [(.int n11), (.ref b3x13_97c5226)])) rfl rfl (hb hby own_d14_16)) ?_
    exact own_retA X2 hx hlk hret rfl rfl (hb hby own_d14_17) (by decide) (by decide) e2 ⟨N0, (Keep.refl h0 []), (Or.inl ⟨rfl, hc4, trivial⟩)⟩
  · skip
    refine own_st (own_aaloadH X2 hx hZ e2 P1 rfl i3 (v := (.ref gxc5137)) (getH_miss i3.1 hc4 (getH_hit i3.1 rfl)) (g := (mkF m 16 #[.val (.ref t10), .val (.int n11)] [(.int n11), (.ref b3x13_97c5226)])) rfl rfl (hb hby own_d14_16)) ?_
    show own_Go _ _ _ _ T2 (mkF m 17 #[.val (.ref t10), .val (.int n11)] [(.ref gxc5137)])
    exact own_retA X2 hx hlk hret rfl rfl (hb hby own_d14_17) (by decide) (by decide) e2 ⟨N0, (Keep.refl h0 []), (Or.inr ⟨rfl, hc4, trivial⟩)⟩
def own_Q14_126 (Z : State) (t10 : Addr) (n12 : Int32) (b3x13_97c5226 : Addr) (k3x13_97c5226c5228 : ClassId) (gxc5218 : Addr) (n11 : Int32) (gxc5137 : Addr) (h0 : Heap) (n0 : Nat) (v : Option Value) (h : Heap) (L : List Loc) : Prop := Fr n0 L ∧ Keep h0 h [] ∧ ((v = some (.ref gxc5218) ∧ True))
set_option maxRecDepth 65536 in
set_option maxHeartbeats 40000000 in
theorem own_rm14_126 (l : Launch) (Z : State) (a0 : Array Value) (hw : ∀ d ∈ tables_1, d.before a0 Z = true) (ws : List Jvm.Cond) (t10 : Addr) (n12 : Int32) (b3x13_97c5226 : Addr) (k3x13_97c5226c5228 : ClassId) (gxc5218 : Addr) (n11 : Int32) (gxc5137 : Addr) (h0 : Heap) (n0 : Nat) (Z0 : n0 ≤ h0.size) (P0 : Fld Z h0 t10 own_s0 "values" own_s2 (.ref b3x13_97c5226)) (P1 : Arh Z h0 b3x13_97c5226 k3x13_97c5226c5228 (.object own_s1) (8 : Int32) [(n12, (.ref gxc5218)), (n11, (.ref gxc5137))] [] .null) (OFc5228_0_0 : Ovr Z k3x13_97c5226c5228 own_s1) (R_n12 : n12 = (0 : Int32) ∨ n12 = (1 : Int32) ∨ n12 = (2 : Int32) ∨ n12 = (3 : Int32) ∨ n12 = (4 : Int32) ∨ n12 = (5 : Int32) ∨ n12 = (6 : Int32) ∨ n12 = (7 : Int32)) :
    MetFree l own_y0 (head1 (Jvm.Cond.code own_y0 prog_69_method_9_code 2 (some (.object own_s1)) :: ws) ({ frames := 0, cells := 0, slots := 0, locals := 0 } : Room)) (fun a U => a = #[(.ref t10), (.int n12)] ∧ Z.Warmed39 U.vm ∧ U.heap = h0) (fun _ _ _ _ _ => True) (fun _ U o U' => ∃ v L, o = .returned v ∧ own_Q14_126 Z t10 n12 b3x13_97c5226 k3x13_97c5226c5228 gxc5218 n11 gxc5137 h0 n0 v U'.heap L ∧ FrameEnd U o U' L ({ frames := 0, cells := 0, slots := 0, locals := 0 } : Room).cells ({ frames := 0, cells := 0, slots := 0, locals := 0 } : Room).slots) := by
  refine MetFree.of_bodySF (plainFor_of_name own_pn1) hisR ?_
  intro p e s m args below meth c s₁ Bd hml0 hP hK
  obtain ⟨rfl, hZ, hh⟩ := hP
  have hx := Bd.exec
  have hlk := Bd.notSynchronized
  have hret := Bd.returns
  have hby := Bd.bytes
  have hml : c.maxLocals = 2 := hml0
  have hown : s.vm.findClass own_s0 = some m.cls := findClass_of_methodNamed Bd.named
  have hnm := (name_of_methodNamed Bd.named Bd.method).1
  have X0 : Stand p l e ({ frames := 0, cells := 0, slots := 0, locals := 0 } : Room) s m #[(.ref t10), (.int n12)] below meth c s₁ [] 0 0 := Stand.of_body Bd
  have e0 : s₁.heap = h0 := by rw [← hh, Bd.state]; rfl
  have N0 := Fr.nil n0
  refine own_open (Q := own_Q14_126 Z t10 n12 b3x13_97c5226 k3x13_97c5226c5228 gxc5218 n11 gxc5137 h0 n0) (own_ef14 m t10 n12) ?_
  refine own_st (fun t k => XS.aloadN X0.here hx rfl (hb hby own_d14_0) rfl rfl k) ?_
  refine own_gF X0 hx hZ hown (own_w hw 25 rfl) Via.refl e0 P0 (hb hby own_d14_1) rfl rfl fun T1 X1 e1 => ?_
  show own_Go _ _ _ _ T1 (mkF m 4 #[.val (.ref t10), .val (.int n12)] [(.ref b3x13_97c5226)])
  refine own_st (fun t k => XS.ifnonnullYes X1.here hx rfl (pc0 := 4) (pc' := 11) rfl (hb hby own_d14_4) rfl (by decide) (by decide) (XS.aloadN X1.here hx rfl (hb hby own_d14_11) rfl rfl k)) ?_
  refine own_gF X1 hx hZ hown (own_w hw 25 rfl) Via.refl e1 P0 (hb hby own_d14_12) rfl rfl fun T2 X2 e2 => ?_
  show own_Go _ _ _ _ T2 (mkF m 15 #[.val (.ref t10), .val (.int n12)] [(.ref b3x13_97c5226)])
  refine own_st (fun t k => XS.iloadN X2.here hx rfl (hb hby own_d14_15) rfl k) ?_
  have i3 : ¬ n12 < 0 ∧ n12 < (8 : Int32) := ((by decide +kernel : ∀ x ∈ own_D8, (¬ x < 0 ∧ x < (8 : Int32))) _ (own_m8 R_n12) )
  refine own_st (own_aaloadH X2 hx hZ e2 P1 rfl i3 (v := (.ref gxc5218)) (getH_hit i3.1 rfl) (g := (mkF m 16 #[.val (.ref t10), .val (.int n12)] [(.int n12), (.ref b3x13_97c5226)])) rfl rfl (hb hby own_d14_16)) ?_
  exact own_retA X2 hx hlk hret rfl rfl (hb hby own_d14_17) (by decide) (by decide) e2 ⟨N0, (Keep.refl h0 []), ⟨rfl, trivial⟩⟩
def own_Q13_128 (Z : State) (t10 : Addr) (n11 : Int32) (b3x13_97c5243 : Addr) (k3x13_97c5226c5245 : ClassId) (n12 : Int32) (gxc5218 : Addr) (gxc5137 : Addr) (h0 : Heap) (n0 : Nat) (v : Option Value) (h : Heap) (L : List Loc) : Prop := Fr n0 L ∧ Keep h0 h [b3x13_97c5243] ∧ ((∃ k3x13_97c5226c5245 : ClassId, v = none ∧ Arh Z h b3x13_97c5243 k3x13_97c5226c5245 (.object own_s1) (8 : Int32) [(n11, .null), (n12, (.ref gxc5218)), (n11, (.ref gxc5137))] [] .null ∧ Ovr Z k3x13_97c5226c5245 own_s1 ∧ True))
set_option maxRecDepth 65536 in
set_option maxHeartbeats 40000000 in
theorem own_rm13_128 (l : Launch) (Z : State) (a0 : Array Value) (hw : ∀ d ∈ tables_1, d.before a0 Z = true) (ws : List Jvm.Cond) (t10 : Addr) (n11 : Int32) (b3x13_97c5243 : Addr) (k3x13_97c5226c5245 : ClassId) (n12 : Int32) (gxc5218 : Addr) (gxc5137 : Addr) (h0 : Heap) (n0 : Nat) (Z0 : n0 ≤ h0.size) (P0 : Fld Z h0 t10 own_s0 "values" own_s2 (.ref b3x13_97c5243)) (P1 : Arh Z h0 b3x13_97c5243 k3x13_97c5226c5245 (.object own_s1) (8 : Int32) [(n12, (.ref gxc5218)), (n11, (.ref gxc5137))] [] .null) (OFc5245_0_0 : Ovr Z k3x13_97c5226c5245 own_s1) (R_n11 : n11 = (0 : Int32) ∨ n11 = (1 : Int32) ∨ n11 = (2 : Int32) ∨ n11 = (3 : Int32) ∨ n11 = (4 : Int32) ∨ n11 = (5 : Int32) ∨ n11 = (6 : Int32) ∨ n11 = (7 : Int32)) (g_b3x13_97c5243 : n0 ≤ b3x13_97c5243) :
    MetFree l own_y1 (head1 (Jvm.Cond.code own_y1 prog_69_method_10_code 3 none :: ws) ({ frames := 0, cells := 0, slots := 0, locals := 0 } : Room)) (fun a U => a = #[(.ref t10), (.int n11), .null] ∧ Z.Warmed39 U.vm ∧ U.heap = h0) (fun _ _ _ _ _ => True) (fun _ U o U' => ∃ v L, o = .returned v ∧ own_Q13_128 Z t10 n11 b3x13_97c5243 k3x13_97c5226c5245 n12 gxc5218 gxc5137 h0 n0 v U'.heap L ∧ FrameEnd U o U' L ({ frames := 0, cells := 0, slots := 0, locals := 0 } : Room).cells ({ frames := 0, cells := 0, slots := 0, locals := 0 } : Room).slots) := by
  refine MetFree.of_bodySF (plainFor_of_name own_pn1) hisR ?_
  intro p e s m args below meth c s₁ Bd hml0 hP hK
  obtain ⟨rfl, hZ, hh⟩ := hP
  have hx := Bd.exec
  have hlk := Bd.notSynchronized
  have hret := Bd.returns
  have hby := Bd.bytes
  have hml : c.maxLocals = 3 := hml0
  have hown : s.vm.findClass own_s0 = some m.cls := findClass_of_methodNamed Bd.named
  have hnm := (name_of_methodNamed Bd.named Bd.method).1
  have X0 : Stand p l e ({ frames := 0, cells := 0, slots := 0, locals := 0 } : Room) s m #[(.ref t10), (.int n11), .null] below meth c s₁ [] 0 0 := Stand.of_body Bd
  have e0 : s₁.heap = h0 := by rw [← hh, Bd.state]; rfl
  have N0 := Fr.nil n0
  refine own_open (Q := own_Q13_128 Z t10 n11 b3x13_97c5243 k3x13_97c5226c5245 n12 gxc5218 gxc5137 h0 n0) (own_ef13RIN m t10 n11) ?_
  refine own_st (fun t k => XS.aloadN X0.here hx rfl (hb hby own_d13_0) rfl rfl k) ?_
  refine own_gF X0 hx hZ hown (own_w hw 25 rfl) Via.refl e0 P0 (hb hby own_d13_1) rfl rfl fun T1 X1 e1 => ?_
  show own_Go _ _ _ _ T1 (mkF m 4 #[.val (.ref t10), .val (.int n11), .val .null] [(.ref b3x13_97c5243)])
  refine own_st (fun t k => XS.ifnonnullYes X1.here hx rfl (pc0 := 4) (pc' := 23) rfl (hb hby own_d13_4) rfl (by decide) (by decide) (XS.aloadN X1.here hx rfl (hb hby own_d13_23) rfl rfl k)) ?_
  refine own_gF X1 hx hZ hown (own_w hw 25 rfl) Via.refl e1 P0 (hb hby own_d13_24) rfl rfl fun T2 X2 e2 => ?_
  show own_Go _ _ _ _ T2 (mkF m 27 #[.val (.ref t10), .val (.int n11), .val .null] [(.ref b3x13_97c5243)])
  refine own_st (fun t k => XS.ifnullNo X2.here hx rfl (hb hby own_d13_27) rfl (XS.aloadN X2.here hx rfl (hb hby own_d13_30) rfl rfl k)) ?_
  refine own_gF X2 hx hZ hown (own_w hw 25 rfl) Via.refl e2 P0 (hb hby own_d13_31) rfl rfl fun T3 X3 e3 => ?_
  show own_Go _ _ _ _ T3 (mkF m 34 #[.val (.ref t10), .val (.int n11), .val .null] [(.ref b3x13_97c5243)])
  refine own_st (fun t k => XS.iloadN X3.here hx rfl (hb hby own_d13_34) rfl (XS.aloadN X3.here hx rfl (hb hby own_d13_35) rfl rfl k)) ?_
  obtain ⟨c4, A4, q4, S4, M4, H4, G4⟩ := P1
  obtain ⟨T4, h4, X4, e4, W4, st4⟩ := stR X3 hx hZ e3 A4 (j := n11) (inb_of S4 ((by decide +kernel : ∀ x ∈ own_D8, (¬ x < 0 ∧ x < (8 : Int32))) _ (own_m8 R_n11) )) rfl (Or.inl rfl) (g := (mkF m 36 #[.val (.ref t10), .val (.int n11), .val .null] [.null, (.int n11), (.ref b3x13_97c5243)])) rfl rfl (hb hby own_d13_36)
  refine own_st st4 ?_
  have K4 : Keep h0 h4 [b3x13_97c5243] := (Keep.refl h0 [b3x13_97c5243]).wr W4 (Or.inl (List.mem_of_getElem? (i := 0) rfl))
  have Z4 := Nat.le_trans Z0 (Keep.of_wr W4).1
  have N4 := Fr.snoc X4 N0 g_b3x13_97c5243
  have V4 : Arh Z h4 b3x13_97c5243 k3x13_97c5226c5245 (.object own_s1) (8 : Int32) [(n11, .null), (n12, (.ref gxc5218)), (n11, (.ref gxc5137))] [] .null := Arh.push A4 q4 S4 M4 H4 G4 rfl W4 (inb_of S4 ((by decide +kernel : ∀ x ∈ own_D8, (¬ x < 0 ∧ x < (8 : Int32))) _ (own_m8 R_n11) ))
  show own_Go _ _ _ _ T4 (mkF m 37 #[.val (.ref t10), .val (.int n11), .val .null] [])
  exact own_retV X4 hx hlk hret (hb hby own_d13_37) (by decide) (by decide) e4 ⟨N4, K4, ⟨_, rfl, V4, OFc5245_0_0, trivial⟩⟩
def own_Q14_129 (Z : State) (t10 : Addr) (n11 : Int32) (b3x13_97c5243 : Addr) (k3x13_97c5226c5245c5249 : ClassId) (n12 : Int32) (gxc5218 : Addr) (gxc5137 : Addr) (h0 : Heap) (n0 : Nat) (v : Option Value) (h : Heap) (L : List Loc) : Prop := Fr n0 L ∧ Keep h0 h [] ∧ ((v = some .null ∧ True))
set_option maxRecDepth 65536 in
set_option maxHeartbeats 40000000 in
theorem own_rm14_129 (l : Launch) (Z : State) (a0 : Array Value) (hw : ∀ d ∈ tables_1, d.before a0 Z = true) (ws : List Jvm.Cond) (t10 : Addr) (n11 : Int32) (b3x13_97c5243 : Addr) (k3x13_97c5226c5245c5249 : ClassId) (n12 : Int32) (gxc5218 : Addr) (gxc5137 : Addr) (h0 : Heap) (n0 : Nat) (Z0 : n0 ≤ h0.size) (P0 : Fld Z h0 t10 own_s0 "values" own_s2 (.ref b3x13_97c5243)) (P1 : Arh Z h0 b3x13_97c5243 k3x13_97c5226c5245c5249 (.object own_s1) (8 : Int32) [(n11, .null), (n12, (.ref gxc5218)), (n11, (.ref gxc5137))] [] .null) (OFc5249_0_0 : Ovr Z k3x13_97c5226c5245c5249 own_s1) (R_n11 : n11 = (0 : Int32) ∨ n11 = (1 : Int32) ∨ n11 = (2 : Int32) ∨ n11 = (3 : Int32) ∨ n11 = (4 : Int32) ∨ n11 = (5 : Int32) ∨ n11 = (6 : Int32) ∨ n11 = (7 : Int32)) :
    MetFree l own_y0 (head1 (Jvm.Cond.code own_y0 prog_69_method_9_code 2 (some (.object own_s1)) :: ws) ({ frames := 0, cells := 0, slots := 0, locals := 0 } : Room)) (fun a U => a = #[(.ref t10), (.int n11)] ∧ Z.Warmed39 U.vm ∧ U.heap = h0) (fun _ _ _ _ _ => True) (fun _ U o U' => ∃ v L, o = .returned v ∧ own_Q14_129 Z t10 n11 b3x13_97c5243 k3x13_97c5226c5245c5249 n12 gxc5218 gxc5137 h0 n0 v U'.heap L ∧ FrameEnd U o U' L ({ frames := 0, cells := 0, slots := 0, locals := 0 } : Room).cells ({ frames := 0, cells := 0, slots := 0, locals := 0 } : Room).slots) := by
  refine MetFree.of_bodySF (plainFor_of_name own_pn1) hisR ?_
  intro p e s m args below meth c s₁ Bd hml0 hP hK
  obtain ⟨rfl, hZ, hh⟩ := hP
  have hx := Bd.exec
  have hlk := Bd.notSynchronized
  have hret := Bd.returns
  have hby := Bd.bytes
  have hml : c.maxLocals = 2 := hml0
  have hown : s.vm.findClass own_s0 = some m.cls := findClass_of_methodNamed Bd.named
  have hnm := (name_of_methodNamed Bd.named Bd.method).1
  have X0 : Stand p l e ({ frames := 0, cells := 0, slots := 0, locals := 0 } : Room) s m #[(.ref t10), (.int n11)] below meth c s₁ [] 0 0 := Stand.of_body Bd
  have e0 : s₁.heap = h0 := by rw [← hh, Bd.state]; rfl
  have N0 := Fr.nil n0
  refine own_open (Q := own_Q14_129 Z t10 n11 b3x13_97c5243 k3x13_97c5226c5245c5249 n12 gxc5218 gxc5137 h0 n0) (own_ef14 m t10 n11) ?_
  refine own_st (fun t k => XS.aloadN X0.here hx rfl (hb hby own_d14_0) rfl rfl k) ?_
  refine own_gF X0 hx hZ hown (own_w hw 25 rfl) Via.refl e0 P0 (hb hby own_d14_1) rfl rfl fun T1 X1 e1 => ?_
  show own_Go _ _ _ _ T1 (mkF m 4 #[.val (.ref t10), .val (.int n11)] [(.ref b3x13_97c5243)])
  refine own_st (fun t k => XS.ifnonnullYes X1.here hx rfl (pc0 := 4) (pc' := 11) rfl (hb hby own_d14_4) rfl (by decide) (by decide) (XS.aloadN X1.here hx rfl (hb hby own_d14_11) rfl rfl k)) ?_
  refine own_gF X1 hx hZ hown (own_w hw 25 rfl) Via.refl e1 P0 (hb hby own_d14_12) rfl rfl fun T2 X2 e2 => ?_
  show own_Go _ _ _ _ T2 (mkF m 15 #[.val (.ref t10), .val (.int n11)] [(.ref b3x13_97c5243)])
  refine own_st (fun t k => XS.iloadN X2.here hx rfl (hb hby own_d14_15) rfl k) ?_
  have i3 : ¬ n11 < 0 ∧ n11 < (8 : Int32) := ((by decide +kernel : ∀ x ∈ own_D8, (¬ x < 0 ∧ x < (8 : Int32))) _ (own_m8 R_n11) )
  refine own_st (own_aaloadH X2 hx hZ e2 P1 rfl i3 (v := .null) (getH_hit i3.1 rfl) (g := (mkF m 16 #[.val (.ref t10), .val (.int n11)] [(.int n11), (.ref b3x13_97c5243)])) rfl rfl (hb hby own_d14_16)) ?_
  exact own_retA X2 hx hlk hret rfl rfl (hb hby own_d14_17) (by decide) (by decide) e2 ⟨N0, (Keep.refl h0 []), ⟨rfl, trivial⟩⟩
def own_Q14_130 (Z : State) (t10 : Addr) (n12 : Int32) (b3x13_97c5243 : Addr) (k3x13_97c5226c5245c5249 : ClassId) (n11 : Int32) (gxc5218 : Addr) (gxc5137 : Addr) (h0 : Heap) (n0 : Nat) (v : Option Value) (h : Heap) (L : List Loc) : Prop := Fr n0 L ∧ Keep h0 h [] ∧ ((v = some .null ∧ (n12 = n11) ∧ True) ∨ (v = some (.ref gxc5218) ∧ (¬ (n12 = n11)) ∧ True))
set_option maxRecDepth 65536 in
set_option maxHeartbeats 40000000 in
theorem own_rm14_130 (l : Launch) (Z : State) (a0 : Array Value) (hw : ∀ d ∈ tables_1, d.before a0 Z = true) (ws : List Jvm.Cond) (t10 : Addr) (n12 : Int32) (b3x13_97c5243 : Addr) (k3x13_97c5226c5245c5249 : ClassId) (n11 : Int32) (gxc5218 : Addr) (gxc5137 : Addr) (h0 : Heap) (n0 : Nat) (Z0 : n0 ≤ h0.size) (P0 : Fld Z h0 t10 own_s0 "values" own_s2 (.ref b3x13_97c5243)) (P1 : Arh Z h0 b3x13_97c5243 k3x13_97c5226c5245c5249 (.object own_s1) (8 : Int32) [(n11, .null), (n12, (.ref gxc5218)), (n11, (.ref gxc5137))] [] .null) (OFc5249_0_0 : Ovr Z k3x13_97c5226c5245c5249 own_s1) (R_n12 : n12 = (0 : Int32) ∨ n12 = (1 : Int32) ∨ n12 = (2 : Int32) ∨ n12 = (3 : Int32) ∨ n12 = (4 : Int32) ∨ n12 = (5 : Int32) ∨ n12 = (6 : Int32) ∨ n12 = (7 : Int32)) (R_n11 : n11 = (0 : Int32) ∨ n11 = (1 : Int32) ∨ n11 = (2 : Int32) ∨ n11 = (3 : Int32) ∨ n11 = (4 : Int32) ∨ n11 = (5 : Int32) ∨ n11 = (6 : Int32) ∨ n11 = (7 : Int32)) :
    MetFree l own_y0 (head1 (Jvm.Cond.code own_y0 prog_69_method_9_code 2 (some (.object own_s1)) :: ws) ({ frames := 0, cells := 0, slots := 0, locals := 0 } : Room)) (fun a U => a = #[(.ref t10), (.int n12)] ∧ Z.Warmed39 U.vm ∧ U.heap = h0) (fun _ _ _ _ _ => True) (fun _ U o U' => ∃ v L, o = .returned v ∧ own_Q14_130 Z t10 n12 b3x13_97c5243 k3x13_97c5226c5245c5249 n11 gxc5218 gxc5137 h0 n0 v U'.heap L ∧ FrameEnd U o U' L ({ frames := 0, cells := 0, slots := 0, locals := 0 } : Room).cells ({ frames := 0, cells := 0, slots := 0, locals := 0 } : Room).slots) := by
  refine MetFree.of_bodySF (plainFor_of_name own_pn1) hisR ?_
  intro p e s m args below meth c s₁ Bd hml0 hP hK
  obtain ⟨rfl, hZ, hh⟩ := hP
  have hx := Bd.exec
  have hlk := Bd.notSynchronized
  have hret := Bd.returns
  have hby := Bd.bytes
  have hml : c.maxLocals = 2 := hml0
  have hown : s.vm.findClass own_s0 = some m.cls := findClass_of_methodNamed Bd.named
  have hnm := (name_of_methodNamed Bd.named Bd.method).1
  have X0 : Stand p l e ({ frames := 0, cells := 0, slots := 0, locals := 0 } : Room) s m #[(.ref t10), (.int n12)] below meth c s₁ [] 0 0 := Stand.of_body Bd
  have e0 : s₁.heap = h0 := by rw [← hh, Bd.state]; rfl
  have N0 := Fr.nil n0
  refine own_open (Q := own_Q14_130 Z t10 n12 b3x13_97c5243 k3x13_97c5226c5245c5249 n11 gxc5218 gxc5137 h0 n0) (own_ef14 m t10 n12) ?_
  refine own_st (fun t k => XS.aloadN X0.here hx rfl (hb hby own_d14_0) rfl rfl k) ?_
  refine own_gF X0 hx hZ hown (own_w hw 25 rfl) Via.refl e0 P0 (hb hby own_d14_1) rfl rfl fun T1 X1 e1 => ?_
  show own_Go _ _ _ _ T1 (mkF m 4 #[.val (.ref t10), .val (.int n12)] [(.ref b3x13_97c5243)])
  refine own_st (fun t k => XS.ifnonnullYes X1.here hx rfl (pc0 := 4) (pc' := 11) rfl (hb hby own_d14_4) rfl (by decide) (by decide) (XS.aloadN X1.here hx rfl (hb hby own_d14_11) rfl rfl k)) ?_
  refine own_gF X1 hx hZ hown (own_w hw 25 rfl) Via.refl e1 P0 (hb hby own_d14_12) rfl rfl fun T2 X2 e2 => ?_
  show own_Go _ _ _ _ T2 (mkF m 15 #[.val (.ref t10), .val (.int n12)] [(.ref b3x13_97c5243)])
  refine own_st (fun t k => XS.iloadN X2.here hx rfl (hb hby own_d14_15) rfl k) ?_
  have i3 : ¬ n12 < 0 ∧ n12 < (8 : Int32) := ((by decide +kernel : ∀ x ∈ own_D8, (¬ x < 0 ∧ x < (8 : Int32))) _ (own_m8 R_n12) )
  by_cases hc4 : n12 = n11
  · skip
    refine own_st (own_aaloadH X2 hx hZ e2 P1 rfl i3 (v := .null) (getH_hit i3.1 hc4) (g := (mkF m 16 #[.val (.ref t10), .val (.int n12)] [(.int n12), (.ref b3x13_97c5243)])) rfl rfl (hb hby own_d14_16)) ?_
    exact own_retA X2 hx hlk hret rfl rfl (hb hby own_d14_17) (by decide) (by decide) e2 ⟨N0, (Keep.refl h0 []), (Or.inl ⟨rfl, hc4, trivial⟩)⟩
  · skip
    refine own_st (own_aaloadH X2 hx hZ e2 P1 rfl i3 (v := (.ref gxc5218)) (getH_miss i3.1 hc4 (getH_hit i3.1 rfl)) (g := (mkF m 16 #[.val (.ref t10), .val (.int n12)] [(.int n12), (.ref b3x13_97c5243)])) rfl rfl (hb hby own_d14_16)) ?_
    show own_Go _ _ _ _ T2 (mkF m 17 #[.val (.ref t10), .val (.int n12)] [(.ref gxc5218)])
    exact own_retA X2 hx hlk hret rfl rfl (hb hby own_d14_17) (by decide) (by decide) e2 ⟨N0, (Keep.refl h0 []), (Or.inr ⟨rfl, hc4, trivial⟩)⟩
def own_Q13_132 (Z : State) (t10 : Addr) (n11 : Int32) (gxc5261 : Addr) (b3x13_97c5285 : Addr) (k3x13_97c5226c5287 : ClassId) (n12 : Int32) (gxc5218 : Addr) (gxc5137 : Addr) (h0 : Heap) (n0 : Nat) (v : Option Value) (h : Heap) (L : List Loc) : Prop := Fr n0 L ∧ Keep h0 h [b3x13_97c5285] ∧ ((∃ k3x13_97c5226c5287 : ClassId, v = none ∧ Arh Z h b3x13_97c5285 k3x13_97c5226c5287 (.object own_s1) (8 : Int32) [(n11, (.ref gxc5261)), (n12, (.ref gxc5218)), (n11, (.ref gxc5137))] [] .null ∧ Ovr Z k3x13_97c5226c5287 own_s1 ∧ True))
set_option maxRecDepth 65536 in
set_option maxHeartbeats 40000000 in
theorem own_rm13_132 (l : Launch) (Z : State) (a0 : Array Value) (hw : ∀ d ∈ tables_1, d.before a0 Z = true) (ws : List Jvm.Cond) (t10 : Addr) (n11 : Int32) (gxc5261 : Addr) (b3x13_97c5285 : Addr) (k3x13_97c5226c5287 : ClassId) (n12 : Int32) (gxc5218 : Addr) (gxc5137 : Addr) (h0 : Heap) (n0 : Nat) (Z0 : n0 ≤ h0.size) (P0 : Fld Z h0 t10 own_s0 "values" own_s2 (.ref b3x13_97c5285)) (P1 : Arh Z h0 b3x13_97c5285 k3x13_97c5226c5287 (.object own_s1) (8 : Int32) [(n12, (.ref gxc5218)), (n11, (.ref gxc5137))] [] .null) (OFc5287_0_0 : Ovr Z k3x13_97c5226c5287 own_s1) (R_n11 : n11 = (0 : Int32) ∨ n11 = (1 : Int32) ∨ n11 = (2 : Int32) ∨ n11 = (3 : Int32) ∨ n11 = (4 : Int32) ∨ n11 = (5 : Int32) ∨ n11 = (6 : Int32) ∨ n11 = (7 : Int32)) (P4 : Exa Z h0 gxc5261 "java/lang/Integer") (g_b3x13_97c5285 : n0 ≤ b3x13_97c5285) :
    MetFree l own_y1 (head1 (Jvm.Cond.code own_y1 prog_69_method_10_code 3 none :: ws) ({ frames := 0, cells := 0, slots := 0, locals := 0 } : Room)) (fun a U => a = #[(.ref t10), (.int n11), (.ref gxc5261)] ∧ Z.Warmed39 U.vm ∧ U.heap = h0) (fun _ _ _ _ _ => True) (fun _ U o U' => ∃ v L, o = .returned v ∧ own_Q13_132 Z t10 n11 gxc5261 b3x13_97c5285 k3x13_97c5226c5287 n12 gxc5218 gxc5137 h0 n0 v U'.heap L ∧ FrameEnd U o U' L ({ frames := 0, cells := 0, slots := 0, locals := 0 } : Room).cells ({ frames := 0, cells := 0, slots := 0, locals := 0 } : Room).slots) := by
  refine MetFree.of_bodySF (plainFor_of_name own_pn1) hisR ?_
  intro p e s m args below meth c s₁ Bd hml0 hP hK
  obtain ⟨rfl, hZ, hh⟩ := hP
  have hx := Bd.exec
  have hlk := Bd.notSynchronized
  have hret := Bd.returns
  have hby := Bd.bytes
  have hml : c.maxLocals = 3 := hml0
  have hown : s.vm.findClass own_s0 = some m.cls := findClass_of_methodNamed Bd.named
  have hnm := (name_of_methodNamed Bd.named Bd.method).1
  have X0 : Stand p l e ({ frames := 0, cells := 0, slots := 0, locals := 0 } : Room) s m #[(.ref t10), (.int n11), (.ref gxc5261)] below meth c s₁ [] 0 0 := Stand.of_body Bd
  have e0 : s₁.heap = h0 := by rw [← hh, Bd.state]; rfl
  have N0 := Fr.nil n0
  refine own_open (Q := own_Q13_132 Z t10 n11 gxc5261 b3x13_97c5285 k3x13_97c5226c5287 n12 gxc5218 gxc5137 h0 n0) (own_ef13 m t10 n11 gxc5261) ?_
  refine own_st (fun t k => XS.aloadN X0.here hx rfl (hb hby own_d13_0) rfl rfl k) ?_
  refine own_gF X0 hx hZ hown (own_w hw 25 rfl) Via.refl e0 P0 (hb hby own_d13_1) rfl rfl fun T1 X1 e1 => ?_
  show own_Go _ _ _ _ T1 (mkF m 4 #[.val (.ref t10), .val (.int n11), .val (.ref gxc5261)] [(.ref b3x13_97c5285)])
  refine own_st (fun t k => XS.ifnonnullYes X1.here hx rfl (pc0 := 4) (pc' := 23) rfl (hb hby own_d13_4) rfl (by decide) (by decide) (XS.aloadN X1.here hx rfl (hb hby own_d13_23) rfl rfl k)) ?_
  refine own_gF X1 hx hZ hown (own_w hw 25 rfl) Via.refl e1 P0 (hb hby own_d13_24) rfl rfl fun T2 X2 e2 => ?_
  show own_Go _ _ _ _ T2 (mkF m 27 #[.val (.ref t10), .val (.int n11), .val (.ref gxc5261)] [(.ref b3x13_97c5285)])
  refine own_st (fun t k => XS.ifnullNo X2.here hx rfl (hb hby own_d13_27) rfl (XS.aloadN X2.here hx rfl (hb hby own_d13_30) rfl rfl k)) ?_
  refine own_gF X2 hx hZ hown (own_w hw 25 rfl) Via.refl e2 P0 (hb hby own_d13_31) rfl rfl fun T3 X3 e3 => ?_
  show own_Go _ _ _ _ T3 (mkF m 34 #[.val (.ref t10), .val (.int n11), .val (.ref gxc5261)] [(.ref b3x13_97c5285)])
  refine own_st (fun t k => XS.iloadN X3.here hx rfl (hb hby own_d13_34) rfl (XS.aloadN X3.here hx rfl (hb hby own_d13_35) rfl rfl k)) ?_
  obtain ⟨c4, A4, q4, S4, M4, H4, G4⟩ := P1
  obtain ⟨T4, h4, X4, e4, W4, st4⟩ := stR X3 hx hZ e3 A4 (j := n11) (inb_of S4 ((by decide +kernel : ∀ x ∈ own_D8, (¬ x < 0 ∧ x < (8 : Int32))) _ (own_m8 R_n11) )) rfl (Sto.ofV A4 q4 OFc5287_0_0 (Ins.of_exa P4 (own_w hw 75 rfl))) (g := (mkF m 36 #[.val (.ref t10), .val (.int n11), .val (.ref gxc5261)] [(.ref gxc5261), (.int n11), (.ref b3x13_97c5285)])) rfl rfl (hb hby own_d13_36)
  refine own_st st4 ?_
  have K4 : Keep h0 h4 [b3x13_97c5285] := (Keep.refl h0 [b3x13_97c5285]).wr W4 (Or.inl (List.mem_of_getElem? (i := 0) rfl))
  have Z4 := Nat.le_trans Z0 (Keep.of_wr W4).1
  have N4 := Fr.snoc X4 N0 g_b3x13_97c5285
  have V4 : Arh Z h4 b3x13_97c5285 k3x13_97c5226c5287 (.object own_s1) (8 : Int32) [(n11, (.ref gxc5261)), (n12, (.ref gxc5218)), (n11, (.ref gxc5137))] [] .null := Arh.push A4 q4 S4 M4 H4 G4 rfl W4 (inb_of S4 ((by decide +kernel : ∀ x ∈ own_D8, (¬ x < 0 ∧ x < (8 : Int32))) _ (own_m8 R_n11) ))
  show own_Go _ _ _ _ T4 (mkF m 37 #[.val (.ref t10), .val (.int n11), .val (.ref gxc5261)] [])
  exact own_retV X4 hx hlk hret (hb hby own_d13_37) (by decide) (by decide) e4 ⟨N4, K4, ⟨_, rfl, V4, OFc5287_0_0, trivial⟩⟩
def own_Q14_133 (Z : State) (t10 : Addr) (n11 : Int32) (b3x13_97c5285 : Addr) (k3x13_97c5226c5287c5292 : ClassId) (gxc5261 : Addr) (n12 : Int32) (gxc5218 : Addr) (gxc5137 : Addr) (h0 : Heap) (n0 : Nat) (v : Option Value) (h : Heap) (L : List Loc) : Prop := Fr n0 L ∧ Keep h0 h [] ∧ ((v = some (.ref gxc5261) ∧ True))
set_option maxRecDepth 65536 in
set_option maxHeartbeats 40000000 in
theorem own_rm14_133 (l : Launch) (Z : State) (a0 : Array Value) (hw : ∀ d ∈ tables_1, d.before a0 Z = true) (ws : List Jvm.Cond) (t10 : Addr) (n11 : Int32) (b3x13_97c5285 : Addr) (k3x13_97c5226c5287c5292 : ClassId) (gxc5261 : Addr) (n12 : Int32) (gxc5218 : Addr) (gxc5137 : Addr) (h0 : Heap) (n0 : Nat) (Z0 : n0 ≤ h0.size) (P0 : Fld Z h0 t10 own_s0 "values" own_s2 (.ref b3x13_97c5285)) (P1 : Arh Z h0 b3x13_97c5285 k3x13_97c5226c5287c5292 (.object own_s1) (8 : Int32) [(n11, (.ref gxc5261)), (n12, (.ref gxc5218)), (n11, (.ref gxc5137))] [] .null) (OFc5292_0_0 : Ovr Z k3x13_97c5226c5287c5292 own_s1) (R_n11 : n11 = (0 : Int32) ∨ n11 = (1 : Int32) ∨ n11 = (2 : Int32) ∨ n11 = (3 : Int32) ∨ n11 = (4 : Int32) ∨ n11 = (5 : Int32) ∨ n11 = (6 : Int32) ∨ n11 = (7 : Int32)) :
    MetFree l own_y0 (head1 (Jvm.Cond.code own_y0 prog_69_method_9_code 2 (some (.object own_s1)) :: ws) ({ frames := 0, cells := 0, slots := 0, locals := 0 } : Room)) (fun a U => a = #[(.ref t10), (.int n11)] ∧ Z.Warmed39 U.vm ∧ U.heap = h0) (fun _ _ _ _ _ => True) (fun _ U o U' => ∃ v L, o = .returned v ∧ own_Q14_133 Z t10 n11 b3x13_97c5285 k3x13_97c5226c5287c5292 gxc5261 n12 gxc5218 gxc5137 h0 n0 v U'.heap L ∧ FrameEnd U o U' L ({ frames := 0, cells := 0, slots := 0, locals := 0 } : Room).cells ({ frames := 0, cells := 0, slots := 0, locals := 0 } : Room).slots) := by
  refine MetFree.of_bodySF (plainFor_of_name own_pn1) hisR ?_
  intro p e s m args below meth c s₁ Bd hml0 hP hK
  obtain ⟨rfl, hZ, hh⟩ := hP
  have hx := Bd.exec
  have hlk := Bd.notSynchronized
  have hret := Bd.returns
  have hby := Bd.bytes
  have hml : c.maxLocals = 2 := hml0
  have hown : s.vm.findClass own_s0 = some m.cls := findClass_of_methodNamed Bd.named
  have hnm := (name_of_methodNamed Bd.named Bd.method).1
  have X0 : Stand p l e ({ frames := 0, cells := 0, slots := 0, locals := 0 } : Room) s m #[(.ref t10), (.int n11)] below meth c s₁ [] 0 0 := Stand.of_body Bd
  have e0 : s₁.heap = h0 := by rw [← hh, Bd.state]; rfl
  have N0 := Fr.nil n0
  refine own_open (Q := own_Q14_133 Z t10 n11 b3x13_97c5285 k3x13_97c5226c5287c5292 gxc5261 n12 gxc5218 gxc5137 h0 n0) (own_ef14 m t10 n11) ?_
  refine own_st (fun t k => XS.aloadN X0.here hx rfl (hb hby own_d14_0) rfl rfl k) ?_
  refine own_gF X0 hx hZ hown (own_w hw 25 rfl) Via.refl e0 P0 (hb hby own_d14_1) rfl rfl fun T1 X1 e1 => ?_
  show own_Go _ _ _ _ T1 (mkF m 4 #[.val (.ref t10), .val (.int n11)] [(.ref b3x13_97c5285)])
  refine own_st (fun t k => XS.ifnonnullYes X1.here hx rfl (pc0 := 4) (pc' := 11) rfl (hb hby own_d14_4) rfl (by decide) (by decide) (XS.aloadN X1.here hx rfl (hb hby own_d14_11) rfl rfl k)) ?_
  refine own_gF X1 hx hZ hown (own_w hw 25 rfl) Via.refl e1 P0 (hb hby own_d14_12) rfl rfl fun T2 X2 e2 => ?_
  show own_Go _ _ _ _ T2 (mkF m 15 #[.val (.ref t10), .val (.int n11)] [(.ref b3x13_97c5285)])
  refine own_st (fun t k => XS.iloadN X2.here hx rfl (hb hby own_d14_15) rfl k) ?_
  have i3 : ¬ n11 < 0 ∧ n11 < (8 : Int32) := ((by decide +kernel : ∀ x ∈ own_D8, (¬ x < 0 ∧ x < (8 : Int32))) _ (own_m8 R_n11) )
  refine own_st (own_aaloadH X2 hx hZ e2 P1 rfl i3 (v := (.ref gxc5261)) (getH_hit i3.1 rfl) (g := (mkF m 16 #[.val (.ref t10), .val (.int n11)] [(.int n11), (.ref b3x13_97c5285)])) rfl rfl (hb hby own_d14_16)) ?_
  exact own_retA X2 hx hlk hret rfl rfl (hb hby own_d14_17) (by decide) (by decide) e2 ⟨N0, (Keep.refl h0 []), ⟨rfl, trivial⟩⟩
def own_Q14_134 (Z : State) (t10 : Addr) (n12 : Int32) (b3x13_97c5285 : Addr) (k3x13_97c5226c5287c5292 : ClassId) (n11 : Int32) (gxc5261 : Addr) (gxc5218 : Addr) (gxc5137 : Addr) (h0 : Heap) (n0 : Nat) (v : Option Value) (h : Heap) (L : List Loc) : Prop := Fr n0 L ∧ Keep h0 h [] ∧ ((v = some (.ref gxc5261) ∧ (n12 = n11) ∧ True) ∨ (v = some (.ref gxc5218) ∧ (¬ (n12 = n11)) ∧ True))
set_option maxRecDepth 65536 in
set_option maxHeartbeats 40000000 in
theorem own_rm14_134 (l : Launch) (Z : State) (a0 : Array Value) (hw : ∀ d ∈ tables_1, d.before a0 Z = true) (ws : List Jvm.Cond) (t10 : Addr) (n12 : Int32) (b3x13_97c5285 : Addr) (k3x13_97c5226c5287c5292 : ClassId) (n11 : Int32) (gxc5261 : Addr) (gxc5218 : Addr) (gxc5137 : Addr) (h0 : Heap) (n0 : Nat) (Z0 : n0 ≤ h0.size) (P0 : Fld Z h0 t10 own_s0 "values" own_s2 (.ref b3x13_97c5285)) (P1 : Arh Z h0 b3x13_97c5285 k3x13_97c5226c5287c5292 (.object own_s1) (8 : Int32) [(n11, (.ref gxc5261)), (n12, (.ref gxc5218)), (n11, (.ref gxc5137))] [] .null) (OFc5292_0_0 : Ovr Z k3x13_97c5226c5287c5292 own_s1) (R_n12 : n12 = (0 : Int32) ∨ n12 = (1 : Int32) ∨ n12 = (2 : Int32) ∨ n12 = (3 : Int32) ∨ n12 = (4 : Int32) ∨ n12 = (5 : Int32) ∨ n12 = (6 : Int32) ∨ n12 = (7 : Int32)) (R_n11 : n11 = (0 : Int32) ∨ n11 = (1 : Int32) ∨ n11 = (2 : Int32) ∨ n11 = (3 : Int32) ∨ n11 = (4 : Int32) ∨ n11 = (5 : Int32) ∨ n11 = (6 : Int32) ∨ n11 = (7 : Int32)) :
    MetFree l own_y0 (head1 (Jvm.Cond.code own_y0 prog_69_method_9_code 2 (some (.object own_s1)) :: ws) ({ frames := 0, cells := 0, slots := 0, locals := 0 } : Room)) (fun a U => a = #[(.ref t10), (.int n12)] ∧ Z.Warmed39 U.vm ∧ U.heap = h0) (fun _ _ _ _ _ => True) (fun _ U o U' => ∃ v L, o = .returned v ∧ own_Q14_134 Z t10 n12 b3x13_97c5285 k3x13_97c5226c5287c5292 n11 gxc5261 gxc5218 gxc5137 h0 n0 v U'.heap L ∧ FrameEnd U o U' L ({ frames := 0, cells := 0, slots := 0, locals := 0 } : Room).cells ({ frames := 0, cells := 0, slots := 0, locals := 0 } : Room).slots) := by
  refine MetFree.of_bodySF (plainFor_of_name own_pn1) hisR ?_
  intro p e s m args below meth c s₁ Bd hml0 hP hK
  obtain ⟨rfl, hZ, hh⟩ := hP
  have hx := Bd.exec
  have hlk := Bd.notSynchronized
  have hret := Bd.returns
  have hby := Bd.bytes
  have hml : c.maxLocals = 2 := hml0
  have hown : s.vm.findClass own_s0 = some m.cls := findClass_of_methodNamed Bd.named
  have hnm := (name_of_methodNamed Bd.named Bd.method).1
  have X0 : Stand p l e ({ frames := 0, cells := 0, slots := 0, locals := 0 } : Room) s m #[(.ref t10), (.int n12)] below meth c s₁ [] 0 0 := Stand.of_body Bd
  have e0 : s₁.heap = h0 := by rw [← hh, Bd.state]; rfl
  have N0 := Fr.nil n0
  refine own_open (Q := own_Q14_134 Z t10 n12 b3x13_97c5285 k3x13_97c5226c5287c5292 n11 gxc5261 gxc5218 gxc5137 h0 n0) (own_ef14 m t10 n12) ?_
  refine own_st (fun t k => XS.aloadN X0.here hx rfl (hb hby own_d14_0) rfl rfl k) ?_
  refine own_gF X0 hx hZ hown (own_w hw 25 rfl) Via.refl e0 P0 (hb hby own_d14_1) rfl rfl fun T1 X1 e1 => ?_
  show own_Go _ _ _ _ T1 (mkF m 4 #[.val (.ref t10), .val (.int n12)] [(.ref b3x13_97c5285)])
  refine own_st (fun t k => XS.ifnonnullYes X1.here hx rfl (pc0 := 4) (pc' := 11) rfl (hb hby own_d14_4) rfl (by decide) (by decide) (XS.aloadN X1.here hx rfl (hb hby own_d14_11) rfl rfl k)) ?_
  refine own_gF X1 hx hZ hown (own_w hw 25 rfl) Via.refl e1 P0 (hb hby own_d14_12) rfl rfl fun T2 X2 e2 => ?_
  show own_Go _ _ _ _ T2 (mkF m 15 #[.val (.ref t10), .val (.int n12)] [(.ref b3x13_97c5285)])
  refine own_st (fun t k => XS.iloadN X2.here hx rfl (hb hby own_d14_15) rfl k) ?_
  have i3 : ¬ n12 < 0 ∧ n12 < (8 : Int32) := ((by decide +kernel : ∀ x ∈ own_D8, (¬ x < 0 ∧ x < (8 : Int32))) _ (own_m8 R_n12) )
  by_cases hc4 : n12 = n11
  · skip
    refine own_st (own_aaloadH X2 hx hZ e2 P1 rfl i3 (v := (.ref gxc5261)) (getH_hit i3.1 hc4) (g := (mkF m 16 #[.val (.ref t10), .val (.int n12)] [(.int n12), (.ref b3x13_97c5285)])) rfl rfl (hb hby own_d14_16)) ?_
    exact own_retA X2 hx hlk hret rfl rfl (hb hby own_d14_17) (by decide) (by decide) e2 ⟨N0, (Keep.refl h0 []), (Or.inl ⟨rfl, hc4, trivial⟩)⟩
  · skip
    refine own_st (own_aaloadH X2 hx hZ e2 P1 rfl i3 (v := (.ref gxc5218)) (getH_miss i3.1 hc4 (getH_hit i3.1 rfl)) (g := (mkF m 16 #[.val (.ref t10), .val (.int n12)] [(.int n12), (.ref b3x13_97c5285)])) rfl rfl (hb hby own_d14_16)) ?_
    show own_Go _ _ _ _ T2 (mkF m 17 #[.val (.ref t10), .val (.int n12)] [(.ref gxc5218)])
    exact own_retA X2 hx hlk hret rfl rfl (hb hby own_d14_17) (by decide) (by decide) e2 ⟨N0, (Keep.refl h0 []), (Or.inr ⟨rfl, hc4, trivial⟩)⟩
def own_Q0 (n0 : Nat) (v : Option Value) (h : Heap) (L : List Loc) : Prop := v = some (.int (1 : Int32)) ∧ Fr n0 L
set_option maxRecDepth 65536 in
set_option maxHeartbeats 40000000 in
theorem own_cut47 {p : Program} {l : Launch} {e : Env} {s : State} {m : MethodId} {args : Array Value} {below : List Frame} {meth : Method} {c : Code} {T0 : State} {locs : List Loc} {Z : State} {a0 : Array Value} {h0 : Heap} {n0 : Nat} (jp0 : Int64) (jp1 : Int64) (ip2 : Int32) (ip3 : Int32) (ip4 : Int32) (ip5 : Int32) (j8 : Int64) (t10 : Addr) (n11 : Int32) (n12 : Int32) (u10 : Addr) (w_cache : Addr)
    (X0 : Stand p l e room_1 s m args below meth c T0 locs 3 46) (hx : p.tables.exec = Jvm.exec) (hZ : Z.Warmed39 s.vm) (hw : ∀ d ∈ tables_1, d.before a0 Z = true) (hby : c.code = code) (hml : c.maxLocals = 18) (hown : s.vm.findClass "com/example/backchannel/backchannel/server/LongTableSetValuePinLaw" = some m.cls) (hlk : meth.locks = false) (hret : meth.sig.returnType = ret) (N0 : Fr n0 locs) (Z0 : n0 ≤ h0.size) (e0 : T0.heap = h0) (P0 : Exa Z h0 t10 own_s0) (P1 : Fld Z h0 t10 own_s0 "values" own_s2 .null) (P2 : Fld Z h0 t10 own_s0 "used" "[Z" (.ref u10)) (P3 : own_Al Z h0 u10 (8 : Int32)) (P4 : Sta Z h0 "java/lang/Integer$IntegerCache" "cache" "[Ljava/lang/Integer;" (.ref w_cache)) (P5 : Sta Z h0 "java/lang/Integer$IntegerCache" "high" "I" (.int (127 : Int32))) (P6 : own_Ca Z h0 w_cache) (g_t10 : n0 ≤ t10) (hr11 : n11 = (0 : Int32) ∨ n11 = (1 : Int32) ∨ n11 = (2 : Int32) ∨ n11 = (3 : Int32) ∨ n11 = (4 : Int32) ∨ n11 = (5 : Int32) ∨ n11 = (6 : Int32) ∨ n11 = (7 : Int32)) (hr12 : n12 = (0 : Int32) ∨ n12 = (1 : Int32) ∨ n12 = (2 : Int32) ∨ n12 = (3 : Int32) ∨ n12 = (4 : Int32) ∨ n12 = (5 : Int32) ∨ n12 = (6 : Int32) ∨ n12 = (7 : Int32)) (hne : ¬ (n11 = n12)) :
    own_Go p.tables e below (own_End s below (own_Q0 n0) room_1.cells room_1.slots) T0 (mkF m 47 #[.val (.long jp0), .second, .val (.long jp1), .second, .val (.int ip2), .val (.int ip3), .val (.int ip4), .val (.int ip5), .val (.long j8), .second, .val (.ref t10), .val (.int n11), .val (.int n12), .unset, .unset, .unset, .unset, .unset] []) := by
  refine own_st (fun t k => XS.iload X0.here hx rfl (hb hby at_47) rfl (XS.iconst X0.here hx rfl (hb hby at_49) k)) ?_
  show own_Go _ _ _ _ T0 (mkF m 50 #[.val (.long jp0), .second, .val (.long jp1), .second, .val (.int ip2), .val (.int ip3), .val (.int ip4), .val (.int ip5), .val (.long j8), .second, .val (.ref t10), .val (.int n11), .val (.int n12), .unset, .unset, .unset, .unset, .unset] [(.int (1 : Int32)), (.int ip5)])
  refine own_st (fun t k => XS.iand X0.here hx rfl (hb hby at_50) rfl k) ?_
  by_cases hc5001 : (ip5 &&& (1 : Int32)) = (0 : Int32)
  · skip
    refine own_st (fun t k => XS.ifYes X0.here hx rfl (pc0 := 51) (pc' := 62) rfl (hb hby at_51) rfl ((if0 _ _).trans (teq hc5001).1) (by decide) (by decide) (XS.aconstNull X0.here hx rfl (hb hby at_62) k)) ?_
    show own_Go _ _ _ _ T0 (mkF m 63 #[.val (.long jp0), .second, .val (.long jp1), .second, .val (.int ip2), .val (.int ip3), .val (.int ip4), .val (.int ip5), .val (.long j8), .second, .val (.ref t10), .val (.int n11), .val (.int n12), .unset, .unset, .unset, .unset, .unset] [.null])
    refine own_st (fun t k => XS.astore X0.here hx rfl (hb hby at_63) rfl rfl (l' := #[.val (.long jp0), .second, .val (.long jp1), .second, .val (.int ip2), .val (.int ip3), .val (.int ip4), .val (.int ip5), .val (.long j8), .second, .val (.ref t10), .val (.int n11), .val (.int n12), .val .null, .unset, .unset, .unset, .unset]) rfl (XS.iload X0.here hx rfl (hb hby at_65) rfl (XS.iconst X0.here hx rfl (hb hby at_67) k))) ?_
    show own_Go _ _ _ _ T0 (mkF m 68 #[.val (.long jp0), .second, .val (.long jp1), .second, .val (.int ip2), .val (.int ip3), .val (.int ip4), .val (.int ip5), .val (.long j8), .second, .val (.ref t10), .val (.int n11), .val (.int n12), .val .null, .unset, .unset, .unset, .unset] [(.int (2 : Int32)), (.int ip5)])
    refine own_st (fun t k => XS.iand X0.here hx rfl (hb hby at_68) rfl k) ?_
    by_cases hc5002 : (ip5 &&& (2 : Int32)) = (0 : Int32)
    · skip
      refine own_st (fun t k => XS.ifYes X0.here hx rfl (pc0 := 69) (pc' := 80) rfl (hb hby at_69) rfl ((if0 _ _).trans (teq hc5002).1) (by decide) (by decide) (XS.aconstNull X0.here hx rfl (hb hby at_80) k)) ?_
      show own_Go _ _ _ _ T0 (mkF m 81 #[.val (.long jp0), .second, .val (.long jp1), .second, .val (.int ip2), .val (.int ip3), .val (.int ip4), .val (.int ip5), .val (.long j8), .second, .val (.ref t10), .val (.int n11), .val (.int n12), .val .null, .unset, .unset, .unset, .unset] [.null])
      refine own_st (fun t k => XS.astore X0.here hx rfl (hb hby at_81) rfl rfl (l' := #[.val (.long jp0), .second, .val (.long jp1), .second, .val (.int ip2), .val (.int ip3), .val (.int ip4), .val (.int ip5), .val (.long j8), .second, .val (.ref t10), .val (.int n11), .val (.int n12), .val .null, .val .null, .unset, .unset, .unset]) rfl (XS.iload X0.here hx rfl (hb hby at_83) rfl (XS.bipush X0.here hx rfl (hb hby at_85) k))) ?_
      show own_Go _ _ _ _ T0 (mkF m 87 #[.val (.long jp0), .second, .val (.long jp1), .second, .val (.int ip2), .val (.int ip3), .val (.int ip4), .val (.int ip5), .val (.long j8), .second, .val (.ref t10), .val (.int n11), .val (.int n12), .val .null, .val .null, .unset, .unset, .unset] [(.int (8 : Int32)), (.int ip5)])
      refine own_st (fun t k => XS.iand X0.here hx rfl (hb hby at_87) rfl k) ?_
      by_cases hc5003 : (ip5 &&& (8 : Int32)) = (0 : Int32)
      · skip
        refine own_st (fun t k => XS.ifYes X0.here hx rfl (pc0 := 88) (pc' := 99) rfl (hb hby at_88) rfl ((if0 _ _).trans (teq hc5003).1) (by decide) (by decide) (XS.aconstNull X0.here hx rfl (hb hby at_99) k)) ?_
        show own_Go _ _ _ _ T0 (mkF m 100 #[.val (.long jp0), .second, .val (.long jp1), .second, .val (.int ip2), .val (.int ip3), .val (.int ip4), .val (.int ip5), .val (.long j8), .second, .val (.ref t10), .val (.int n11), .val (.int n12), .val .null, .val .null, .unset, .unset, .unset] [.null])
        refine own_st (fun t k => XS.astore X0.here hx rfl (hb hby at_100) rfl rfl (l' := #[.val (.long jp0), .second, .val (.long jp1), .second, .val (.int ip2), .val (.int ip3), .val (.int ip4), .val (.int ip5), .val (.long j8), .second, .val (.ref t10), .val (.int n11), .val (.int n12), .val .null, .val .null, .val .null, .unset, .unset]) rfl (XS.iload X0.here hx rfl (hb hby at_102) rfl (XS.iconst X0.here hx rfl (hb hby at_104) k))) ?_
        show own_Go _ _ _ _ T0 (mkF m 105 #[.val (.long jp0), .second, .val (.long jp1), .second, .val (.int ip2), .val (.int ip3), .val (.int ip4), .val (.int ip5), .val (.long j8), .second, .val (.ref t10), .val (.int n11), .val (.int n12), .val .null, .val .null, .val .null, .unset, .unset] [(.int (4 : Int32)), (.int ip5)])
        refine own_st (fun t k => XS.iand X0.here hx rfl (hb hby at_105) rfl k) ?_
        by_cases hc5004 : (ip5 &&& (4 : Int32)) = (0 : Int32)
        · skip
          refine own_st (fun t k => XS.ifYes X0.here hx rfl (pc0 := 106) (pc' := 113) rfl (hb hby at_106) rfl ((if0 _ _).trans (teq hc5004).1) (by decide) (by decide) (XS.iconst X0.here hx rfl (hb hby at_113) k)) ?_
          show own_Go _ _ _ _ T0 (mkF m 114 #[.val (.long jp0), .second, .val (.long jp1), .second, .val (.int ip2), .val (.int ip3), .val (.int ip4), .val (.int ip5), .val (.long j8), .second, .val (.ref t10), .val (.int n11), .val (.int n12), .val .null, .val .null, .val .null, .unset, .unset] [(.int (0 : Int32))])
          refine own_st (fun t k => XS.istore X0.here hx rfl (hb hby at_114) rfl (l' := #[.val (.long jp0), .second, .val (.long jp1), .second, .val (.int ip2), .val (.int ip3), .val (.int ip4), .val (.int ip5), .val (.long j8), .second, .val (.ref t10), .val (.int n11), .val (.int n12), .val .null, .val .null, .val .null, .val (.int (0 : Int32)), .unset]) rfl (XS.aload X0.here hx rfl (hb hby at_116) rfl rfl (XS.iload X0.here hx rfl (hb hby at_118) rfl k))) ?_
          show own_Go _ _ _ _ T0 (mkF m 120 #[.val (.long jp0), .second, .val (.long jp1), .second, .val (.int ip2), .val (.int ip3), .val (.int ip4), .val (.int ip5), .val (.long j8), .second, .val (.ref t10), .val (.int n11), .val (.int n12), .val .null, .val .null, .val .null, .val (.int (0 : Int32)), .unset] [(.int n11), (.ref t10)])
          refine own_st (fun t k => XS.aload X0.here hx rfl (hb hby at_120) rfl rfl k) ?_
          refine own_cV (a := t10) X0 hx hZ hown (own_w hw 68 rfl) (own_w hw 69 rfl) (own_w hw 71 rfl) (own_w hw 70 rfl) (own_w hw 2 rfl) (own_w hw 72 rfl) [(.int n11), .null] [] P0 (own_rm13_87 l Z a0 hw [] t10 n11 h0 n0 Z0 P1) 0 (hb hby at_122) (by rw [hml]; rfl) (lenOf own_pd6 rfl) e0 rfl rfl (by show 2 * 0 + _ ≤ _; exact Nat.le_of_eq rfl) (by decide) (by decide) (by decide) (by decide) (by decide) fun v5005 T5005 L5005 X5005 hQ5005 => ?_
          obtain ⟨N5005q, Kq5005, hL5005⟩ := hQ5005
          have N5005 := Fr.app N0 N5005q
          have K5005 : Keep h0 T5005.heap [t10] := (Keep.refl h0 [t10]).trans Kq5005 all0
          have Z5005 := Nat.le_trans Z0 Kq5005.1
          rcases hL5005 with ⟨rfl, -⟩
          · skip
            refine own_st (fun t k => XS.aload X5005.here hx rfl (hb hby at_125) rfl rfl k) ?_
            show own_Go _ _ _ _ T5005 (mkF m 127 #[.val (.long jp0), .second, .val (.long jp1), .second, .val (.int ip2), .val (.int ip3), .val (.int ip4), .val (.int ip5), .val (.long j8), .second, .val (.ref t10), .val (.int n11), .val (.int n12), .val .null, .val .null, .val .null, .val (.int (0 : Int32)), .unset] [(.ref t10)])
            refine own_st (fun t k => XS.iload X5005.here hx rfl (hb hby at_127) rfl (XS.aload X5005.here hx rfl (hb hby at_129) rfl rfl k)) ?_
            have f5006 := (P1.keep Kq5005 nin0)
            have f5008 := (P0.keep Kq5005)
            refine own_cV (a := t10) X5005 hx hZ hown (own_w hw 68 rfl) (own_w hw 69 rfl) (own_w hw 71 rfl) (own_w hw 70 rfl) (own_w hw 2 rfl) (own_w hw 72 rfl) [(.int n12), .null] [] f5008 (own_rm13_88 l Z a0 hw [] t10 n12 T5005.heap n0 Z5005 f5006) 0 (hb hby at_131) (by rw [hml]; rfl) (lenOf own_pd6 rfl) rfl rfl rfl (by show 2 * 0 + _ ≤ _; exact Nat.le_of_eq rfl) (by decide) (by decide) (by decide) (by decide) (by decide) fun v5007 T5007 L5007 X5007 hQ5007 => ?_
            obtain ⟨N5007q, Kq5007, hL5007⟩ := hQ5007
            have N5007 := Fr.app N5005 N5007q
            have K5007 : Keep h0 T5007.heap [t10] := K5005.trans Kq5007 all0
            have Z5007 := Nat.le_trans Z5005 Kq5007.1
            rcases hL5007 with ⟨rfl, -⟩
            · skip
              show own_Go _ _ _ _ T5007 (mkF m 134 #[.val (.long jp0), .second, .val (.long jp1), .second, .val (.int ip2), .val (.int ip3), .val (.int ip4), .val (.int ip5), .val (.long j8), .second, .val (.ref t10), .val (.int n11), .val (.int n12), .val .null, .val .null, .val .null, .val (.int (0 : Int32)), .unset] [])
              refine own_st (fun t k => XS.iload X5007.here hx rfl (hb hby at_134) rfl (XS.ifYes X5007.here hx rfl (pc0 := 136) (pc' := 148) rfl (hb hby at_136) rfl ((if0 _ _).trans (teq (by decide : (0 : Int32) = (0 : Int32))).1) (by decide) (by decide) (XS.iload X5007.here hx rfl (hb hby at_148) rfl k))) ?_
              show own_Go _ _ _ _ T5007 (mkF m 150 #[.val (.long jp0), .second, .val (.long jp1), .second, .val (.int ip2), .val (.int ip3), .val (.int ip4), .val (.int ip5), .val (.long j8), .second, .val (.ref t10), .val (.int n11), .val (.int n12), .val .null, .val .null, .val .null, .val (.int (0 : Int32)), .unset] [(.int (0 : Int32))])
              refine own_st (fun t k => XS.ifYes X5007.here hx rfl (pc0 := 150) (pc' := 158) rfl (hb hby at_150) rfl ((if0 _ _).trans (teq (by decide : (0 : Int32) = (0 : Int32))).1) (by decide) (by decide) (XS.aload X5007.here hx rfl (hb hby at_158) rfl rfl (XS.astore X5007.here hx rfl (hb hby at_160) rfl rfl (l' := #[.val (.long jp0), .second, .val (.long jp1), .second, .val (.int ip2), .val (.int ip3), .val (.int ip4), .val (.int ip5), .val (.long j8), .second, .val (.ref t10), .val (.int n11), .val (.int n12), .val .null, .val .null, .val .null, .val (.int (0 : Int32)), .val .null]) rfl k))) ?_
              show own_Go _ _ _ _ T5007 (mkF m 162 #[.val (.long jp0), .second, .val (.long jp1), .second, .val (.int ip2), .val (.int ip3), .val (.int ip4), .val (.int ip5), .val (.long j8), .second, .val (.ref t10), .val (.int n11), .val (.int n12), .val .null, .val .null, .val .null, .val (.int (0 : Int32)), .val .null] [])
              refine own_st (fun t k => XS.iload X5007.here hx rfl (hb hby at_162) rfl (XS.iload X5007.here hx rfl (hb hby at_164) rfl (XS.icmpNo X5007.here hx rfl (hb hby at_166) rfl (feq hne).1 k))) ?_
              show own_Go _ _ _ _ T5007 (mkF m 169 #[.val (.long jp0), .second, .val (.long jp1), .second, .val (.int ip2), .val (.int ip3), .val (.int ip4), .val (.int ip5), .val (.long j8), .second, .val (.ref t10), .val (.int n11), .val (.int n12), .val .null, .val .null, .val .null, .val (.int (0 : Int32)), .val .null] [])
              refine own_st (fun t k => XS.aload X5007.here hx rfl (hb hby at_169) rfl rfl (XS.iload X5007.here hx rfl (hb hby at_171) rfl k)) ?_
              have f5009 := (f5006.keep Kq5007 nin0)
              have f5011 := (f5008.keep Kq5007)
              refine own_cV (a := t10) X5007 hx hZ hown (own_w hw 76 rfl) (own_w hw 77 rfl) (own_w hw 79 rfl) (own_w hw 78 rfl) (own_w hw 2 rfl) (own_w hw 80 rfl) [(.int n11)] [] f5011 (own_rm14_89 l Z a0 hw [] t10 n11 T5007.heap n0 Z5007 f5009) 0 (hb hby at_173) (by rw [hml]; rfl) (lenOf own_pd7 rfl) rfl rfl rfl (by show 2 * 0 + _ ≤ _; exact Nat.le_of_eq rfl) (by decide) (by decide) (by decide) (by decide) (by decide) fun v5010 T5010 L5010 X5010 hQ5010 => ?_
              obtain ⟨N5010q, Kq5010, hL5010⟩ := hQ5010
              have N5010 := Fr.app N5007 N5010q
              have K5010 : Keep h0 T5010.heap [t10] := K5007.trans Kq5010 all0
              have Z5010 := Nat.le_trans Z5007 Kq5010.1
              rcases hL5010 with ⟨rfl, -⟩
              · skip
                show own_Go _ _ _ _ T5010 (mkF m 176 #[.val (.long jp0), .second, .val (.long jp1), .second, .val (.int ip2), .val (.int ip3), .val (.int ip4), .val (.int ip5), .val (.long j8), .second, .val (.ref t10), .val (.int n11), .val (.int n12), .val .null, .val .null, .val .null, .val (.int (0 : Int32)), .val .null] [.null])
                refine own_st (fun t k => XS.aload X5010.here hx rfl (hb hby at_176) rfl rfl (Jvm.RoadKit.acmp (g := (mkF m 178 #[.val (.long jp0), .second, .val (.long jp1), .second, .val (.int ip2), .val (.int ip3), .val (.int ip4), .val (.int ip5), .val (.long j8), .second, .val (.ref t10), .val (.int n11), .val (.int n12), .val .null, .val .null, .val .null, .val (.int (0 : Int32)), .val .null] [.null, .null])) X5010 hx rfl rfl rfl (pc0 := 178) (pc' := 181) (same := true) rfl (hb hby at_178) rfl (decide_eq_true rfl) (by decide) (by decide) (XS.aload X5010.here hx rfl (hb hby at_181) rfl rfl k))) ?_
                show own_Go _ _ _ _ T5010 (mkF m 183 #[.val (.long jp0), .second, .val (.long jp1), .second, .val (.int ip2), .val (.int ip3), .val (.int ip4), .val (.int ip5), .val (.long j8), .second, .val (.ref t10), .val (.int n11), .val (.int n12), .val .null, .val .null, .val .null, .val (.int (0 : Int32)), .val .null] [(.ref t10)])
                refine own_st (fun t k => XS.iload X5010.here hx rfl (hb hby at_183) rfl k) ?_
                have f5012 := (f5009.keep Kq5010 nin0)
                have f5014 := (f5011.keep Kq5010)
                refine own_cV (a := t10) X5010 hx hZ hown (own_w hw 76 rfl) (own_w hw 77 rfl) (own_w hw 79 rfl) (own_w hw 78 rfl) (own_w hw 2 rfl) (own_w hw 80 rfl) [(.int n12)] [] f5014 (own_rm14_90 l Z a0 hw [] t10 n12 T5010.heap n0 Z5010 f5012) 0 (hb hby at_185) (by rw [hml]; rfl) (lenOf own_pd7 rfl) rfl rfl rfl (by show 2 * 0 + _ ≤ _; exact Nat.le_of_eq rfl) (by decide) (by decide) (by decide) (by decide) (by decide) fun v5013 T5013 L5013 X5013 hQ5013 => ?_
                obtain ⟨N5013q, Kq5013, hL5013⟩ := hQ5013
                have N5013 := Fr.app N5010 N5013q
                have K5013 : Keep h0 T5013.heap [t10] := K5010.trans Kq5013 all0
                have Z5013 := Nat.le_trans Z5010 Kq5013.1
                rcases hL5013 with ⟨rfl, -⟩
                · skip
                  refine own_st (fun t k => XS.aload X5013.here hx rfl (hb hby at_188) rfl rfl k) ?_
                  show own_Go _ _ _ _ T5013 (mkF m 190 #[.val (.long jp0), .second, .val (.long jp1), .second, .val (.int ip2), .val (.int ip3), .val (.int ip4), .val (.int ip5), .val (.long j8), .second, .val (.ref t10), .val (.int n11), .val (.int n12), .val .null, .val .null, .val .null, .val (.int (0 : Int32)), .val .null] [.null, .null])
                  refine own_st (fun t k => Jvm.RoadKit.acmp (g := (mkF m 190 #[.val (.long jp0), .second, .val (.long jp1), .second, .val (.int ip2), .val (.int ip3), .val (.int ip4), .val (.int ip5), .val (.long j8), .second, .val (.ref t10), .val (.int n11), .val (.int n12), .val .null, .val .null, .val .null, .val (.int (0 : Int32)), .val .null] [.null, .null])) X5013 hx rfl rfl rfl (pc0 := 190) (pc' := 193) (same := true) rfl (hb hby at_190) rfl (decide_eq_true rfl) (by decide) (by decide) (XS.iconst X5013.here hx rfl (hb hby at_193) (XS.goto X5013.here hx rfl (pc0 := 194) (pc' := 198) rfl (hb hby at_194) (by decide) (by decide) k))) ?_
                  show own_Go _ _ _ _ T5013 (mkF m 198 #[.val (.long jp0), .second, .val (.long jp1), .second, .val (.int ip2), .val (.int ip3), .val (.int ip4), .val (.int ip5), .val (.long j8), .second, .val (.ref t10), .val (.int n11), .val (.int n12), .val .null, .val .null, .val .null, .val (.int (0 : Int32)), .val .null] [(.int (1 : Int32))])
                  exact own_retZ X5013 hx hlk (t := .boolean) hret (by simp) (hb hby at_198) (by decide) (by decide) rfl ⟨rfl, N5013⟩
        · skip
          refine own_st (fun t k => XS.ifNo X0.here hx rfl (hb hby at_106) rfl ((if0 _ _).trans (feq hc5004).1) (XS.iconst X0.here hx rfl (hb hby at_109) (XS.goto X0.here hx rfl (pc0 := 110) (pc' := 114) rfl (hb hby at_110) (by decide) (by decide) k))) ?_
          show own_Go _ _ _ _ T0 (mkF m 114 #[.val (.long jp0), .second, .val (.long jp1), .second, .val (.int ip2), .val (.int ip3), .val (.int ip4), .val (.int ip5), .val (.long j8), .second, .val (.ref t10), .val (.int n11), .val (.int n12), .val .null, .val .null, .val .null, .unset, .unset] [(.int (1 : Int32))])
          refine own_st (fun t k => XS.istore X0.here hx rfl (hb hby at_114) rfl (l' := #[.val (.long jp0), .second, .val (.long jp1), .second, .val (.int ip2), .val (.int ip3), .val (.int ip4), .val (.int ip5), .val (.long j8), .second, .val (.ref t10), .val (.int n11), .val (.int n12), .val .null, .val .null, .val .null, .val (.int (1 : Int32)), .unset]) rfl (XS.aload X0.here hx rfl (hb hby at_116) rfl rfl (XS.iload X0.here hx rfl (hb hby at_118) rfl k))) ?_
          show own_Go _ _ _ _ T0 (mkF m 120 #[.val (.long jp0), .second, .val (.long jp1), .second, .val (.int ip2), .val (.int ip3), .val (.int ip4), .val (.int ip5), .val (.long j8), .second, .val (.ref t10), .val (.int n11), .val (.int n12), .val .null, .val .null, .val .null, .val (.int (1 : Int32)), .unset] [(.int n11), (.ref t10)])
          refine own_st (fun t k => XS.aload X0.here hx rfl (hb hby at_120) rfl rfl k) ?_
          refine own_cV (a := t10) X0 hx hZ hown (own_w hw 68 rfl) (own_w hw 69 rfl) (own_w hw 71 rfl) (own_w hw 70 rfl) (own_w hw 2 rfl) (own_w hw 72 rfl) [(.int n11), .null] [] P0 (own_rm13_87 l Z a0 hw [] t10 n11 h0 n0 Z0 P1) 0 (hb hby at_122) (by rw [hml]; rfl) (lenOf own_pd6 rfl) e0 rfl rfl (by show 2 * 0 + _ ≤ _; exact Nat.le_of_eq rfl) (by decide) (by decide) (by decide) (by decide) (by decide) fun v5015 T5015 L5015 X5015 hQ5015 => ?_
          obtain ⟨N5015q, Kq5015, hL5015⟩ := hQ5015
          have N5015 := Fr.app N0 N5015q
          have K5015 : Keep h0 T5015.heap [t10] := (Keep.refl h0 [t10]).trans Kq5015 all0
          have Z5015 := Nat.le_trans Z0 Kq5015.1
          rcases hL5015 with ⟨rfl, -⟩
          · skip
            refine own_st (fun t k => XS.aload X5015.here hx rfl (hb hby at_125) rfl rfl k) ?_
            show own_Go _ _ _ _ T5015 (mkF m 127 #[.val (.long jp0), .second, .val (.long jp1), .second, .val (.int ip2), .val (.int ip3), .val (.int ip4), .val (.int ip5), .val (.long j8), .second, .val (.ref t10), .val (.int n11), .val (.int n12), .val .null, .val .null, .val .null, .val (.int (1 : Int32)), .unset] [(.ref t10)])
            refine own_st (fun t k => XS.iload X5015.here hx rfl (hb hby at_127) rfl (XS.aload X5015.here hx rfl (hb hby at_129) rfl rfl k)) ?_
            have f5016 := (P1.keep Kq5015 nin0)
            have f5018 := (P0.keep Kq5015)
            refine own_cV (a := t10) X5015 hx hZ hown (own_w hw 68 rfl) (own_w hw 69 rfl) (own_w hw 71 rfl) (own_w hw 70 rfl) (own_w hw 2 rfl) (own_w hw 72 rfl) [(.int n12), .null] [] f5018 (own_rm13_88 l Z a0 hw [] t10 n12 T5015.heap n0 Z5015 f5016) 0 (hb hby at_131) (by rw [hml]; rfl) (lenOf own_pd6 rfl) rfl rfl rfl (by show 2 * 0 + _ ≤ _; exact Nat.le_of_eq rfl) (by decide) (by decide) (by decide) (by decide) (by decide) fun v5017 T5017 L5017 X5017 hQ5017 => ?_
            obtain ⟨N5017q, Kq5017, hL5017⟩ := hQ5017
            have N5017 := Fr.app N5015 N5017q
            have K5017 : Keep h0 T5017.heap [t10] := K5015.trans Kq5017 all0
            have Z5017 := Nat.le_trans Z5015 Kq5017.1
            rcases hL5017 with ⟨rfl, -⟩
            · skip
              show own_Go _ _ _ _ T5017 (mkF m 134 #[.val (.long jp0), .second, .val (.long jp1), .second, .val (.int ip2), .val (.int ip3), .val (.int ip4), .val (.int ip5), .val (.long j8), .second, .val (.ref t10), .val (.int n11), .val (.int n12), .val .null, .val .null, .val .null, .val (.int (1 : Int32)), .unset] [])
              refine own_st (fun t k => XS.iload X5017.here hx rfl (hb hby at_134) rfl (XS.ifNo X5017.here hx rfl (hb hby at_136) rfl ((if0 _ _).trans (feq (by decide : ¬ ((1 : Int32) = (0 : Int32)))).1) (XS.aload X5017.here hx rfl (hb hby at_139) rfl rfl k))) ?_
              show own_Go _ _ _ _ T5017 (mkF m 141 #[.val (.long jp0), .second, .val (.long jp1), .second, .val (.int ip2), .val (.int ip3), .val (.int ip4), .val (.int ip5), .val (.long j8), .second, .val (.ref t10), .val (.int n11), .val (.int n12), .val .null, .val .null, .val .null, .val (.int (1 : Int32)), .unset] [(.ref t10)])
              refine own_st (fun t k => XS.iload X5017.here hx rfl (hb hby at_141) rfl (XS.aload X5017.here hx rfl (hb hby at_143) rfl rfl k)) ?_
              have f5019 := (f5016.keep Kq5017 nin0)
              have f5021 := (f5018.keep Kq5017)
              refine own_cV (a := t10) X5017 hx hZ hown (own_w hw 68 rfl) (own_w hw 69 rfl) (own_w hw 71 rfl) (own_w hw 70 rfl) (own_w hw 2 rfl) (own_w hw 72 rfl) [(.int n11), .null] [] f5021 (own_rm13_87 l Z a0 hw [] t10 n11 T5017.heap n0 Z5017 f5019) 0 (hb hby at_145) (by rw [hml]; rfl) (lenOf own_pd6 rfl) rfl rfl rfl (by show 2 * 0 + _ ≤ _; exact Nat.le_of_eq rfl) (by decide) (by decide) (by decide) (by decide) (by decide) fun v5020 T5020 L5020 X5020 hQ5020 => ?_
              obtain ⟨N5020q, Kq5020, hL5020⟩ := hQ5020
              have N5020 := Fr.app N5017 N5020q
              have K5020 : Keep h0 T5020.heap [t10] := K5017.trans Kq5020 all0
              have Z5020 := Nat.le_trans Z5017 Kq5020.1
              rcases hL5020 with ⟨rfl, -⟩
              · skip
                show own_Go _ _ _ _ T5020 (mkF m 148 #[.val (.long jp0), .second, .val (.long jp1), .second, .val (.int ip2), .val (.int ip3), .val (.int ip4), .val (.int ip5), .val (.long j8), .second, .val (.ref t10), .val (.int n11), .val (.int n12), .val .null, .val .null, .val .null, .val (.int (1 : Int32)), .unset] [])
                refine own_st (fun t k => XS.iload X5020.here hx rfl (hb hby at_148) rfl (XS.ifNo X5020.here hx rfl (hb hby at_150) rfl ((if0 _ _).trans (feq (by decide : ¬ ((1 : Int32) = (0 : Int32)))).1) (XS.aload X5020.here hx rfl (hb hby at_153) rfl rfl k))) ?_
                show own_Go _ _ _ _ T5020 (mkF m 155 #[.val (.long jp0), .second, .val (.long jp1), .second, .val (.int ip2), .val (.int ip3), .val (.int ip4), .val (.int ip5), .val (.long j8), .second, .val (.ref t10), .val (.int n11), .val (.int n12), .val .null, .val .null, .val .null, .val (.int (1 : Int32)), .unset] [.null])
                refine own_st (fun t k => XS.goto X5020.here hx rfl (pc0 := 155) (pc' := 160) rfl (hb hby at_155) (by decide) (by decide) (XS.astore X5020.here hx rfl (hb hby at_160) rfl rfl (l' := #[.val (.long jp0), .second, .val (.long jp1), .second, .val (.int ip2), .val (.int ip3), .val (.int ip4), .val (.int ip5), .val (.long j8), .second, .val (.ref t10), .val (.int n11), .val (.int n12), .val .null, .val .null, .val .null, .val (.int (1 : Int32)), .val .null]) rfl (XS.iload X5020.here hx rfl (hb hby at_162) rfl k))) ?_
                show own_Go _ _ _ _ T5020 (mkF m 164 #[.val (.long jp0), .second, .val (.long jp1), .second, .val (.int ip2), .val (.int ip3), .val (.int ip4), .val (.int ip5), .val (.long j8), .second, .val (.ref t10), .val (.int n11), .val (.int n12), .val .null, .val .null, .val .null, .val (.int (1 : Int32)), .val .null] [(.int n11)])
                refine own_st (fun t k => XS.iload X5020.here hx rfl (hb hby at_164) rfl (XS.icmpNo X5020.here hx rfl (hb hby at_166) rfl (feq hne).1 (XS.aload X5020.here hx rfl (hb hby at_169) rfl rfl k))) ?_
                show own_Go _ _ _ _ T5020 (mkF m 171 #[.val (.long jp0), .second, .val (.long jp1), .second, .val (.int ip2), .val (.int ip3), .val (.int ip4), .val (.int ip5), .val (.long j8), .second, .val (.ref t10), .val (.int n11), .val (.int n12), .val .null, .val .null, .val .null, .val (.int (1 : Int32)), .val .null] [(.ref t10)])
                refine own_st (fun t k => XS.iload X5020.here hx rfl (hb hby at_171) rfl k) ?_
                have f5022 := (f5019.keep Kq5020 nin0)
                have f5024 := (f5021.keep Kq5020)
                refine own_cV (a := t10) X5020 hx hZ hown (own_w hw 76 rfl) (own_w hw 77 rfl) (own_w hw 79 rfl) (own_w hw 78 rfl) (own_w hw 2 rfl) (own_w hw 80 rfl) [(.int n11)] [] f5024 (own_rm14_89 l Z a0 hw [] t10 n11 T5020.heap n0 Z5020 f5022) 0 (hb hby at_173) (by rw [hml]; rfl) (lenOf own_pd7 rfl) rfl rfl rfl (by show 2 * 0 + _ ≤ _; exact Nat.le_of_eq rfl) (by decide) (by decide) (by decide) (by decide) (by decide) fun v5023 T5023 L5023 X5023 hQ5023 => ?_
                obtain ⟨N5023q, Kq5023, hL5023⟩ := hQ5023
                have N5023 := Fr.app N5020 N5023q
                have K5023 : Keep h0 T5023.heap [t10] := K5020.trans Kq5023 all0
                have Z5023 := Nat.le_trans Z5020 Kq5023.1
                rcases hL5023 with ⟨rfl, -⟩
                · skip
                  refine own_st (fun t k => XS.aload X5023.here hx rfl (hb hby at_176) rfl rfl k) ?_
                  show own_Go _ _ _ _ T5023 (mkF m 178 #[.val (.long jp0), .second, .val (.long jp1), .second, .val (.int ip2), .val (.int ip3), .val (.int ip4), .val (.int ip5), .val (.long j8), .second, .val (.ref t10), .val (.int n11), .val (.int n12), .val .null, .val .null, .val .null, .val (.int (1 : Int32)), .val .null] [.null, .null])
                  refine own_st (fun t k => Jvm.RoadKit.acmp (g := (mkF m 178 #[.val (.long jp0), .second, .val (.long jp1), .second, .val (.int ip2), .val (.int ip3), .val (.int ip4), .val (.int ip5), .val (.long j8), .second, .val (.ref t10), .val (.int n11), .val (.int n12), .val .null, .val .null, .val .null, .val (.int (1 : Int32)), .val .null] [.null, .null])) X5023 hx rfl rfl rfl (pc0 := 178) (pc' := 181) (same := true) rfl (hb hby at_178) rfl (decide_eq_true rfl) (by decide) (by decide) (XS.aload X5023.here hx rfl (hb hby at_181) rfl rfl (XS.iload X5023.here hx rfl (hb hby at_183) rfl k))) ?_
                  show own_Go _ _ _ _ T5023 (mkF m 185 #[.val (.long jp0), .second, .val (.long jp1), .second, .val (.int ip2), .val (.int ip3), .val (.int ip4), .val (.int ip5), .val (.long j8), .second, .val (.ref t10), .val (.int n11), .val (.int n12), .val .null, .val .null, .val .null, .val (.int (1 : Int32)), .val .null] [(.int n12), (.ref t10)])
                  have f5025 := (f5022.keep Kq5023 nin0)
                  have f5027 := (f5024.keep Kq5023)
                  refine own_cV (a := t10) X5023 hx hZ hown (own_w hw 76 rfl) (own_w hw 77 rfl) (own_w hw 79 rfl) (own_w hw 78 rfl) (own_w hw 2 rfl) (own_w hw 80 rfl) [(.int n12)] [] f5027 (own_rm14_90 l Z a0 hw [] t10 n12 T5023.heap n0 Z5023 f5025) 0 (hb hby at_185) (by rw [hml]; rfl) (lenOf own_pd7 rfl) rfl rfl rfl (by show 2 * 0 + _ ≤ _; exact Nat.le_of_eq rfl) (by decide) (by decide) (by decide) (by decide) (by decide) fun v5026 T5026 L5026 X5026 hQ5026 => ?_
                  obtain ⟨N5026q, Kq5026, hL5026⟩ := hQ5026
                  have N5026 := Fr.app N5023 N5026q
                  have K5026 : Keep h0 T5026.heap [t10] := K5023.trans Kq5026 all0
                  have Z5026 := Nat.le_trans Z5023 Kq5026.1
                  rcases hL5026 with ⟨rfl, -⟩
                  · skip
                    refine own_st (fun t k => XS.aload X5026.here hx rfl (hb hby at_188) rfl rfl (Jvm.RoadKit.acmp (g := (mkF m 190 #[.val (.long jp0), .second, .val (.long jp1), .second, .val (.int ip2), .val (.int ip3), .val (.int ip4), .val (.int ip5), .val (.long j8), .second, .val (.ref t10), .val (.int n11), .val (.int n12), .val .null, .val .null, .val .null, .val (.int (1 : Int32)), .val .null] [.null, .null])) X5026 hx rfl rfl rfl (pc0 := 190) (pc' := 193) (same := true) rfl (hb hby at_190) rfl (decide_eq_true rfl) (by decide) (by decide) k)) ?_
                    show own_Go _ _ _ _ T5026 (mkF m 193 #[.val (.long jp0), .second, .val (.long jp1), .second, .val (.int ip2), .val (.int ip3), .val (.int ip4), .val (.int ip5), .val (.long j8), .second, .val (.ref t10), .val (.int n11), .val (.int n12), .val .null, .val .null, .val .null, .val (.int (1 : Int32)), .val .null] [])
                    refine own_st (fun t k => XS.iconst X5026.here hx rfl (hb hby at_193) (XS.goto X5026.here hx rfl (pc0 := 194) (pc' := 198) rfl (hb hby at_194) (by decide) (by decide) k)) ?_
                    exact own_retZ X5026 hx hlk (t := .boolean) hret (by simp) (hb hby at_198) (by decide) (by decide) rfl ⟨rfl, N5026⟩
      · skip
        refine own_st (fun t k => XS.ifNo X0.here hx rfl (hb hby at_88) rfl ((if0 _ _).trans (feq hc5003).1) k) ?_
        show own_Go _ _ _ _ T0 (mkF m 91 #[.val (.long jp0), .second, .val (.long jp1), .second, .val (.int ip2), .val (.int ip3), .val (.int ip4), .val (.int ip5), .val (.long j8), .second, .val (.ref t10), .val (.int n11), .val (.int n12), .val .null, .val .null, .unset, .unset, .unset] [])
        refine own_st (fun t k => XS.iload X0.here hx rfl (hb hby at_91) rfl k) ?_
        refine own_cS X0 hx hZ hown (own_w hw 62 rfl) (own_w hw 63 rfl) (own_w hw 29 rfl) (own_w hw 64 rfl) [(.int ip4)] [] (own_rm12_91 l Z a0 hw [] ip4 w_cache h0 n0 Z0 P5 P4 P6) 0 (hb hby at_93) (by rw [hml]; rfl) (lenOf own_pd9 rfl) e0 rfl rfl (by show 2 * 0 + _ ≤ _; exact Nat.le_of_eq rfl) (by decide) (by decide) (by decide) (by decide) (by decide) fun v5028 T5028 L5028 X5028 hQ5028 => ?_
        obtain ⟨N5028q, Kq5028, hL5028⟩ := hQ5028
        have N5028 := Fr.app N0 N5028q
        have K5028 : Keep h0 T5028.heap [t10] := (Keep.refl h0 [t10]).trans Kq5028 all0
        have Z5028 := Nat.le_trans Z0 Kq5028.1
        rcases hL5028 with ⟨gxc5028, rfl, Fc5028_0_0, -⟩
        · skip
          refine own_st (fun t k => XS.goto X5028.here hx rfl (pc0 := 96) (pc' := 100) rfl (hb hby at_96) (by decide) (by decide) k) ?_
          show own_Go _ _ _ _ T5028 (mkF m 100 #[.val (.long jp0), .second, .val (.long jp1), .second, .val (.int ip2), .val (.int ip3), .val (.int ip4), .val (.int ip5), .val (.long j8), .second, .val (.ref t10), .val (.int n11), .val (.int n12), .val .null, .val .null, .unset, .unset, .unset] [(.ref gxc5028)])
          refine own_st (fun t k => XS.astore X5028.here hx rfl (hb hby at_100) rfl rfl (l' := #[.val (.long jp0), .second, .val (.long jp1), .second, .val (.int ip2), .val (.int ip3), .val (.int ip4), .val (.int ip5), .val (.long j8), .second, .val (.ref t10), .val (.int n11), .val (.int n12), .val .null, .val .null, .val (.ref gxc5028), .unset, .unset]) rfl (XS.iload X5028.here hx rfl (hb hby at_102) rfl (XS.iconst X5028.here hx rfl (hb hby at_104) k))) ?_
          show own_Go _ _ _ _ T5028 (mkF m 105 #[.val (.long jp0), .second, .val (.long jp1), .second, .val (.int ip2), .val (.int ip3), .val (.int ip4), .val (.int ip5), .val (.long j8), .second, .val (.ref t10), .val (.int n11), .val (.int n12), .val .null, .val .null, .val (.ref gxc5028), .unset, .unset] [(.int (4 : Int32)), (.int ip5)])
          refine own_st (fun t k => XS.iand X5028.here hx rfl (hb hby at_105) rfl k) ?_
          by_cases hc5029 : (ip5 &&& (4 : Int32)) = (0 : Int32)
          · skip
            refine own_st (fun t k => XS.ifYes X5028.here hx rfl (pc0 := 106) (pc' := 113) rfl (hb hby at_106) rfl ((if0 _ _).trans (teq hc5029).1) (by decide) (by decide) (XS.iconst X5028.here hx rfl (hb hby at_113) k)) ?_
            show own_Go _ _ _ _ T5028 (mkF m 114 #[.val (.long jp0), .second, .val (.long jp1), .second, .val (.int ip2), .val (.int ip3), .val (.int ip4), .val (.int ip5), .val (.long j8), .second, .val (.ref t10), .val (.int n11), .val (.int n12), .val .null, .val .null, .val (.ref gxc5028), .unset, .unset] [(.int (0 : Int32))])
            refine own_st (fun t k => XS.istore X5028.here hx rfl (hb hby at_114) rfl (l' := #[.val (.long jp0), .second, .val (.long jp1), .second, .val (.int ip2), .val (.int ip3), .val (.int ip4), .val (.int ip5), .val (.long j8), .second, .val (.ref t10), .val (.int n11), .val (.int n12), .val .null, .val .null, .val (.ref gxc5028), .val (.int (0 : Int32)), .unset]) rfl (XS.aload X5028.here hx rfl (hb hby at_116) rfl rfl (XS.iload X5028.here hx rfl (hb hby at_118) rfl k))) ?_
            show own_Go _ _ _ _ T5028 (mkF m 120 #[.val (.long jp0), .second, .val (.long jp1), .second, .val (.int ip2), .val (.int ip3), .val (.int ip4), .val (.int ip5), .val (.long j8), .second, .val (.ref t10), .val (.int n11), .val (.int n12), .val .null, .val .null, .val (.ref gxc5028), .val (.int (0 : Int32)), .unset] [(.int n11), (.ref t10)])
            refine own_st (fun t k => XS.aload X5028.here hx rfl (hb hby at_120) rfl rfl k) ?_
            have f5030 := (P1.keep Kq5028 nin0)
            have f5032 := (P0.keep Kq5028)
            refine own_cV (a := t10) X5028 hx hZ hown (own_w hw 68 rfl) (own_w hw 69 rfl) (own_w hw 71 rfl) (own_w hw 70 rfl) (own_w hw 2 rfl) (own_w hw 72 rfl) [(.int n11), .null] [] f5032 (own_rm13_87 l Z a0 hw [] t10 n11 T5028.heap n0 Z5028 f5030) 0 (hb hby at_122) (by rw [hml]; rfl) (lenOf own_pd6 rfl) rfl rfl rfl (by show 2 * 0 + _ ≤ _; exact Nat.le_of_eq rfl) (by decide) (by decide) (by decide) (by decide) (by decide) fun v5031 T5031 L5031 X5031 hQ5031 => ?_
            obtain ⟨N5031q, Kq5031, hL5031⟩ := hQ5031
            have N5031 := Fr.app N5028 N5031q
            have K5031 : Keep h0 T5031.heap [t10] := K5028.trans Kq5031 all0
            have Z5031 := Nat.le_trans Z5028 Kq5031.1
            rcases hL5031 with ⟨rfl, -⟩
            · skip
              refine own_st (fun t k => XS.aload X5031.here hx rfl (hb hby at_125) rfl rfl k) ?_
              show own_Go _ _ _ _ T5031 (mkF m 127 #[.val (.long jp0), .second, .val (.long jp1), .second, .val (.int ip2), .val (.int ip3), .val (.int ip4), .val (.int ip5), .val (.long j8), .second, .val (.ref t10), .val (.int n11), .val (.int n12), .val .null, .val .null, .val (.ref gxc5028), .val (.int (0 : Int32)), .unset] [(.ref t10)])
              refine own_st (fun t k => XS.iload X5031.here hx rfl (hb hby at_127) rfl (XS.aload X5031.here hx rfl (hb hby at_129) rfl rfl k)) ?_
              have f5033 := (f5030.keep Kq5031 nin0)
              have f5035 := (f5032.keep Kq5031)
              refine own_cV (a := t10) X5031 hx hZ hown (own_w hw 68 rfl) (own_w hw 69 rfl) (own_w hw 71 rfl) (own_w hw 70 rfl) (own_w hw 2 rfl) (own_w hw 72 rfl) [(.int n12), .null] [] f5035 (own_rm13_88 l Z a0 hw [] t10 n12 T5031.heap n0 Z5031 f5033) 0 (hb hby at_131) (by rw [hml]; rfl) (lenOf own_pd6 rfl) rfl rfl rfl (by show 2 * 0 + _ ≤ _; exact Nat.le_of_eq rfl) (by decide) (by decide) (by decide) (by decide) (by decide) fun v5034 T5034 L5034 X5034 hQ5034 => ?_
              obtain ⟨N5034q, Kq5034, hL5034⟩ := hQ5034
              have N5034 := Fr.app N5031 N5034q
              have K5034 : Keep h0 T5034.heap [t10] := K5031.trans Kq5034 all0
              have Z5034 := Nat.le_trans Z5031 Kq5034.1
              rcases hL5034 with ⟨rfl, -⟩
              · skip
                show own_Go _ _ _ _ T5034 (mkF m 134 #[.val (.long jp0), .second, .val (.long jp1), .second, .val (.int ip2), .val (.int ip3), .val (.int ip4), .val (.int ip5), .val (.long j8), .second, .val (.ref t10), .val (.int n11), .val (.int n12), .val .null, .val .null, .val (.ref gxc5028), .val (.int (0 : Int32)), .unset] [])
                refine own_st (fun t k => XS.iload X5034.here hx rfl (hb hby at_134) rfl (XS.ifYes X5034.here hx rfl (pc0 := 136) (pc' := 148) rfl (hb hby at_136) rfl ((if0 _ _).trans (teq (by decide : (0 : Int32) = (0 : Int32))).1) (by decide) (by decide) (XS.iload X5034.here hx rfl (hb hby at_148) rfl k))) ?_
                show own_Go _ _ _ _ T5034 (mkF m 150 #[.val (.long jp0), .second, .val (.long jp1), .second, .val (.int ip2), .val (.int ip3), .val (.int ip4), .val (.int ip5), .val (.long j8), .second, .val (.ref t10), .val (.int n11), .val (.int n12), .val .null, .val .null, .val (.ref gxc5028), .val (.int (0 : Int32)), .unset] [(.int (0 : Int32))])
                refine own_st (fun t k => XS.ifYes X5034.here hx rfl (pc0 := 150) (pc' := 158) rfl (hb hby at_150) rfl ((if0 _ _).trans (teq (by decide : (0 : Int32) = (0 : Int32))).1) (by decide) (by decide) (XS.aload X5034.here hx rfl (hb hby at_158) rfl rfl (XS.astore X5034.here hx rfl (hb hby at_160) rfl rfl (l' := #[.val (.long jp0), .second, .val (.long jp1), .second, .val (.int ip2), .val (.int ip3), .val (.int ip4), .val (.int ip5), .val (.long j8), .second, .val (.ref t10), .val (.int n11), .val (.int n12), .val .null, .val .null, .val (.ref gxc5028), .val (.int (0 : Int32)), .val .null]) rfl k))) ?_
                show own_Go _ _ _ _ T5034 (mkF m 162 #[.val (.long jp0), .second, .val (.long jp1), .second, .val (.int ip2), .val (.int ip3), .val (.int ip4), .val (.int ip5), .val (.long j8), .second, .val (.ref t10), .val (.int n11), .val (.int n12), .val .null, .val .null, .val (.ref gxc5028), .val (.int (0 : Int32)), .val .null] [])
                refine own_st (fun t k => XS.iload X5034.here hx rfl (hb hby at_162) rfl (XS.iload X5034.here hx rfl (hb hby at_164) rfl (XS.icmpNo X5034.here hx rfl (hb hby at_166) rfl (feq hne).1 k))) ?_
                show own_Go _ _ _ _ T5034 (mkF m 169 #[.val (.long jp0), .second, .val (.long jp1), .second, .val (.int ip2), .val (.int ip3), .val (.int ip4), .val (.int ip5), .val (.long j8), .second, .val (.ref t10), .val (.int n11), .val (.int n12), .val .null, .val .null, .val (.ref gxc5028), .val (.int (0 : Int32)), .val .null] [])
                refine own_st (fun t k => XS.aload X5034.here hx rfl (hb hby at_169) rfl rfl (XS.iload X5034.here hx rfl (hb hby at_171) rfl k)) ?_
                have f5036 := (f5033.keep Kq5034 nin0)
                have f5038 := (f5035.keep Kq5034)
                refine own_cV (a := t10) X5034 hx hZ hown (own_w hw 76 rfl) (own_w hw 77 rfl) (own_w hw 79 rfl) (own_w hw 78 rfl) (own_w hw 2 rfl) (own_w hw 80 rfl) [(.int n11)] [] f5038 (own_rm14_89 l Z a0 hw [] t10 n11 T5034.heap n0 Z5034 f5036) 0 (hb hby at_173) (by rw [hml]; rfl) (lenOf own_pd7 rfl) rfl rfl rfl (by show 2 * 0 + _ ≤ _; exact Nat.le_of_eq rfl) (by decide) (by decide) (by decide) (by decide) (by decide) fun v5037 T5037 L5037 X5037 hQ5037 => ?_
                obtain ⟨N5037q, Kq5037, hL5037⟩ := hQ5037
                have N5037 := Fr.app N5034 N5037q
                have K5037 : Keep h0 T5037.heap [t10] := K5034.trans Kq5037 all0
                have Z5037 := Nat.le_trans Z5034 Kq5037.1
                rcases hL5037 with ⟨rfl, -⟩
                · skip
                  show own_Go _ _ _ _ T5037 (mkF m 176 #[.val (.long jp0), .second, .val (.long jp1), .second, .val (.int ip2), .val (.int ip3), .val (.int ip4), .val (.int ip5), .val (.long j8), .second, .val (.ref t10), .val (.int n11), .val (.int n12), .val .null, .val .null, .val (.ref gxc5028), .val (.int (0 : Int32)), .val .null] [.null])
                  refine own_st (fun t k => XS.aload X5037.here hx rfl (hb hby at_176) rfl rfl (Jvm.RoadKit.acmp (g := (mkF m 178 #[.val (.long jp0), .second, .val (.long jp1), .second, .val (.int ip2), .val (.int ip3), .val (.int ip4), .val (.int ip5), .val (.long j8), .second, .val (.ref t10), .val (.int n11), .val (.int n12), .val .null, .val .null, .val (.ref gxc5028), .val (.int (0 : Int32)), .val .null] [.null, .null])) X5037 hx rfl rfl rfl (pc0 := 178) (pc' := 181) (same := true) rfl (hb hby at_178) rfl (decide_eq_true rfl) (by decide) (by decide) (XS.aload X5037.here hx rfl (hb hby at_181) rfl rfl k))) ?_
                  show own_Go _ _ _ _ T5037 (mkF m 183 #[.val (.long jp0), .second, .val (.long jp1), .second, .val (.int ip2), .val (.int ip3), .val (.int ip4), .val (.int ip5), .val (.long j8), .second, .val (.ref t10), .val (.int n11), .val (.int n12), .val .null, .val .null, .val (.ref gxc5028), .val (.int (0 : Int32)), .val .null] [(.ref t10)])
                  refine own_st (fun t k => XS.iload X5037.here hx rfl (hb hby at_183) rfl k) ?_
                  have f5039 := (f5036.keep Kq5037 nin0)
                  have f5041 := (f5038.keep Kq5037)
                  refine own_cV (a := t10) X5037 hx hZ hown (own_w hw 76 rfl) (own_w hw 77 rfl) (own_w hw 79 rfl) (own_w hw 78 rfl) (own_w hw 2 rfl) (own_w hw 80 rfl) [(.int n12)] [] f5041 (own_rm14_90 l Z a0 hw [] t10 n12 T5037.heap n0 Z5037 f5039) 0 (hb hby at_185) (by rw [hml]; rfl) (lenOf own_pd7 rfl) rfl rfl rfl (by show 2 * 0 + _ ≤ _; exact Nat.le_of_eq rfl) (by decide) (by decide) (by decide) (by decide) (by decide) fun v5040 T5040 L5040 X5040 hQ5040 => ?_
                  obtain ⟨N5040q, Kq5040, hL5040⟩ := hQ5040
                  have N5040 := Fr.app N5037 N5040q
                  have K5040 : Keep h0 T5040.heap [t10] := K5037.trans Kq5040 all0
                  have Z5040 := Nat.le_trans Z5037 Kq5040.1
                  rcases hL5040 with ⟨rfl, -⟩
                  · skip
                    refine own_st (fun t k => XS.aload X5040.here hx rfl (hb hby at_188) rfl rfl k) ?_
                    show own_Go _ _ _ _ T5040 (mkF m 190 #[.val (.long jp0), .second, .val (.long jp1), .second, .val (.int ip2), .val (.int ip3), .val (.int ip4), .val (.int ip5), .val (.long j8), .second, .val (.ref t10), .val (.int n11), .val (.int n12), .val .null, .val .null, .val (.ref gxc5028), .val (.int (0 : Int32)), .val .null] [.null, .null])
                    refine own_st (fun t k => Jvm.RoadKit.acmp (g := (mkF m 190 #[.val (.long jp0), .second, .val (.long jp1), .second, .val (.int ip2), .val (.int ip3), .val (.int ip4), .val (.int ip5), .val (.long j8), .second, .val (.ref t10), .val (.int n11), .val (.int n12), .val .null, .val .null, .val (.ref gxc5028), .val (.int (0 : Int32)), .val .null] [.null, .null])) X5040 hx rfl rfl rfl (pc0 := 190) (pc' := 193) (same := true) rfl (hb hby at_190) rfl (decide_eq_true rfl) (by decide) (by decide) (XS.iconst X5040.here hx rfl (hb hby at_193) (XS.goto X5040.here hx rfl (pc0 := 194) (pc' := 198) rfl (hb hby at_194) (by decide) (by decide) k))) ?_
                    show own_Go _ _ _ _ T5040 (mkF m 198 #[.val (.long jp0), .second, .val (.long jp1), .second, .val (.int ip2), .val (.int ip3), .val (.int ip4), .val (.int ip5), .val (.long j8), .second, .val (.ref t10), .val (.int n11), .val (.int n12), .val .null, .val .null, .val (.ref gxc5028), .val (.int (0 : Int32)), .val .null] [(.int (1 : Int32))])
                    exact own_retZ X5040 hx hlk (t := .boolean) hret (by simp) (hb hby at_198) (by decide) (by decide) rfl ⟨rfl, N5040⟩
          · skip
            refine own_st (fun t k => XS.ifNo X5028.here hx rfl (hb hby at_106) rfl ((if0 _ _).trans (feq hc5029).1) (XS.iconst X5028.here hx rfl (hb hby at_109) (XS.goto X5028.here hx rfl (pc0 := 110) (pc' := 114) rfl (hb hby at_110) (by decide) (by decide) k))) ?_
            show own_Go _ _ _ _ T5028 (mkF m 114 #[.val (.long jp0), .second, .val (.long jp1), .second, .val (.int ip2), .val (.int ip3), .val (.int ip4), .val (.int ip5), .val (.long j8), .second, .val (.ref t10), .val (.int n11), .val (.int n12), .val .null, .val .null, .val (.ref gxc5028), .unset, .unset] [(.int (1 : Int32))])
            refine own_st (fun t k => XS.istore X5028.here hx rfl (hb hby at_114) rfl (l' := #[.val (.long jp0), .second, .val (.long jp1), .second, .val (.int ip2), .val (.int ip3), .val (.int ip4), .val (.int ip5), .val (.long j8), .second, .val (.ref t10), .val (.int n11), .val (.int n12), .val .null, .val .null, .val (.ref gxc5028), .val (.int (1 : Int32)), .unset]) rfl (XS.aload X5028.here hx rfl (hb hby at_116) rfl rfl (XS.iload X5028.here hx rfl (hb hby at_118) rfl k))) ?_
            show own_Go _ _ _ _ T5028 (mkF m 120 #[.val (.long jp0), .second, .val (.long jp1), .second, .val (.int ip2), .val (.int ip3), .val (.int ip4), .val (.int ip5), .val (.long j8), .second, .val (.ref t10), .val (.int n11), .val (.int n12), .val .null, .val .null, .val (.ref gxc5028), .val (.int (1 : Int32)), .unset] [(.int n11), (.ref t10)])
            refine own_st (fun t k => XS.aload X5028.here hx rfl (hb hby at_120) rfl rfl k) ?_
            have f5042 := (P1.keep Kq5028 nin0)
            have f5044 := (P0.keep Kq5028)
            refine own_cV (a := t10) X5028 hx hZ hown (own_w hw 68 rfl) (own_w hw 69 rfl) (own_w hw 71 rfl) (own_w hw 70 rfl) (own_w hw 2 rfl) (own_w hw 72 rfl) [(.int n11), .null] [] f5044 (own_rm13_87 l Z a0 hw [] t10 n11 T5028.heap n0 Z5028 f5042) 0 (hb hby at_122) (by rw [hml]; rfl) (lenOf own_pd6 rfl) rfl rfl rfl (by show 2 * 0 + _ ≤ _; exact Nat.le_of_eq rfl) (by decide) (by decide) (by decide) (by decide) (by decide) fun v5043 T5043 L5043 X5043 hQ5043 => ?_
            obtain ⟨N5043q, Kq5043, hL5043⟩ := hQ5043
            have N5043 := Fr.app N5028 N5043q
            have K5043 : Keep h0 T5043.heap [t10] := K5028.trans Kq5043 all0
            have Z5043 := Nat.le_trans Z5028 Kq5043.1
            rcases hL5043 with ⟨rfl, -⟩
            · skip
              refine own_st (fun t k => XS.aload X5043.here hx rfl (hb hby at_125) rfl rfl k) ?_
              show own_Go _ _ _ _ T5043 (mkF m 127 #[.val (.long jp0), .second, .val (.long jp1), .second, .val (.int ip2), .val (.int ip3), .val (.int ip4), .val (.int ip5), .val (.long j8), .second, .val (.ref t10), .val (.int n11), .val (.int n12), .val .null, .val .null, .val (.ref gxc5028), .val (.int (1 : Int32)), .unset] [(.ref t10)])
              refine own_st (fun t k => XS.iload X5043.here hx rfl (hb hby at_127) rfl (XS.aload X5043.here hx rfl (hb hby at_129) rfl rfl k)) ?_
              have f5045 := (f5042.keep Kq5043 nin0)
              have f5047 := (f5044.keep Kq5043)
              refine own_cV (a := t10) X5043 hx hZ hown (own_w hw 68 rfl) (own_w hw 69 rfl) (own_w hw 71 rfl) (own_w hw 70 rfl) (own_w hw 2 rfl) (own_w hw 72 rfl) [(.int n12), .null] [] f5047 (own_rm13_88 l Z a0 hw [] t10 n12 T5043.heap n0 Z5043 f5045) 0 (hb hby at_131) (by rw [hml]; rfl) (lenOf own_pd6 rfl) rfl rfl rfl (by show 2 * 0 + _ ≤ _; exact Nat.le_of_eq rfl) (by decide) (by decide) (by decide) (by decide) (by decide) fun v5046 T5046 L5046 X5046 hQ5046 => ?_
              obtain ⟨N5046q, Kq5046, hL5046⟩ := hQ5046
              have N5046 := Fr.app N5043 N5046q
              have K5046 : Keep h0 T5046.heap [t10] := K5043.trans Kq5046 all0
              have Z5046 := Nat.le_trans Z5043 Kq5046.1
              rcases hL5046 with ⟨rfl, -⟩
              · skip
                show own_Go _ _ _ _ T5046 (mkF m 134 #[.val (.long jp0), .second, .val (.long jp1), .second, .val (.int ip2), .val (.int ip3), .val (.int ip4), .val (.int ip5), .val (.long j8), .second, .val (.ref t10), .val (.int n11), .val (.int n12), .val .null, .val .null, .val (.ref gxc5028), .val (.int (1 : Int32)), .unset] [])
                refine own_st (fun t k => XS.iload X5046.here hx rfl (hb hby at_134) rfl (XS.ifNo X5046.here hx rfl (hb hby at_136) rfl ((if0 _ _).trans (feq (by decide : ¬ ((1 : Int32) = (0 : Int32)))).1) (XS.aload X5046.here hx rfl (hb hby at_139) rfl rfl k))) ?_
                show own_Go _ _ _ _ T5046 (mkF m 141 #[.val (.long jp0), .second, .val (.long jp1), .second, .val (.int ip2), .val (.int ip3), .val (.int ip4), .val (.int ip5), .val (.long j8), .second, .val (.ref t10), .val (.int n11), .val (.int n12), .val .null, .val .null, .val (.ref gxc5028), .val (.int (1 : Int32)), .unset] [(.ref t10)])
                refine own_st (fun t k => XS.iload X5046.here hx rfl (hb hby at_141) rfl (XS.aload X5046.here hx rfl (hb hby at_143) rfl rfl k)) ?_
                have f5048 := (f5045.keep Kq5046 nin0)
                have f5049 := (((P2.keep Kq5028 nin0).keep Kq5043 nin0).keep Kq5046 nin0)
                have f5050 := (P3.keep K5046 (ninS (Ne.symm (own_neA P0 (own_w hw 1 rfl) P3)) nin0))
                have f5051 := (f5047.keep Kq5046)
                have f5052 := ((Fc5028_0_0.keep Kq5043).keep Kq5046)
                refine own_cV (a := t10) X5046 hx hZ hown (own_w hw 68 rfl) (own_w hw 69 rfl) (own_w hw 71 rfl) (own_w hw 70 rfl) (own_w hw 2 rfl) (own_w hw 72 rfl) [(.int n11), (.ref gxc5028)] [] f5051 (own_rm13_97 l Z a0 hw [] t10 n11 gxc5028 u10 T5046.heap n0 Z5046 f5048 f5049 f5050 f5051 g_t10 hr11 f5052) 0 (hb hby at_145) (by rw [hml]; rfl) (lenOf own_pd6 rfl) rfl rfl rfl (by show 2 * 0 + _ ≤ _; exact Nat.le_of_eq rfl) (by decide) (by decide) (by decide) (by decide) (by decide) fun v5053 T5053 L5053 X5053 hQ5053 => ?_
                obtain ⟨N5053q, Kq5053, hL5053⟩ := hQ5053
                have N5053 := Fr.app N5046 N5053q
                have K5053 : Keep h0 T5053.heap [t10] := K5046.trans Kq5053 (allS (Or.inl (List.mem_of_getElem? (i := 0) rfl)) all0)
                have Z5053 := Nat.le_trans Z5046 Kq5053.1
                rcases hL5053 with ⟨b3x13_97c5053, k3x13_97c5053, rfl, sq_b3x13_97c5053, Fc5053_0_0, Fc5053_0_1, Fc5053_0_2, OFc5053_0_2, Fc5053_0_3, -⟩
                · skip
                  have g_b3x13_97c5053 : n0 ≤ b3x13_97c5053 := Nat.le_trans Z5046 sq_b3x13_97c5053
                  have sz_b3x13_97c5053 : h0.size ≤ b3x13_97c5053 := Nat.le_trans K5046.1 sq_b3x13_97c5053
                  show own_Go _ _ _ _ T5053 (mkF m 148 #[.val (.long jp0), .second, .val (.long jp1), .second, .val (.int ip2), .val (.int ip3), .val (.int ip4), .val (.int ip5), .val (.long j8), .second, .val (.ref t10), .val (.int n11), .val (.int n12), .val .null, .val .null, .val (.ref gxc5028), .val (.int (1 : Int32)), .unset] [])
                  refine own_st (fun t k => XS.iload X5053.here hx rfl (hb hby at_148) rfl (XS.ifNo X5053.here hx rfl (hb hby at_150) rfl ((if0 _ _).trans (feq (by decide : ¬ ((1 : Int32) = (0 : Int32)))).1) (XS.aload X5053.here hx rfl (hb hby at_153) rfl rfl k))) ?_
                  show own_Go _ _ _ _ T5053 (mkF m 155 #[.val (.long jp0), .second, .val (.long jp1), .second, .val (.int ip2), .val (.int ip3), .val (.int ip4), .val (.int ip5), .val (.long j8), .second, .val (.ref t10), .val (.int n11), .val (.int n12), .val .null, .val .null, .val (.ref gxc5028), .val (.int (1 : Int32)), .unset] [(.ref gxc5028)])
                  refine own_st (fun t k => XS.goto X5053.here hx rfl (pc0 := 155) (pc' := 160) rfl (hb hby at_155) (by decide) (by decide) (XS.astore X5053.here hx rfl (hb hby at_160) rfl rfl (l' := #[.val (.long jp0), .second, .val (.long jp1), .second, .val (.int ip2), .val (.int ip3), .val (.int ip4), .val (.int ip5), .val (.long j8), .second, .val (.ref t10), .val (.int n11), .val (.int n12), .val .null, .val .null, .val (.ref gxc5028), .val (.int (1 : Int32)), .val (.ref gxc5028)]) rfl (XS.iload X5053.here hx rfl (hb hby at_162) rfl k))) ?_
                  show own_Go _ _ _ _ T5053 (mkF m 164 #[.val (.long jp0), .second, .val (.long jp1), .second, .val (.int ip2), .val (.int ip3), .val (.int ip4), .val (.int ip5), .val (.long j8), .second, .val (.ref t10), .val (.int n11), .val (.int n12), .val .null, .val .null, .val (.ref gxc5028), .val (.int (1 : Int32)), .val (.ref gxc5028)] [(.int n11)])
                  refine own_st (fun t k => XS.iload X5053.here hx rfl (hb hby at_164) rfl (XS.icmpNo X5053.here hx rfl (hb hby at_166) rfl (feq hne).1 (XS.aload X5053.here hx rfl (hb hby at_169) rfl rfl k))) ?_
                  show own_Go _ _ _ _ T5053 (mkF m 171 #[.val (.long jp0), .second, .val (.long jp1), .second, .val (.int ip2), .val (.int ip3), .val (.int ip4), .val (.int ip5), .val (.long j8), .second, .val (.ref t10), .val (.int n11), .val (.int n12), .val .null, .val .null, .val (.ref gxc5028), .val (.int (1 : Int32)), .val (.ref gxc5028)] [(.ref t10)])
                  refine own_st (fun t k => XS.iload X5053.here hx rfl (hb hby at_171) rfl k) ?_
                  have f5055 := (f5051.keep Kq5053)
                  refine own_cV (a := t10) X5053 hx hZ hown (own_w hw 76 rfl) (own_w hw 77 rfl) (own_w hw 79 rfl) (own_w hw 78 rfl) (own_w hw 2 rfl) (own_w hw 80 rfl) [(.int n11)] [] f5055 (own_rm14_98 l Z a0 hw [] t10 n11 b3x13_97c5053 k3x13_97c5053 gxc5028 T5053.heap n0 Z5053 Fc5053_0_0 Fc5053_0_2 OFc5053_0_2 hr11) 0 (hb hby at_173) (by rw [hml]; rfl) (lenOf own_pd7 rfl) rfl rfl rfl (by show 2 * 0 + _ ≤ _; exact Nat.le_of_eq rfl) (by decide) (by decide) (by decide) (by decide) (by decide) fun v5054 T5054 L5054 X5054 hQ5054 => ?_
                  obtain ⟨N5054q, Kq5054, hL5054⟩ := hQ5054
                  have N5054 := Fr.app N5053 N5054q
                  have K5054 : Keep h0 T5054.heap [t10] := K5053.trans Kq5054 all0
                  have Z5054 := Nat.le_trans Z5053 Kq5054.1
                  rcases hL5054 with ⟨rfl, -⟩
                  · skip
                    refine own_st (fun t k => XS.aload X5054.here hx rfl (hb hby at_176) rfl rfl k) ?_
                    show own_Go _ _ _ _ T5054 (mkF m 178 #[.val (.long jp0), .second, .val (.long jp1), .second, .val (.int ip2), .val (.int ip3), .val (.int ip4), .val (.int ip5), .val (.long j8), .second, .val (.ref t10), .val (.int n11), .val (.int n12), .val .null, .val .null, .val (.ref gxc5028), .val (.int (1 : Int32)), .val (.ref gxc5028)] [(.ref gxc5028), (.ref gxc5028)])
                    refine own_st (fun t k => Jvm.RoadKit.acmp (g := (mkF m 178 #[.val (.long jp0), .second, .val (.long jp1), .second, .val (.int ip2), .val (.int ip3), .val (.int ip4), .val (.int ip5), .val (.long j8), .second, .val (.ref t10), .val (.int n11), .val (.int n12), .val .null, .val .null, .val (.ref gxc5028), .val (.int (1 : Int32)), .val (.ref gxc5028)] [(.ref gxc5028), (.ref gxc5028)])) X5054 hx rfl rfl rfl (pc0 := 178) (pc' := 181) (same := true) rfl (hb hby at_178) rfl (decide_eq_true (congrArg Value.ref (rfl : gxc5028 = gxc5028))) (by decide) (by decide) (XS.aload X5054.here hx rfl (hb hby at_181) rfl rfl (XS.iload X5054.here hx rfl (hb hby at_183) rfl k))) ?_
                    show own_Go _ _ _ _ T5054 (mkF m 185 #[.val (.long jp0), .second, .val (.long jp1), .second, .val (.int ip2), .val (.int ip3), .val (.int ip4), .val (.int ip5), .val (.long j8), .second, .val (.ref t10), .val (.int n11), .val (.int n12), .val .null, .val .null, .val (.ref gxc5028), .val (.int (1 : Int32)), .val (.ref gxc5028)] [(.int n12), (.ref t10)])
                    have f5056 := (Fc5053_0_0.keep Kq5054 nin0)
                    have f5057 := (Fc5053_0_2.keep Kq5054 nin0)
                    have f5059 := (f5055.keep Kq5054)
                    refine own_cV (a := t10) X5054 hx hZ hown (own_w hw 76 rfl) (own_w hw 77 rfl) (own_w hw 79 rfl) (own_w hw 78 rfl) (own_w hw 2 rfl) (own_w hw 80 rfl) [(.int n12)] [] f5059 (own_rm14_99 l Z a0 hw [] t10 n12 b3x13_97c5053 k3x13_97c5053 n11 gxc5028 T5054.heap n0 Z5054 f5056 f5057 OFc5053_0_2 hr12 hr11) 0 (hb hby at_185) (by rw [hml]; rfl) (lenOf own_pd7 rfl) rfl rfl rfl (by show 2 * 0 + _ ≤ _; exact Nat.le_of_eq rfl) (by decide) (by decide) (by decide) (by decide) (by decide) fun v5058 T5058 L5058 X5058 hQ5058 => ?_
                    obtain ⟨N5058q, Kq5058, hL5058⟩ := hQ5058
                    have N5058 := Fr.app N5054 N5058q
                    have K5058 : Keep h0 T5058.heap [t10] := K5054.trans Kq5058 all0
                    have Z5058 := Nat.le_trans Z5054 Kq5058.1
                    rcases hL5058 with ⟨rfl, hq5058_0_0, -⟩ | ⟨rfl, hq5058_1_0, -⟩
                    · skip
                      exact absurd hq5058_0_0 (Ne.symm hne)
                    · skip
                      refine own_st (fun t k => XS.aload X5058.here hx rfl (hb hby at_188) rfl rfl (Jvm.RoadKit.acmp (g := (mkF m 190 #[.val (.long jp0), .second, .val (.long jp1), .second, .val (.int ip2), .val (.int ip3), .val (.int ip4), .val (.int ip5), .val (.long j8), .second, .val (.ref t10), .val (.int n11), .val (.int n12), .val .null, .val .null, .val (.ref gxc5028), .val (.int (1 : Int32)), .val (.ref gxc5028)] [.null, .null])) X5058 hx rfl rfl rfl (pc0 := 190) (pc' := 193) (same := true) rfl (hb hby at_190) rfl (decide_eq_true rfl) (by decide) (by decide) k)) ?_
                      show own_Go _ _ _ _ T5058 (mkF m 193 #[.val (.long jp0), .second, .val (.long jp1), .second, .val (.int ip2), .val (.int ip3), .val (.int ip4), .val (.int ip5), .val (.long j8), .second, .val (.ref t10), .val (.int n11), .val (.int n12), .val .null, .val .null, .val (.ref gxc5028), .val (.int (1 : Int32)), .val (.ref gxc5028)] [])
                      refine own_st (fun t k => XS.iconst X5058.here hx rfl (hb hby at_193) (XS.goto X5058.here hx rfl (pc0 := 194) (pc' := 198) rfl (hb hby at_194) (by decide) (by decide) k)) ?_
                      exact own_retZ X5058 hx hlk (t := .boolean) hret (by simp) (hb hby at_198) (by decide) (by decide) rfl ⟨rfl, N5058⟩
    · skip
      refine own_st (fun t k => XS.ifNo X0.here hx rfl (hb hby at_69) rfl ((if0 _ _).trans (feq hc5002).1) k) ?_
      show own_Go _ _ _ _ T0 (mkF m 72 #[.val (.long jp0), .second, .val (.long jp1), .second, .val (.int ip2), .val (.int ip3), .val (.int ip4), .val (.int ip5), .val (.long j8), .second, .val (.ref t10), .val (.int n11), .val (.int n12), .val .null, .unset, .unset, .unset, .unset] [])
      refine own_st (fun t k => XS.iload X0.here hx rfl (hb hby at_72) rfl k) ?_
      refine own_cS X0 hx hZ hown (own_w hw 62 rfl) (own_w hw 63 rfl) (own_w hw 29 rfl) (own_w hw 64 rfl) [(.int ip3)] [] (own_rm12_91 l Z a0 hw [] ip3 w_cache h0 n0 Z0 P5 P4 P6) 0 (hb hby at_74) (by rw [hml]; rfl) (lenOf own_pd9 rfl) e0 rfl rfl (by show 2 * 0 + _ ≤ _; exact Nat.le_of_eq rfl) (by decide) (by decide) (by decide) (by decide) (by decide) fun v5060 T5060 L5060 X5060 hQ5060 => ?_
      obtain ⟨N5060q, Kq5060, hL5060⟩ := hQ5060
      have N5060 := Fr.app N0 N5060q
      have K5060 : Keep h0 T5060.heap [t10] := (Keep.refl h0 [t10]).trans Kq5060 all0
      have Z5060 := Nat.le_trans Z0 Kq5060.1
      rcases hL5060 with ⟨gxc5060, rfl, Fc5060_0_0, -⟩
      · skip
        refine own_st (fun t k => XS.goto X5060.here hx rfl (pc0 := 77) (pc' := 81) rfl (hb hby at_77) (by decide) (by decide) k) ?_
        show own_Go _ _ _ _ T5060 (mkF m 81 #[.val (.long jp0), .second, .val (.long jp1), .second, .val (.int ip2), .val (.int ip3), .val (.int ip4), .val (.int ip5), .val (.long j8), .second, .val (.ref t10), .val (.int n11), .val (.int n12), .val .null, .unset, .unset, .unset, .unset] [(.ref gxc5060)])
        refine own_st (fun t k => XS.astore X5060.here hx rfl (hb hby at_81) rfl rfl (l' := #[.val (.long jp0), .second, .val (.long jp1), .second, .val (.int ip2), .val (.int ip3), .val (.int ip4), .val (.int ip5), .val (.long j8), .second, .val (.ref t10), .val (.int n11), .val (.int n12), .val .null, .val (.ref gxc5060), .unset, .unset, .unset]) rfl (XS.iload X5060.here hx rfl (hb hby at_83) rfl (XS.bipush X5060.here hx rfl (hb hby at_85) k))) ?_
        show own_Go _ _ _ _ T5060 (mkF m 87 #[.val (.long jp0), .second, .val (.long jp1), .second, .val (.int ip2), .val (.int ip3), .val (.int ip4), .val (.int ip5), .val (.long j8), .second, .val (.ref t10), .val (.int n11), .val (.int n12), .val .null, .val (.ref gxc5060), .unset, .unset, .unset] [(.int (8 : Int32)), (.int ip5)])
        refine own_st (fun t k => XS.iand X5060.here hx rfl (hb hby at_87) rfl k) ?_
        by_cases hc5061 : (ip5 &&& (8 : Int32)) = (0 : Int32)
        · skip
          refine own_st (fun t k => XS.ifYes X5060.here hx rfl (pc0 := 88) (pc' := 99) rfl (hb hby at_88) rfl ((if0 _ _).trans (teq hc5061).1) (by decide) (by decide) (XS.aconstNull X5060.here hx rfl (hb hby at_99) k)) ?_
          show own_Go _ _ _ _ T5060 (mkF m 100 #[.val (.long jp0), .second, .val (.long jp1), .second, .val (.int ip2), .val (.int ip3), .val (.int ip4), .val (.int ip5), .val (.long j8), .second, .val (.ref t10), .val (.int n11), .val (.int n12), .val .null, .val (.ref gxc5060), .unset, .unset, .unset] [.null])
          refine own_st (fun t k => XS.astore X5060.here hx rfl (hb hby at_100) rfl rfl (l' := #[.val (.long jp0), .second, .val (.long jp1), .second, .val (.int ip2), .val (.int ip3), .val (.int ip4), .val (.int ip5), .val (.long j8), .second, .val (.ref t10), .val (.int n11), .val (.int n12), .val .null, .val (.ref gxc5060), .val .null, .unset, .unset]) rfl (XS.iload X5060.here hx rfl (hb hby at_102) rfl (XS.iconst X5060.here hx rfl (hb hby at_104) k))) ?_
          show own_Go _ _ _ _ T5060 (mkF m 105 #[.val (.long jp0), .second, .val (.long jp1), .second, .val (.int ip2), .val (.int ip3), .val (.int ip4), .val (.int ip5), .val (.long j8), .second, .val (.ref t10), .val (.int n11), .val (.int n12), .val .null, .val (.ref gxc5060), .val .null, .unset, .unset] [(.int (4 : Int32)), (.int ip5)])
          refine own_st (fun t k => XS.iand X5060.here hx rfl (hb hby at_105) rfl k) ?_
          by_cases hc5062 : (ip5 &&& (4 : Int32)) = (0 : Int32)
          · skip
            refine own_st (fun t k => XS.ifYes X5060.here hx rfl (pc0 := 106) (pc' := 113) rfl (hb hby at_106) rfl ((if0 _ _).trans (teq hc5062).1) (by decide) (by decide) (XS.iconst X5060.here hx rfl (hb hby at_113) k)) ?_
            show own_Go _ _ _ _ T5060 (mkF m 114 #[.val (.long jp0), .second, .val (.long jp1), .second, .val (.int ip2), .val (.int ip3), .val (.int ip4), .val (.int ip5), .val (.long j8), .second, .val (.ref t10), .val (.int n11), .val (.int n12), .val .null, .val (.ref gxc5060), .val .null, .unset, .unset] [(.int (0 : Int32))])
            refine own_st (fun t k => XS.istore X5060.here hx rfl (hb hby at_114) rfl (l' := #[.val (.long jp0), .second, .val (.long jp1), .second, .val (.int ip2), .val (.int ip3), .val (.int ip4), .val (.int ip5), .val (.long j8), .second, .val (.ref t10), .val (.int n11), .val (.int n12), .val .null, .val (.ref gxc5060), .val .null, .val (.int (0 : Int32)), .unset]) rfl (XS.aload X5060.here hx rfl (hb hby at_116) rfl rfl (XS.iload X5060.here hx rfl (hb hby at_118) rfl k))) ?_
            show own_Go _ _ _ _ T5060 (mkF m 120 #[.val (.long jp0), .second, .val (.long jp1), .second, .val (.int ip2), .val (.int ip3), .val (.int ip4), .val (.int ip5), .val (.long j8), .second, .val (.ref t10), .val (.int n11), .val (.int n12), .val .null, .val (.ref gxc5060), .val .null, .val (.int (0 : Int32)), .unset] [(.int n11), (.ref t10)])
            refine own_st (fun t k => XS.aload X5060.here hx rfl (hb hby at_120) rfl rfl k) ?_
            have f5063 := (P1.keep Kq5060 nin0)
            have f5065 := (P0.keep Kq5060)
            refine own_cV (a := t10) X5060 hx hZ hown (own_w hw 68 rfl) (own_w hw 69 rfl) (own_w hw 71 rfl) (own_w hw 70 rfl) (own_w hw 2 rfl) (own_w hw 72 rfl) [(.int n11), .null] [] f5065 (own_rm13_87 l Z a0 hw [] t10 n11 T5060.heap n0 Z5060 f5063) 0 (hb hby at_122) (by rw [hml]; rfl) (lenOf own_pd6 rfl) rfl rfl rfl (by show 2 * 0 + _ ≤ _; exact Nat.le_of_eq rfl) (by decide) (by decide) (by decide) (by decide) (by decide) fun v5064 T5064 L5064 X5064 hQ5064 => ?_
            obtain ⟨N5064q, Kq5064, hL5064⟩ := hQ5064
            have N5064 := Fr.app N5060 N5064q
            have K5064 : Keep h0 T5064.heap [t10] := K5060.trans Kq5064 all0
            have Z5064 := Nat.le_trans Z5060 Kq5064.1
            rcases hL5064 with ⟨rfl, -⟩
            · skip
              refine own_st (fun t k => XS.aload X5064.here hx rfl (hb hby at_125) rfl rfl k) ?_
              show own_Go _ _ _ _ T5064 (mkF m 127 #[.val (.long jp0), .second, .val (.long jp1), .second, .val (.int ip2), .val (.int ip3), .val (.int ip4), .val (.int ip5), .val (.long j8), .second, .val (.ref t10), .val (.int n11), .val (.int n12), .val .null, .val (.ref gxc5060), .val .null, .val (.int (0 : Int32)), .unset] [(.ref t10)])
              refine own_st (fun t k => XS.iload X5064.here hx rfl (hb hby at_127) rfl (XS.aload X5064.here hx rfl (hb hby at_129) rfl rfl k)) ?_
              have f5066 := (f5063.keep Kq5064 nin0)
              have f5067 := ((P2.keep Kq5060 nin0).keep Kq5064 nin0)
              have f5068 := (P3.keep K5064 (ninS (Ne.symm (own_neA P0 (own_w hw 1 rfl) P3)) nin0))
              have f5069 := (f5065.keep Kq5064)
              have f5070 := (Fc5060_0_0.keep Kq5064)
              refine own_cV (a := t10) X5064 hx hZ hown (own_w hw 68 rfl) (own_w hw 69 rfl) (own_w hw 71 rfl) (own_w hw 70 rfl) (own_w hw 2 rfl) (own_w hw 72 rfl) [(.int n12), (.ref gxc5060)] [] f5069 (own_rm13_101 l Z a0 hw [] t10 n12 gxc5060 u10 T5064.heap n0 Z5064 f5066 f5067 f5068 f5069 g_t10 hr12 f5070) 0 (hb hby at_131) (by rw [hml]; rfl) (lenOf own_pd6 rfl) rfl rfl rfl (by show 2 * 0 + _ ≤ _; exact Nat.le_of_eq rfl) (by decide) (by decide) (by decide) (by decide) (by decide) fun v5071 T5071 L5071 X5071 hQ5071 => ?_
              obtain ⟨N5071q, Kq5071, hL5071⟩ := hQ5071
              have N5071 := Fr.app N5064 N5071q
              have K5071 : Keep h0 T5071.heap [t10] := K5064.trans Kq5071 (allS (Or.inl (List.mem_of_getElem? (i := 0) rfl)) all0)
              have Z5071 := Nat.le_trans Z5064 Kq5071.1
              rcases hL5071 with ⟨b3x13_101c5071, k3x13_101c5071, rfl, sq_b3x13_101c5071, Fc5071_0_0, Fc5071_0_1, Fc5071_0_2, OFc5071_0_2, Fc5071_0_3, -⟩
              · skip
                have g_b3x13_101c5071 : n0 ≤ b3x13_101c5071 := Nat.le_trans Z5064 sq_b3x13_101c5071
                have sz_b3x13_101c5071 : h0.size ≤ b3x13_101c5071 := Nat.le_trans K5064.1 sq_b3x13_101c5071
                show own_Go _ _ _ _ T5071 (mkF m 134 #[.val (.long jp0), .second, .val (.long jp1), .second, .val (.int ip2), .val (.int ip3), .val (.int ip4), .val (.int ip5), .val (.long j8), .second, .val (.ref t10), .val (.int n11), .val (.int n12), .val .null, .val (.ref gxc5060), .val .null, .val (.int (0 : Int32)), .unset] [])
                refine own_st (fun t k => XS.iload X5071.here hx rfl (hb hby at_134) rfl (XS.ifYes X5071.here hx rfl (pc0 := 136) (pc' := 148) rfl (hb hby at_136) rfl ((if0 _ _).trans (teq (by decide : (0 : Int32) = (0 : Int32))).1) (by decide) (by decide) (XS.iload X5071.here hx rfl (hb hby at_148) rfl k))) ?_
                show own_Go _ _ _ _ T5071 (mkF m 150 #[.val (.long jp0), .second, .val (.long jp1), .second, .val (.int ip2), .val (.int ip3), .val (.int ip4), .val (.int ip5), .val (.long j8), .second, .val (.ref t10), .val (.int n11), .val (.int n12), .val .null, .val (.ref gxc5060), .val .null, .val (.int (0 : Int32)), .unset] [(.int (0 : Int32))])
                refine own_st (fun t k => XS.ifYes X5071.here hx rfl (pc0 := 150) (pc' := 158) rfl (hb hby at_150) rfl ((if0 _ _).trans (teq (by decide : (0 : Int32) = (0 : Int32))).1) (by decide) (by decide) (XS.aload X5071.here hx rfl (hb hby at_158) rfl rfl (XS.astore X5071.here hx rfl (hb hby at_160) rfl rfl (l' := #[.val (.long jp0), .second, .val (.long jp1), .second, .val (.int ip2), .val (.int ip3), .val (.int ip4), .val (.int ip5), .val (.long j8), .second, .val (.ref t10), .val (.int n11), .val (.int n12), .val .null, .val (.ref gxc5060), .val .null, .val (.int (0 : Int32)), .val .null]) rfl k))) ?_
                show own_Go _ _ _ _ T5071 (mkF m 162 #[.val (.long jp0), .second, .val (.long jp1), .second, .val (.int ip2), .val (.int ip3), .val (.int ip4), .val (.int ip5), .val (.long j8), .second, .val (.ref t10), .val (.int n11), .val (.int n12), .val .null, .val (.ref gxc5060), .val .null, .val (.int (0 : Int32)), .val .null] [])
                refine own_st (fun t k => XS.iload X5071.here hx rfl (hb hby at_162) rfl (XS.iload X5071.here hx rfl (hb hby at_164) rfl (XS.icmpNo X5071.here hx rfl (hb hby at_166) rfl (feq hne).1 k))) ?_
                show own_Go _ _ _ _ T5071 (mkF m 169 #[.val (.long jp0), .second, .val (.long jp1), .second, .val (.int ip2), .val (.int ip3), .val (.int ip4), .val (.int ip5), .val (.long j8), .second, .val (.ref t10), .val (.int n11), .val (.int n12), .val .null, .val (.ref gxc5060), .val .null, .val (.int (0 : Int32)), .val .null] [])
                refine own_st (fun t k => XS.aload X5071.here hx rfl (hb hby at_169) rfl rfl (XS.iload X5071.here hx rfl (hb hby at_171) rfl k)) ?_
                have f5073 := (f5069.keep Kq5071)
                refine own_cV (a := t10) X5071 hx hZ hown (own_w hw 76 rfl) (own_w hw 77 rfl) (own_w hw 79 rfl) (own_w hw 78 rfl) (own_w hw 2 rfl) (own_w hw 80 rfl) [(.int n11)] [] f5073 (own_rm14_102 l Z a0 hw [] t10 n11 b3x13_101c5071 k3x13_101c5071 n12 gxc5060 T5071.heap n0 Z5071 Fc5071_0_0 Fc5071_0_2 OFc5071_0_2 hr11 hr12) 0 (hb hby at_173) (by rw [hml]; rfl) (lenOf own_pd7 rfl) rfl rfl rfl (by show 2 * 0 + _ ≤ _; exact Nat.le_of_eq rfl) (by decide) (by decide) (by decide) (by decide) (by decide) fun v5072 T5072 L5072 X5072 hQ5072 => ?_
                obtain ⟨N5072q, Kq5072, hL5072⟩ := hQ5072
                have N5072 := Fr.app N5071 N5072q
                have K5072 : Keep h0 T5072.heap [t10] := K5071.trans Kq5072 all0
                have Z5072 := Nat.le_trans Z5071 Kq5072.1
                rcases hL5072 with ⟨rfl, hq5072_0_0, -⟩ | ⟨rfl, hq5072_1_0, -⟩
                · skip
                  exact absurd hq5072_0_0 hne
                · skip
                  show own_Go _ _ _ _ T5072 (mkF m 176 #[.val (.long jp0), .second, .val (.long jp1), .second, .val (.int ip2), .val (.int ip3), .val (.int ip4), .val (.int ip5), .val (.long j8), .second, .val (.ref t10), .val (.int n11), .val (.int n12), .val .null, .val (.ref gxc5060), .val .null, .val (.int (0 : Int32)), .val .null] [.null])
                  refine own_st (fun t k => XS.aload X5072.here hx rfl (hb hby at_176) rfl rfl (Jvm.RoadKit.acmp (g := (mkF m 178 #[.val (.long jp0), .second, .val (.long jp1), .second, .val (.int ip2), .val (.int ip3), .val (.int ip4), .val (.int ip5), .val (.long j8), .second, .val (.ref t10), .val (.int n11), .val (.int n12), .val .null, .val (.ref gxc5060), .val .null, .val (.int (0 : Int32)), .val .null] [.null, .null])) X5072 hx rfl rfl rfl (pc0 := 178) (pc' := 181) (same := true) rfl (hb hby at_178) rfl (decide_eq_true rfl) (by decide) (by decide) (XS.aload X5072.here hx rfl (hb hby at_181) rfl rfl k))) ?_
                  show own_Go _ _ _ _ T5072 (mkF m 183 #[.val (.long jp0), .second, .val (.long jp1), .second, .val (.int ip2), .val (.int ip3), .val (.int ip4), .val (.int ip5), .val (.long j8), .second, .val (.ref t10), .val (.int n11), .val (.int n12), .val .null, .val (.ref gxc5060), .val .null, .val (.int (0 : Int32)), .val .null] [(.ref t10)])
                  refine own_st (fun t k => XS.iload X5072.here hx rfl (hb hby at_183) rfl k) ?_
                  have f5074 := (Fc5071_0_0.keep Kq5072 nin0)
                  have f5075 := (Fc5071_0_2.keep Kq5072 nin0)
                  have f5077 := (f5073.keep Kq5072)
                  refine own_cV (a := t10) X5072 hx hZ hown (own_w hw 76 rfl) (own_w hw 77 rfl) (own_w hw 79 rfl) (own_w hw 78 rfl) (own_w hw 2 rfl) (own_w hw 80 rfl) [(.int n12)] [] f5077 (own_rm14_99 l Z a0 hw [] t10 n12 b3x13_101c5071 k3x13_101c5071 n12 gxc5060 T5072.heap n0 Z5072 f5074 f5075 OFc5071_0_2 hr12 hr12) 0 (hb hby at_185) (by rw [hml]; rfl) (lenOf own_pd7 rfl) rfl rfl rfl (by show 2 * 0 + _ ≤ _; exact Nat.le_of_eq rfl) (by decide) (by decide) (by decide) (by decide) (by decide) fun v5076 T5076 L5076 X5076 hQ5076 => ?_
                  obtain ⟨N5076q, Kq5076, hL5076⟩ := hQ5076
                  have N5076 := Fr.app N5072 N5076q
                  have K5076 : Keep h0 T5076.heap [t10] := K5072.trans Kq5076 all0
                  have Z5076 := Nat.le_trans Z5072 Kq5076.1
                  rcases hL5076 with ⟨rfl, hq5076_0_0, -⟩ | ⟨rfl, hq5076_1_0, -⟩
                  · skip
                    refine own_st (fun t k => XS.aload X5076.here hx rfl (hb hby at_188) rfl rfl k) ?_
                    show own_Go _ _ _ _ T5076 (mkF m 190 #[.val (.long jp0), .second, .val (.long jp1), .second, .val (.int ip2), .val (.int ip3), .val (.int ip4), .val (.int ip5), .val (.long j8), .second, .val (.ref t10), .val (.int n11), .val (.int n12), .val .null, .val (.ref gxc5060), .val .null, .val (.int (0 : Int32)), .val .null] [(.ref gxc5060), (.ref gxc5060)])
                    refine own_st (fun t k => Jvm.RoadKit.acmp (g := (mkF m 190 #[.val (.long jp0), .second, .val (.long jp1), .second, .val (.int ip2), .val (.int ip3), .val (.int ip4), .val (.int ip5), .val (.long j8), .second, .val (.ref t10), .val (.int n11), .val (.int n12), .val .null, .val (.ref gxc5060), .val .null, .val (.int (0 : Int32)), .val .null] [(.ref gxc5060), (.ref gxc5060)])) X5076 hx rfl rfl rfl (pc0 := 190) (pc' := 193) (same := true) rfl (hb hby at_190) rfl (decide_eq_true (congrArg Value.ref (rfl : gxc5060 = gxc5060))) (by decide) (by decide) (XS.iconst X5076.here hx rfl (hb hby at_193) (XS.goto X5076.here hx rfl (pc0 := 194) (pc' := 198) rfl (hb hby at_194) (by decide) (by decide) k))) ?_
                    show own_Go _ _ _ _ T5076 (mkF m 198 #[.val (.long jp0), .second, .val (.long jp1), .second, .val (.int ip2), .val (.int ip3), .val (.int ip4), .val (.int ip5), .val (.long j8), .second, .val (.ref t10), .val (.int n11), .val (.int n12), .val .null, .val (.ref gxc5060), .val .null, .val (.int (0 : Int32)), .val .null] [(.int (1 : Int32))])
                    exact own_retZ X5076 hx hlk (t := .boolean) hret (by simp) (hb hby at_198) (by decide) (by decide) rfl ⟨rfl, N5076⟩
                  · skip
                    exact absurd ((by decide +kernel : ∀ x ∈ own_D8, (x = x)) _ (own_m8 hr12) ) hq5076_1_0
          · skip
            refine own_st (fun t k => XS.ifNo X5060.here hx rfl (hb hby at_106) rfl ((if0 _ _).trans (feq hc5062).1) (XS.iconst X5060.here hx rfl (hb hby at_109) (XS.goto X5060.here hx rfl (pc0 := 110) (pc' := 114) rfl (hb hby at_110) (by decide) (by decide) k))) ?_
            show own_Go _ _ _ _ T5060 (mkF m 114 #[.val (.long jp0), .second, .val (.long jp1), .second, .val (.int ip2), .val (.int ip3), .val (.int ip4), .val (.int ip5), .val (.long j8), .second, .val (.ref t10), .val (.int n11), .val (.int n12), .val .null, .val (.ref gxc5060), .val .null, .unset, .unset] [(.int (1 : Int32))])
            refine own_st (fun t k => XS.istore X5060.here hx rfl (hb hby at_114) rfl (l' := #[.val (.long jp0), .second, .val (.long jp1), .second, .val (.int ip2), .val (.int ip3), .val (.int ip4), .val (.int ip5), .val (.long j8), .second, .val (.ref t10), .val (.int n11), .val (.int n12), .val .null, .val (.ref gxc5060), .val .null, .val (.int (1 : Int32)), .unset]) rfl (XS.aload X5060.here hx rfl (hb hby at_116) rfl rfl (XS.iload X5060.here hx rfl (hb hby at_118) rfl k))) ?_
            show own_Go _ _ _ _ T5060 (mkF m 120 #[.val (.long jp0), .second, .val (.long jp1), .second, .val (.int ip2), .val (.int ip3), .val (.int ip4), .val (.int ip5), .val (.long j8), .second, .val (.ref t10), .val (.int n11), .val (.int n12), .val .null, .val (.ref gxc5060), .val .null, .val (.int (1 : Int32)), .unset] [(.int n11), (.ref t10)])
            refine own_st (fun t k => XS.aload X5060.here hx rfl (hb hby at_120) rfl rfl k) ?_
            have f5078 := (P1.keep Kq5060 nin0)
            have f5080 := (P0.keep Kq5060)
            refine own_cV (a := t10) X5060 hx hZ hown (own_w hw 68 rfl) (own_w hw 69 rfl) (own_w hw 71 rfl) (own_w hw 70 rfl) (own_w hw 2 rfl) (own_w hw 72 rfl) [(.int n11), .null] [] f5080 (own_rm13_87 l Z a0 hw [] t10 n11 T5060.heap n0 Z5060 f5078) 0 (hb hby at_122) (by rw [hml]; rfl) (lenOf own_pd6 rfl) rfl rfl rfl (by show 2 * 0 + _ ≤ _; exact Nat.le_of_eq rfl) (by decide) (by decide) (by decide) (by decide) (by decide) fun v5079 T5079 L5079 X5079 hQ5079 => ?_
            obtain ⟨N5079q, Kq5079, hL5079⟩ := hQ5079
            have N5079 := Fr.app N5060 N5079q
            have K5079 : Keep h0 T5079.heap [t10] := K5060.trans Kq5079 all0
            have Z5079 := Nat.le_trans Z5060 Kq5079.1
            rcases hL5079 with ⟨rfl, -⟩
            · skip
              refine own_st (fun t k => XS.aload X5079.here hx rfl (hb hby at_125) rfl rfl k) ?_
              show own_Go _ _ _ _ T5079 (mkF m 127 #[.val (.long jp0), .second, .val (.long jp1), .second, .val (.int ip2), .val (.int ip3), .val (.int ip4), .val (.int ip5), .val (.long j8), .second, .val (.ref t10), .val (.int n11), .val (.int n12), .val .null, .val (.ref gxc5060), .val .null, .val (.int (1 : Int32)), .unset] [(.ref t10)])
              refine own_st (fun t k => XS.iload X5079.here hx rfl (hb hby at_127) rfl (XS.aload X5079.here hx rfl (hb hby at_129) rfl rfl k)) ?_
              have f5081 := (f5078.keep Kq5079 nin0)
              have f5082 := ((P2.keep Kq5060 nin0).keep Kq5079 nin0)
              have f5083 := (P3.keep K5079 (ninS (Ne.symm (own_neA P0 (own_w hw 1 rfl) P3)) nin0))
              have f5084 := (f5080.keep Kq5079)
              have f5085 := (Fc5060_0_0.keep Kq5079)
              refine own_cV (a := t10) X5079 hx hZ hown (own_w hw 68 rfl) (own_w hw 69 rfl) (own_w hw 71 rfl) (own_w hw 70 rfl) (own_w hw 2 rfl) (own_w hw 72 rfl) [(.int n12), (.ref gxc5060)] [] f5084 (own_rm13_101 l Z a0 hw [] t10 n12 gxc5060 u10 T5079.heap n0 Z5079 f5081 f5082 f5083 f5084 g_t10 hr12 f5085) 0 (hb hby at_131) (by rw [hml]; rfl) (lenOf own_pd6 rfl) rfl rfl rfl (by show 2 * 0 + _ ≤ _; exact Nat.le_of_eq rfl) (by decide) (by decide) (by decide) (by decide) (by decide) fun v5086 T5086 L5086 X5086 hQ5086 => ?_
              obtain ⟨N5086q, Kq5086, hL5086⟩ := hQ5086
              have N5086 := Fr.app N5079 N5086q
              have K5086 : Keep h0 T5086.heap [t10] := K5079.trans Kq5086 (allS (Or.inl (List.mem_of_getElem? (i := 0) rfl)) all0)
              have Z5086 := Nat.le_trans Z5079 Kq5086.1
              rcases hL5086 with ⟨b3x13_101c5086, k3x13_101c5086, rfl, sq_b3x13_101c5086, Fc5086_0_0, Fc5086_0_1, Fc5086_0_2, OFc5086_0_2, Fc5086_0_3, -⟩
              · skip
                have g_b3x13_101c5086 : n0 ≤ b3x13_101c5086 := Nat.le_trans Z5079 sq_b3x13_101c5086
                have sz_b3x13_101c5086 : h0.size ≤ b3x13_101c5086 := Nat.le_trans K5079.1 sq_b3x13_101c5086
                show own_Go _ _ _ _ T5086 (mkF m 134 #[.val (.long jp0), .second, .val (.long jp1), .second, .val (.int ip2), .val (.int ip3), .val (.int ip4), .val (.int ip5), .val (.long j8), .second, .val (.ref t10), .val (.int n11), .val (.int n12), .val .null, .val (.ref gxc5060), .val .null, .val (.int (1 : Int32)), .unset] [])
                refine own_st (fun t k => XS.iload X5086.here hx rfl (hb hby at_134) rfl (XS.ifNo X5086.here hx rfl (hb hby at_136) rfl ((if0 _ _).trans (feq (by decide : ¬ ((1 : Int32) = (0 : Int32)))).1) (XS.aload X5086.here hx rfl (hb hby at_139) rfl rfl k))) ?_
                show own_Go _ _ _ _ T5086 (mkF m 141 #[.val (.long jp0), .second, .val (.long jp1), .second, .val (.int ip2), .val (.int ip3), .val (.int ip4), .val (.int ip5), .val (.long j8), .second, .val (.ref t10), .val (.int n11), .val (.int n12), .val .null, .val (.ref gxc5060), .val .null, .val (.int (1 : Int32)), .unset] [(.ref t10)])
                refine own_st (fun t k => XS.iload X5086.here hx rfl (hb hby at_141) rfl (XS.aload X5086.here hx rfl (hb hby at_143) rfl rfl k)) ?_
                have f5088 := (f5084.keep Kq5086)
                refine own_cV (a := t10) X5086 hx hZ hown (own_w hw 68 rfl) (own_w hw 69 rfl) (own_w hw 71 rfl) (own_w hw 70 rfl) (own_w hw 2 rfl) (own_w hw 72 rfl) [(.int n11), .null] [] f5088 (own_rm13_104 l Z a0 hw [] t10 n11 b3x13_101c5086 k3x13_101c5086 n12 gxc5060 T5086.heap n0 Z5086 Fc5086_0_0 Fc5086_0_2 OFc5086_0_2 hr11 g_b3x13_101c5086) 0 (hb hby at_145) (by rw [hml]; rfl) (lenOf own_pd6 rfl) rfl rfl rfl (by show 2 * 0 + _ ≤ _; exact Nat.le_of_eq rfl) (by decide) (by decide) (by decide) (by decide) (by decide) fun v5087 T5087 L5087 X5087 hQ5087 => ?_
                obtain ⟨N5087q, Kq5087, hL5087⟩ := hQ5087
                have N5087 := Fr.app N5086 N5087q
                have K5087 : Keep h0 T5087.heap [t10] := K5086.trans Kq5087 (allS (Or.inr sz_b3x13_101c5086) all0)
                have Z5087 := Nat.le_trans Z5086 Kq5087.1
                rcases hL5087 with ⟨k3x13_101c5086c5087, rfl, Fc5087_0_0, OFc5087_0_0, -⟩
                · skip
                  show own_Go _ _ _ _ T5087 (mkF m 148 #[.val (.long jp0), .second, .val (.long jp1), .second, .val (.int ip2), .val (.int ip3), .val (.int ip4), .val (.int ip5), .val (.long j8), .second, .val (.ref t10), .val (.int n11), .val (.int n12), .val .null, .val (.ref gxc5060), .val .null, .val (.int (1 : Int32)), .unset] [])
                  refine own_st (fun t k => XS.iload X5087.here hx rfl (hb hby at_148) rfl (XS.ifNo X5087.here hx rfl (hb hby at_150) rfl ((if0 _ _).trans (feq (by decide : ¬ ((1 : Int32) = (0 : Int32)))).1) (XS.aload X5087.here hx rfl (hb hby at_153) rfl rfl k))) ?_
                  show own_Go _ _ _ _ T5087 (mkF m 155 #[.val (.long jp0), .second, .val (.long jp1), .second, .val (.int ip2), .val (.int ip3), .val (.int ip4), .val (.int ip5), .val (.long j8), .second, .val (.ref t10), .val (.int n11), .val (.int n12), .val .null, .val (.ref gxc5060), .val .null, .val (.int (1 : Int32)), .unset] [.null])
                  refine own_st (fun t k => XS.goto X5087.here hx rfl (pc0 := 155) (pc' := 160) rfl (hb hby at_155) (by decide) (by decide) (XS.astore X5087.here hx rfl (hb hby at_160) rfl rfl (l' := #[.val (.long jp0), .second, .val (.long jp1), .second, .val (.int ip2), .val (.int ip3), .val (.int ip4), .val (.int ip5), .val (.long j8), .second, .val (.ref t10), .val (.int n11), .val (.int n12), .val .null, .val (.ref gxc5060), .val .null, .val (.int (1 : Int32)), .val .null]) rfl (XS.iload X5087.here hx rfl (hb hby at_162) rfl k))) ?_
                  show own_Go _ _ _ _ T5087 (mkF m 164 #[.val (.long jp0), .second, .val (.long jp1), .second, .val (.int ip2), .val (.int ip3), .val (.int ip4), .val (.int ip5), .val (.long j8), .second, .val (.ref t10), .val (.int n11), .val (.int n12), .val .null, .val (.ref gxc5060), .val .null, .val (.int (1 : Int32)), .val .null] [(.int n11)])
                  refine own_st (fun t k => XS.iload X5087.here hx rfl (hb hby at_164) rfl (XS.icmpNo X5087.here hx rfl (hb hby at_166) rfl (feq hne).1 (XS.aload X5087.here hx rfl (hb hby at_169) rfl rfl k))) ?_
                  show own_Go _ _ _ _ T5087 (mkF m 171 #[.val (.long jp0), .second, .val (.long jp1), .second, .val (.int ip2), .val (.int ip3), .val (.int ip4), .val (.int ip5), .val (.long j8), .second, .val (.ref t10), .val (.int n11), .val (.int n12), .val .null, .val (.ref gxc5060), .val .null, .val (.int (1 : Int32)), .val .null] [(.ref t10)])
                  refine own_st (fun t k => XS.iload X5087.here hx rfl (hb hby at_171) rfl k) ?_
                  have ne5089 : t10 ≠ b3x13_101c5086 := Nat.ne_of_lt (Nat.lt_of_lt_of_le P0.lt sz_b3x13_101c5086)
                  have f5090 := (Fc5086_0_0.keep Kq5087 (ninS ne5089 nin0))
                  have f5092 := (f5088.keep Kq5087)
                  refine own_cV (a := t10) X5087 hx hZ hown (own_w hw 76 rfl) (own_w hw 77 rfl) (own_w hw 79 rfl) (own_w hw 78 rfl) (own_w hw 2 rfl) (own_w hw 80 rfl) [(.int n11)] [] f5092 (own_rm14_105 l Z a0 hw [] t10 n11 b3x13_101c5086 k3x13_101c5086c5087 n12 gxc5060 T5087.heap n0 Z5087 f5090 Fc5087_0_0 OFc5087_0_0 hr11) 0 (hb hby at_173) (by rw [hml]; rfl) (lenOf own_pd7 rfl) rfl rfl rfl (by show 2 * 0 + _ ≤ _; exact Nat.le_of_eq rfl) (by decide) (by decide) (by decide) (by decide) (by decide) fun v5091 T5091 L5091 X5091 hQ5091 => ?_
                  obtain ⟨N5091q, Kq5091, hL5091⟩ := hQ5091
                  have N5091 := Fr.app N5087 N5091q
                  have K5091 : Keep h0 T5091.heap [t10] := K5087.trans Kq5091 all0
                  have Z5091 := Nat.le_trans Z5087 Kq5091.1
                  rcases hL5091 with ⟨rfl, -⟩
                  · skip
                    refine own_st (fun t k => XS.aload X5091.here hx rfl (hb hby at_176) rfl rfl k) ?_
                    show own_Go _ _ _ _ T5091 (mkF m 178 #[.val (.long jp0), .second, .val (.long jp1), .second, .val (.int ip2), .val (.int ip3), .val (.int ip4), .val (.int ip5), .val (.long j8), .second, .val (.ref t10), .val (.int n11), .val (.int n12), .val .null, .val (.ref gxc5060), .val .null, .val (.int (1 : Int32)), .val .null] [.null, .null])
                    refine own_st (fun t k => Jvm.RoadKit.acmp (g := (mkF m 178 #[.val (.long jp0), .second, .val (.long jp1), .second, .val (.int ip2), .val (.int ip3), .val (.int ip4), .val (.int ip5), .val (.long j8), .second, .val (.ref t10), .val (.int n11), .val (.int n12), .val .null, .val (.ref gxc5060), .val .null, .val (.int (1 : Int32)), .val .null] [.null, .null])) X5091 hx rfl rfl rfl (pc0 := 178) (pc' := 181) (same := true) rfl (hb hby at_178) rfl (decide_eq_true rfl) (by decide) (by decide) (XS.aload X5091.here hx rfl (hb hby at_181) rfl rfl (XS.iload X5091.here hx rfl (hb hby at_183) rfl k))) ?_
                    show own_Go _ _ _ _ T5091 (mkF m 185 #[.val (.long jp0), .second, .val (.long jp1), .second, .val (.int ip2), .val (.int ip3), .val (.int ip4), .val (.int ip5), .val (.long j8), .second, .val (.ref t10), .val (.int n11), .val (.int n12), .val .null, .val (.ref gxc5060), .val .null, .val (.int (1 : Int32)), .val .null] [(.int n12), (.ref t10)])
                    have f5093 := (f5090.keep Kq5091 nin0)
                    have f5094 := (Fc5087_0_0.keep Kq5091 nin0)
                    have f5096 := (f5092.keep Kq5091)
                    refine own_cV (a := t10) X5091 hx hZ hown (own_w hw 76 rfl) (own_w hw 77 rfl) (own_w hw 79 rfl) (own_w hw 78 rfl) (own_w hw 2 rfl) (own_w hw 80 rfl) [(.int n12)] [] f5096 (own_rm14_106 l Z a0 hw [] t10 n12 b3x13_101c5086 k3x13_101c5086c5087 n11 gxc5060 T5091.heap n0 Z5091 f5093 f5094 OFc5087_0_0 hr12 hr11) 0 (hb hby at_185) (by rw [hml]; rfl) (lenOf own_pd7 rfl) rfl rfl rfl (by show 2 * 0 + _ ≤ _; exact Nat.le_of_eq rfl) (by decide) (by decide) (by decide) (by decide) (by decide) fun v5095 T5095 L5095 X5095 hQ5095 => ?_
                    obtain ⟨N5095q, Kq5095, hL5095⟩ := hQ5095
                    have N5095 := Fr.app N5091 N5095q
                    have K5095 : Keep h0 T5095.heap [t10] := K5091.trans Kq5095 all0
                    have Z5095 := Nat.le_trans Z5091 Kq5095.1
                    rcases hL5095 with ⟨rfl, hq5095_0_0, -⟩ | ⟨rfl, hq5095_1_0, -⟩
                    · skip
                      exact absurd hq5095_0_0 (Ne.symm hne)
                    · skip
                      refine own_st (fun t k => XS.aload X5095.here hx rfl (hb hby at_188) rfl rfl (Jvm.RoadKit.acmp (g := (mkF m 190 #[.val (.long jp0), .second, .val (.long jp1), .second, .val (.int ip2), .val (.int ip3), .val (.int ip4), .val (.int ip5), .val (.long j8), .second, .val (.ref t10), .val (.int n11), .val (.int n12), .val .null, .val (.ref gxc5060), .val .null, .val (.int (1 : Int32)), .val .null] [(.ref gxc5060), (.ref gxc5060)])) X5095 hx rfl rfl rfl (pc0 := 190) (pc' := 193) (same := true) rfl (hb hby at_190) rfl (decide_eq_true (congrArg Value.ref (rfl : gxc5060 = gxc5060))) (by decide) (by decide) k)) ?_
                      show own_Go _ _ _ _ T5095 (mkF m 193 #[.val (.long jp0), .second, .val (.long jp1), .second, .val (.int ip2), .val (.int ip3), .val (.int ip4), .val (.int ip5), .val (.long j8), .second, .val (.ref t10), .val (.int n11), .val (.int n12), .val .null, .val (.ref gxc5060), .val .null, .val (.int (1 : Int32)), .val .null] [])
                      refine own_st (fun t k => XS.iconst X5095.here hx rfl (hb hby at_193) (XS.goto X5095.here hx rfl (pc0 := 194) (pc' := 198) rfl (hb hby at_194) (by decide) (by decide) k)) ?_
                      exact own_retZ X5095 hx hlk (t := .boolean) hret (by simp) (hb hby at_198) (by decide) (by decide) rfl ⟨rfl, N5095⟩
        · skip
          refine own_st (fun t k => XS.ifNo X5060.here hx rfl (hb hby at_88) rfl ((if0 _ _).trans (feq hc5061).1) k) ?_
          show own_Go _ _ _ _ T5060 (mkF m 91 #[.val (.long jp0), .second, .val (.long jp1), .second, .val (.int ip2), .val (.int ip3), .val (.int ip4), .val (.int ip5), .val (.long j8), .second, .val (.ref t10), .val (.int n11), .val (.int n12), .val .null, .val (.ref gxc5060), .unset, .unset, .unset] [])
          refine own_st (fun t k => XS.iload X5060.here hx rfl (hb hby at_91) rfl k) ?_
          have f5097 := (own_stak P5 Kq5060 all0)
          have f5098 := (own_stak P4 Kq5060 all0)
          have f5099 := (P6.keep Kq5060 nin0)
          refine own_cS X5060 hx hZ hown (own_w hw 62 rfl) (own_w hw 63 rfl) (own_w hw 29 rfl) (own_w hw 64 rfl) [(.int ip4)] [] (own_rm12_91 l Z a0 hw [] ip4 w_cache T5060.heap n0 Z5060 f5097 f5098 f5099) 0 (hb hby at_93) (by rw [hml]; rfl) (lenOf own_pd9 rfl) rfl rfl rfl (by show 2 * 0 + _ ≤ _; exact Nat.le_of_eq rfl) (by decide) (by decide) (by decide) (by decide) (by decide) fun v5100 T5100 L5100 X5100 hQ5100 => ?_
          obtain ⟨N5100q, Kq5100, hL5100⟩ := hQ5100
          have N5100 := Fr.app N5060 N5100q
          have K5100 : Keep h0 T5100.heap [t10] := K5060.trans Kq5100 all0
          have Z5100 := Nat.le_trans Z5060 Kq5100.1
          rcases hL5100 with ⟨gxc5100, rfl, Fc5100_0_0, -⟩
          · skip
            refine own_st (fun t k => XS.goto X5100.here hx rfl (pc0 := 96) (pc' := 100) rfl (hb hby at_96) (by decide) (by decide) k) ?_
            show own_Go _ _ _ _ T5100 (mkF m 100 #[.val (.long jp0), .second, .val (.long jp1), .second, .val (.int ip2), .val (.int ip3), .val (.int ip4), .val (.int ip5), .val (.long j8), .second, .val (.ref t10), .val (.int n11), .val (.int n12), .val .null, .val (.ref gxc5060), .unset, .unset, .unset] [(.ref gxc5100)])
            refine own_st (fun t k => XS.astore X5100.here hx rfl (hb hby at_100) rfl rfl (l' := #[.val (.long jp0), .second, .val (.long jp1), .second, .val (.int ip2), .val (.int ip3), .val (.int ip4), .val (.int ip5), .val (.long j8), .second, .val (.ref t10), .val (.int n11), .val (.int n12), .val .null, .val (.ref gxc5060), .val (.ref gxc5100), .unset, .unset]) rfl (XS.iload X5100.here hx rfl (hb hby at_102) rfl (XS.iconst X5100.here hx rfl (hb hby at_104) k))) ?_
            show own_Go _ _ _ _ T5100 (mkF m 105 #[.val (.long jp0), .second, .val (.long jp1), .second, .val (.int ip2), .val (.int ip3), .val (.int ip4), .val (.int ip5), .val (.long j8), .second, .val (.ref t10), .val (.int n11), .val (.int n12), .val .null, .val (.ref gxc5060), .val (.ref gxc5100), .unset, .unset] [(.int (4 : Int32)), (.int ip5)])
            refine own_st (fun t k => XS.iand X5100.here hx rfl (hb hby at_105) rfl k) ?_
            by_cases hc5101 : (ip5 &&& (4 : Int32)) = (0 : Int32)
            · skip
              refine own_st (fun t k => XS.ifYes X5100.here hx rfl (pc0 := 106) (pc' := 113) rfl (hb hby at_106) rfl ((if0 _ _).trans (teq hc5101).1) (by decide) (by decide) (XS.iconst X5100.here hx rfl (hb hby at_113) k)) ?_
              show own_Go _ _ _ _ T5100 (mkF m 114 #[.val (.long jp0), .second, .val (.long jp1), .second, .val (.int ip2), .val (.int ip3), .val (.int ip4), .val (.int ip5), .val (.long j8), .second, .val (.ref t10), .val (.int n11), .val (.int n12), .val .null, .val (.ref gxc5060), .val (.ref gxc5100), .unset, .unset] [(.int (0 : Int32))])
              refine own_st (fun t k => XS.istore X5100.here hx rfl (hb hby at_114) rfl (l' := #[.val (.long jp0), .second, .val (.long jp1), .second, .val (.int ip2), .val (.int ip3), .val (.int ip4), .val (.int ip5), .val (.long j8), .second, .val (.ref t10), .val (.int n11), .val (.int n12), .val .null, .val (.ref gxc5060), .val (.ref gxc5100), .val (.int (0 : Int32)), .unset]) rfl (XS.aload X5100.here hx rfl (hb hby at_116) rfl rfl (XS.iload X5100.here hx rfl (hb hby at_118) rfl k))) ?_
              show own_Go _ _ _ _ T5100 (mkF m 120 #[.val (.long jp0), .second, .val (.long jp1), .second, .val (.int ip2), .val (.int ip3), .val (.int ip4), .val (.int ip5), .val (.long j8), .second, .val (.ref t10), .val (.int n11), .val (.int n12), .val .null, .val (.ref gxc5060), .val (.ref gxc5100), .val (.int (0 : Int32)), .unset] [(.int n11), (.ref t10)])
              refine own_st (fun t k => XS.aload X5100.here hx rfl (hb hby at_120) rfl rfl k) ?_
              have f5102 := ((P1.keep Kq5060 nin0).keep Kq5100 nin0)
              have f5104 := (P0.keep K5100)
              refine own_cV (a := t10) X5100 hx hZ hown (own_w hw 68 rfl) (own_w hw 69 rfl) (own_w hw 71 rfl) (own_w hw 70 rfl) (own_w hw 2 rfl) (own_w hw 72 rfl) [(.int n11), .null] [] f5104 (own_rm13_87 l Z a0 hw [] t10 n11 T5100.heap n0 Z5100 f5102) 0 (hb hby at_122) (by rw [hml]; rfl) (lenOf own_pd6 rfl) rfl rfl rfl (by show 2 * 0 + _ ≤ _; exact Nat.le_of_eq rfl) (by decide) (by decide) (by decide) (by decide) (by decide) fun v5103 T5103 L5103 X5103 hQ5103 => ?_
              obtain ⟨N5103q, Kq5103, hL5103⟩ := hQ5103
              have N5103 := Fr.app N5100 N5103q
              have K5103 : Keep h0 T5103.heap [t10] := K5100.trans Kq5103 all0
              have Z5103 := Nat.le_trans Z5100 Kq5103.1
              rcases hL5103 with ⟨rfl, -⟩
              · skip
                refine own_st (fun t k => XS.aload X5103.here hx rfl (hb hby at_125) rfl rfl k) ?_
                show own_Go _ _ _ _ T5103 (mkF m 127 #[.val (.long jp0), .second, .val (.long jp1), .second, .val (.int ip2), .val (.int ip3), .val (.int ip4), .val (.int ip5), .val (.long j8), .second, .val (.ref t10), .val (.int n11), .val (.int n12), .val .null, .val (.ref gxc5060), .val (.ref gxc5100), .val (.int (0 : Int32)), .unset] [(.ref t10)])
                refine own_st (fun t k => XS.iload X5103.here hx rfl (hb hby at_127) rfl (XS.aload X5103.here hx rfl (hb hby at_129) rfl rfl k)) ?_
                have f5105 := (f5102.keep Kq5103 nin0)
                have f5106 := (((P2.keep Kq5060 nin0).keep Kq5100 nin0).keep Kq5103 nin0)
                have f5107 := (P3.keep K5103 (ninS (Ne.symm (own_neA P0 (own_w hw 1 rfl) P3)) nin0))
                have f5108 := (f5104.keep Kq5103)
                have f5109 := ((Fc5060_0_0.keep Kq5100).keep Kq5103)
                refine own_cV (a := t10) X5103 hx hZ hown (own_w hw 68 rfl) (own_w hw 69 rfl) (own_w hw 71 rfl) (own_w hw 70 rfl) (own_w hw 2 rfl) (own_w hw 72 rfl) [(.int n12), (.ref gxc5060)] [] f5108 (own_rm13_101 l Z a0 hw [] t10 n12 gxc5060 u10 T5103.heap n0 Z5103 f5105 f5106 f5107 f5108 g_t10 hr12 f5109) 0 (hb hby at_131) (by rw [hml]; rfl) (lenOf own_pd6 rfl) rfl rfl rfl (by show 2 * 0 + _ ≤ _; exact Nat.le_of_eq rfl) (by decide) (by decide) (by decide) (by decide) (by decide) fun v5110 T5110 L5110 X5110 hQ5110 => ?_
                obtain ⟨N5110q, Kq5110, hL5110⟩ := hQ5110
                have N5110 := Fr.app N5103 N5110q
                have K5110 : Keep h0 T5110.heap [t10] := K5103.trans Kq5110 (allS (Or.inl (List.mem_of_getElem? (i := 0) rfl)) all0)
                have Z5110 := Nat.le_trans Z5103 Kq5110.1
                rcases hL5110 with ⟨b3x13_101c5110, k3x13_101c5110, rfl, sq_b3x13_101c5110, Fc5110_0_0, Fc5110_0_1, Fc5110_0_2, OFc5110_0_2, Fc5110_0_3, -⟩
                · skip
                  have g_b3x13_101c5110 : n0 ≤ b3x13_101c5110 := Nat.le_trans Z5103 sq_b3x13_101c5110
                  have sz_b3x13_101c5110 : h0.size ≤ b3x13_101c5110 := Nat.le_trans K5103.1 sq_b3x13_101c5110
                  show own_Go _ _ _ _ T5110 (mkF m 134 #[.val (.long jp0), .second, .val (.long jp1), .second, .val (.int ip2), .val (.int ip3), .val (.int ip4), .val (.int ip5), .val (.long j8), .second, .val (.ref t10), .val (.int n11), .val (.int n12), .val .null, .val (.ref gxc5060), .val (.ref gxc5100), .val (.int (0 : Int32)), .unset] [])
                  refine own_st (fun t k => XS.iload X5110.here hx rfl (hb hby at_134) rfl (XS.ifYes X5110.here hx rfl (pc0 := 136) (pc' := 148) rfl (hb hby at_136) rfl ((if0 _ _).trans (teq (by decide : (0 : Int32) = (0 : Int32))).1) (by decide) (by decide) (XS.iload X5110.here hx rfl (hb hby at_148) rfl k))) ?_
                  show own_Go _ _ _ _ T5110 (mkF m 150 #[.val (.long jp0), .second, .val (.long jp1), .second, .val (.int ip2), .val (.int ip3), .val (.int ip4), .val (.int ip5), .val (.long j8), .second, .val (.ref t10), .val (.int n11), .val (.int n12), .val .null, .val (.ref gxc5060), .val (.ref gxc5100), .val (.int (0 : Int32)), .unset] [(.int (0 : Int32))])
                  refine own_st (fun t k => XS.ifYes X5110.here hx rfl (pc0 := 150) (pc' := 158) rfl (hb hby at_150) rfl ((if0 _ _).trans (teq (by decide : (0 : Int32) = (0 : Int32))).1) (by decide) (by decide) (XS.aload X5110.here hx rfl (hb hby at_158) rfl rfl (XS.astore X5110.here hx rfl (hb hby at_160) rfl rfl (l' := #[.val (.long jp0), .second, .val (.long jp1), .second, .val (.int ip2), .val (.int ip3), .val (.int ip4), .val (.int ip5), .val (.long j8), .second, .val (.ref t10), .val (.int n11), .val (.int n12), .val .null, .val (.ref gxc5060), .val (.ref gxc5100), .val (.int (0 : Int32)), .val .null]) rfl k))) ?_
                  show own_Go _ _ _ _ T5110 (mkF m 162 #[.val (.long jp0), .second, .val (.long jp1), .second, .val (.int ip2), .val (.int ip3), .val (.int ip4), .val (.int ip5), .val (.long j8), .second, .val (.ref t10), .val (.int n11), .val (.int n12), .val .null, .val (.ref gxc5060), .val (.ref gxc5100), .val (.int (0 : Int32)), .val .null] [])
                  refine own_st (fun t k => XS.iload X5110.here hx rfl (hb hby at_162) rfl (XS.iload X5110.here hx rfl (hb hby at_164) rfl (XS.icmpNo X5110.here hx rfl (hb hby at_166) rfl (feq hne).1 k))) ?_
                  show own_Go _ _ _ _ T5110 (mkF m 169 #[.val (.long jp0), .second, .val (.long jp1), .second, .val (.int ip2), .val (.int ip3), .val (.int ip4), .val (.int ip5), .val (.long j8), .second, .val (.ref t10), .val (.int n11), .val (.int n12), .val .null, .val (.ref gxc5060), .val (.ref gxc5100), .val (.int (0 : Int32)), .val .null] [])
                  refine own_st (fun t k => XS.aload X5110.here hx rfl (hb hby at_169) rfl rfl (XS.iload X5110.here hx rfl (hb hby at_171) rfl k)) ?_
                  have f5112 := (f5108.keep Kq5110)
                  refine own_cV (a := t10) X5110 hx hZ hown (own_w hw 76 rfl) (own_w hw 77 rfl) (own_w hw 79 rfl) (own_w hw 78 rfl) (own_w hw 2 rfl) (own_w hw 80 rfl) [(.int n11)] [] f5112 (own_rm14_102 l Z a0 hw [] t10 n11 b3x13_101c5110 k3x13_101c5110 n12 gxc5060 T5110.heap n0 Z5110 Fc5110_0_0 Fc5110_0_2 OFc5110_0_2 hr11 hr12) 0 (hb hby at_173) (by rw [hml]; rfl) (lenOf own_pd7 rfl) rfl rfl rfl (by show 2 * 0 + _ ≤ _; exact Nat.le_of_eq rfl) (by decide) (by decide) (by decide) (by decide) (by decide) fun v5111 T5111 L5111 X5111 hQ5111 => ?_
                  obtain ⟨N5111q, Kq5111, hL5111⟩ := hQ5111
                  have N5111 := Fr.app N5110 N5111q
                  have K5111 : Keep h0 T5111.heap [t10] := K5110.trans Kq5111 all0
                  have Z5111 := Nat.le_trans Z5110 Kq5111.1
                  rcases hL5111 with ⟨rfl, hq5111_0_0, -⟩ | ⟨rfl, hq5111_1_0, -⟩
                  · skip
                    exact absurd hq5111_0_0 hne
                  · skip
                    show own_Go _ _ _ _ T5111 (mkF m 176 #[.val (.long jp0), .second, .val (.long jp1), .second, .val (.int ip2), .val (.int ip3), .val (.int ip4), .val (.int ip5), .val (.long j8), .second, .val (.ref t10), .val (.int n11), .val (.int n12), .val .null, .val (.ref gxc5060), .val (.ref gxc5100), .val (.int (0 : Int32)), .val .null] [.null])
                    refine own_st (fun t k => XS.aload X5111.here hx rfl (hb hby at_176) rfl rfl (Jvm.RoadKit.acmp (g := (mkF m 178 #[.val (.long jp0), .second, .val (.long jp1), .second, .val (.int ip2), .val (.int ip3), .val (.int ip4), .val (.int ip5), .val (.long j8), .second, .val (.ref t10), .val (.int n11), .val (.int n12), .val .null, .val (.ref gxc5060), .val (.ref gxc5100), .val (.int (0 : Int32)), .val .null] [.null, .null])) X5111 hx rfl rfl rfl (pc0 := 178) (pc' := 181) (same := true) rfl (hb hby at_178) rfl (decide_eq_true rfl) (by decide) (by decide) (XS.aload X5111.here hx rfl (hb hby at_181) rfl rfl k))) ?_
                    show own_Go _ _ _ _ T5111 (mkF m 183 #[.val (.long jp0), .second, .val (.long jp1), .second, .val (.int ip2), .val (.int ip3), .val (.int ip4), .val (.int ip5), .val (.long j8), .second, .val (.ref t10), .val (.int n11), .val (.int n12), .val .null, .val (.ref gxc5060), .val (.ref gxc5100), .val (.int (0 : Int32)), .val .null] [(.ref t10)])
                    refine own_st (fun t k => XS.iload X5111.here hx rfl (hb hby at_183) rfl k) ?_
                    have f5113 := (Fc5110_0_0.keep Kq5111 nin0)
                    have f5114 := (Fc5110_0_2.keep Kq5111 nin0)
                    have f5116 := (f5112.keep Kq5111)
                    refine own_cV (a := t10) X5111 hx hZ hown (own_w hw 76 rfl) (own_w hw 77 rfl) (own_w hw 79 rfl) (own_w hw 78 rfl) (own_w hw 2 rfl) (own_w hw 80 rfl) [(.int n12)] [] f5116 (own_rm14_99 l Z a0 hw [] t10 n12 b3x13_101c5110 k3x13_101c5110 n12 gxc5060 T5111.heap n0 Z5111 f5113 f5114 OFc5110_0_2 hr12 hr12) 0 (hb hby at_185) (by rw [hml]; rfl) (lenOf own_pd7 rfl) rfl rfl rfl (by show 2 * 0 + _ ≤ _; exact Nat.le_of_eq rfl) (by decide) (by decide) (by decide) (by decide) (by decide) fun v5115 T5115 L5115 X5115 hQ5115 => ?_
                    obtain ⟨N5115q, Kq5115, hL5115⟩ := hQ5115
                    have N5115 := Fr.app N5111 N5115q
                    have K5115 : Keep h0 T5115.heap [t10] := K5111.trans Kq5115 all0
                    have Z5115 := Nat.le_trans Z5111 Kq5115.1
                    rcases hL5115 with ⟨rfl, hq5115_0_0, -⟩ | ⟨rfl, hq5115_1_0, -⟩
                    · skip
                      refine own_st (fun t k => XS.aload X5115.here hx rfl (hb hby at_188) rfl rfl k) ?_
                      show own_Go _ _ _ _ T5115 (mkF m 190 #[.val (.long jp0), .second, .val (.long jp1), .second, .val (.int ip2), .val (.int ip3), .val (.int ip4), .val (.int ip5), .val (.long j8), .second, .val (.ref t10), .val (.int n11), .val (.int n12), .val .null, .val (.ref gxc5060), .val (.ref gxc5100), .val (.int (0 : Int32)), .val .null] [(.ref gxc5060), (.ref gxc5060)])
                      refine own_st (fun t k => Jvm.RoadKit.acmp (g := (mkF m 190 #[.val (.long jp0), .second, .val (.long jp1), .second, .val (.int ip2), .val (.int ip3), .val (.int ip4), .val (.int ip5), .val (.long j8), .second, .val (.ref t10), .val (.int n11), .val (.int n12), .val .null, .val (.ref gxc5060), .val (.ref gxc5100), .val (.int (0 : Int32)), .val .null] [(.ref gxc5060), (.ref gxc5060)])) X5115 hx rfl rfl rfl (pc0 := 190) (pc' := 193) (same := true) rfl (hb hby at_190) rfl (decide_eq_true (congrArg Value.ref (rfl : gxc5060 = gxc5060))) (by decide) (by decide) (XS.iconst X5115.here hx rfl (hb hby at_193) (XS.goto X5115.here hx rfl (pc0 := 194) (pc' := 198) rfl (hb hby at_194) (by decide) (by decide) k))) ?_
                      show own_Go _ _ _ _ T5115 (mkF m 198 #[.val (.long jp0), .second, .val (.long jp1), .second, .val (.int ip2), .val (.int ip3), .val (.int ip4), .val (.int ip5), .val (.long j8), .second, .val (.ref t10), .val (.int n11), .val (.int n12), .val .null, .val (.ref gxc5060), .val (.ref gxc5100), .val (.int (0 : Int32)), .val .null] [(.int (1 : Int32))])
                      exact own_retZ X5115 hx hlk (t := .boolean) hret (by simp) (hb hby at_198) (by decide) (by decide) rfl ⟨rfl, N5115⟩
                    · skip
                      exact absurd ((by decide +kernel : ∀ x ∈ own_D8, (x = x)) _ (own_m8 hr12) ) hq5115_1_0
            · skip
              refine own_st (fun t k => XS.ifNo X5100.here hx rfl (hb hby at_106) rfl ((if0 _ _).trans (feq hc5101).1) (XS.iconst X5100.here hx rfl (hb hby at_109) (XS.goto X5100.here hx rfl (pc0 := 110) (pc' := 114) rfl (hb hby at_110) (by decide) (by decide) k))) ?_
              show own_Go _ _ _ _ T5100 (mkF m 114 #[.val (.long jp0), .second, .val (.long jp1), .second, .val (.int ip2), .val (.int ip3), .val (.int ip4), .val (.int ip5), .val (.long j8), .second, .val (.ref t10), .val (.int n11), .val (.int n12), .val .null, .val (.ref gxc5060), .val (.ref gxc5100), .unset, .unset] [(.int (1 : Int32))])
              refine own_st (fun t k => XS.istore X5100.here hx rfl (hb hby at_114) rfl (l' := #[.val (.long jp0), .second, .val (.long jp1), .second, .val (.int ip2), .val (.int ip3), .val (.int ip4), .val (.int ip5), .val (.long j8), .second, .val (.ref t10), .val (.int n11), .val (.int n12), .val .null, .val (.ref gxc5060), .val (.ref gxc5100), .val (.int (1 : Int32)), .unset]) rfl (XS.aload X5100.here hx rfl (hb hby at_116) rfl rfl (XS.iload X5100.here hx rfl (hb hby at_118) rfl k))) ?_
              show own_Go _ _ _ _ T5100 (mkF m 120 #[.val (.long jp0), .second, .val (.long jp1), .second, .val (.int ip2), .val (.int ip3), .val (.int ip4), .val (.int ip5), .val (.long j8), .second, .val (.ref t10), .val (.int n11), .val (.int n12), .val .null, .val (.ref gxc5060), .val (.ref gxc5100), .val (.int (1 : Int32)), .unset] [(.int n11), (.ref t10)])
              refine own_st (fun t k => XS.aload X5100.here hx rfl (hb hby at_120) rfl rfl k) ?_
              have f5117 := ((P1.keep Kq5060 nin0).keep Kq5100 nin0)
              have f5119 := (P0.keep K5100)
              refine own_cV (a := t10) X5100 hx hZ hown (own_w hw 68 rfl) (own_w hw 69 rfl) (own_w hw 71 rfl) (own_w hw 70 rfl) (own_w hw 2 rfl) (own_w hw 72 rfl) [(.int n11), .null] [] f5119 (own_rm13_87 l Z a0 hw [] t10 n11 T5100.heap n0 Z5100 f5117) 0 (hb hby at_122) (by rw [hml]; rfl) (lenOf own_pd6 rfl) rfl rfl rfl (by show 2 * 0 + _ ≤ _; exact Nat.le_of_eq rfl) (by decide) (by decide) (by decide) (by decide) (by decide) fun v5118 T5118 L5118 X5118 hQ5118 => ?_
              obtain ⟨N5118q, Kq5118, hL5118⟩ := hQ5118
              have N5118 := Fr.app N5100 N5118q
              have K5118 : Keep h0 T5118.heap [t10] := K5100.trans Kq5118 all0
              have Z5118 := Nat.le_trans Z5100 Kq5118.1
              rcases hL5118 with ⟨rfl, -⟩
              · skip
                refine own_st (fun t k => XS.aload X5118.here hx rfl (hb hby at_125) rfl rfl k) ?_
                show own_Go _ _ _ _ T5118 (mkF m 127 #[.val (.long jp0), .second, .val (.long jp1), .second, .val (.int ip2), .val (.int ip3), .val (.int ip4), .val (.int ip5), .val (.long j8), .second, .val (.ref t10), .val (.int n11), .val (.int n12), .val .null, .val (.ref gxc5060), .val (.ref gxc5100), .val (.int (1 : Int32)), .unset] [(.ref t10)])
                refine own_st (fun t k => XS.iload X5118.here hx rfl (hb hby at_127) rfl (XS.aload X5118.here hx rfl (hb hby at_129) rfl rfl k)) ?_
                have f5120 := (f5117.keep Kq5118 nin0)
                have f5121 := (((P2.keep Kq5060 nin0).keep Kq5100 nin0).keep Kq5118 nin0)
                have f5122 := (P3.keep K5118 (ninS (Ne.symm (own_neA P0 (own_w hw 1 rfl) P3)) nin0))
                have f5123 := (f5119.keep Kq5118)
                have f5124 := ((Fc5060_0_0.keep Kq5100).keep Kq5118)
                refine own_cV (a := t10) X5118 hx hZ hown (own_w hw 68 rfl) (own_w hw 69 rfl) (own_w hw 71 rfl) (own_w hw 70 rfl) (own_w hw 2 rfl) (own_w hw 72 rfl) [(.int n12), (.ref gxc5060)] [] f5123 (own_rm13_101 l Z a0 hw [] t10 n12 gxc5060 u10 T5118.heap n0 Z5118 f5120 f5121 f5122 f5123 g_t10 hr12 f5124) 0 (hb hby at_131) (by rw [hml]; rfl) (lenOf own_pd6 rfl) rfl rfl rfl (by show 2 * 0 + _ ≤ _; exact Nat.le_of_eq rfl) (by decide) (by decide) (by decide) (by decide) (by decide) fun v5125 T5125 L5125 X5125 hQ5125 => ?_
                obtain ⟨N5125q, Kq5125, hL5125⟩ := hQ5125
                have N5125 := Fr.app N5118 N5125q
                have K5125 : Keep h0 T5125.heap [t10] := K5118.trans Kq5125 (allS (Or.inl (List.mem_of_getElem? (i := 0) rfl)) all0)
                have Z5125 := Nat.le_trans Z5118 Kq5125.1
                rcases hL5125 with ⟨b3x13_101c5125, k3x13_101c5125, rfl, sq_b3x13_101c5125, Fc5125_0_0, Fc5125_0_1, Fc5125_0_2, OFc5125_0_2, Fc5125_0_3, -⟩
                · skip
                  have g_b3x13_101c5125 : n0 ≤ b3x13_101c5125 := Nat.le_trans Z5118 sq_b3x13_101c5125
                  have sz_b3x13_101c5125 : h0.size ≤ b3x13_101c5125 := Nat.le_trans K5118.1 sq_b3x13_101c5125
                  show own_Go _ _ _ _ T5125 (mkF m 134 #[.val (.long jp0), .second, .val (.long jp1), .second, .val (.int ip2), .val (.int ip3), .val (.int ip4), .val (.int ip5), .val (.long j8), .second, .val (.ref t10), .val (.int n11), .val (.int n12), .val .null, .val (.ref gxc5060), .val (.ref gxc5100), .val (.int (1 : Int32)), .unset] [])
                  refine own_st (fun t k => XS.iload X5125.here hx rfl (hb hby at_134) rfl (XS.ifNo X5125.here hx rfl (hb hby at_136) rfl ((if0 _ _).trans (feq (by decide : ¬ ((1 : Int32) = (0 : Int32)))).1) (XS.aload X5125.here hx rfl (hb hby at_139) rfl rfl k))) ?_
                  show own_Go _ _ _ _ T5125 (mkF m 141 #[.val (.long jp0), .second, .val (.long jp1), .second, .val (.int ip2), .val (.int ip3), .val (.int ip4), .val (.int ip5), .val (.long j8), .second, .val (.ref t10), .val (.int n11), .val (.int n12), .val .null, .val (.ref gxc5060), .val (.ref gxc5100), .val (.int (1 : Int32)), .unset] [(.ref t10)])
                  refine own_st (fun t k => XS.iload X5125.here hx rfl (hb hby at_141) rfl (XS.aload X5125.here hx rfl (hb hby at_143) rfl rfl k)) ?_
                  have f5126 := ((Fc5100_0_0.keep Kq5118).keep Kq5125)
                  have f5128 := (f5123.keep Kq5125)
                  refine own_cV (a := t10) X5125 hx hZ hown (own_w hw 68 rfl) (own_w hw 69 rfl) (own_w hw 71 rfl) (own_w hw 70 rfl) (own_w hw 2 rfl) (own_w hw 72 rfl) [(.int n11), (.ref gxc5100)] [] f5128 (own_rm13_108 l Z a0 hw [] t10 n11 gxc5100 b3x13_101c5125 k3x13_101c5125 n12 gxc5060 T5125.heap n0 Z5125 Fc5125_0_0 Fc5125_0_2 OFc5125_0_2 hr11 f5126 g_b3x13_101c5125) 0 (hb hby at_145) (by rw [hml]; rfl) (lenOf own_pd6 rfl) rfl rfl rfl (by show 2 * 0 + _ ≤ _; exact Nat.le_of_eq rfl) (by decide) (by decide) (by decide) (by decide) (by decide) fun v5127 T5127 L5127 X5127 hQ5127 => ?_
                  obtain ⟨N5127q, Kq5127, hL5127⟩ := hQ5127
                  have N5127 := Fr.app N5125 N5127q
                  have K5127 : Keep h0 T5127.heap [t10] := K5125.trans Kq5127 (allS (Or.inr sz_b3x13_101c5125) all0)
                  have Z5127 := Nat.le_trans Z5125 Kq5127.1
                  rcases hL5127 with ⟨k3x13_101c5125c5127, rfl, Fc5127_0_0, OFc5127_0_0, -⟩
                  · skip
                    show own_Go _ _ _ _ T5127 (mkF m 148 #[.val (.long jp0), .second, .val (.long jp1), .second, .val (.int ip2), .val (.int ip3), .val (.int ip4), .val (.int ip5), .val (.long j8), .second, .val (.ref t10), .val (.int n11), .val (.int n12), .val .null, .val (.ref gxc5060), .val (.ref gxc5100), .val (.int (1 : Int32)), .unset] [])
                    refine own_st (fun t k => XS.iload X5127.here hx rfl (hb hby at_148) rfl (XS.ifNo X5127.here hx rfl (hb hby at_150) rfl ((if0 _ _).trans (feq (by decide : ¬ ((1 : Int32) = (0 : Int32)))).1) (XS.aload X5127.here hx rfl (hb hby at_153) rfl rfl k))) ?_
                    show own_Go _ _ _ _ T5127 (mkF m 155 #[.val (.long jp0), .second, .val (.long jp1), .second, .val (.int ip2), .val (.int ip3), .val (.int ip4), .val (.int ip5), .val (.long j8), .second, .val (.ref t10), .val (.int n11), .val (.int n12), .val .null, .val (.ref gxc5060), .val (.ref gxc5100), .val (.int (1 : Int32)), .unset] [(.ref gxc5100)])
                    refine own_st (fun t k => XS.goto X5127.here hx rfl (pc0 := 155) (pc' := 160) rfl (hb hby at_155) (by decide) (by decide) (XS.astore X5127.here hx rfl (hb hby at_160) rfl rfl (l' := #[.val (.long jp0), .second, .val (.long jp1), .second, .val (.int ip2), .val (.int ip3), .val (.int ip4), .val (.int ip5), .val (.long j8), .second, .val (.ref t10), .val (.int n11), .val (.int n12), .val .null, .val (.ref gxc5060), .val (.ref gxc5100), .val (.int (1 : Int32)), .val (.ref gxc5100)]) rfl (XS.iload X5127.here hx rfl (hb hby at_162) rfl k))) ?_
                    show own_Go _ _ _ _ T5127 (mkF m 164 #[.val (.long jp0), .second, .val (.long jp1), .second, .val (.int ip2), .val (.int ip3), .val (.int ip4), .val (.int ip5), .val (.long j8), .second, .val (.ref t10), .val (.int n11), .val (.int n12), .val .null, .val (.ref gxc5060), .val (.ref gxc5100), .val (.int (1 : Int32)), .val (.ref gxc5100)] [(.int n11)])
                    refine own_st (fun t k => XS.iload X5127.here hx rfl (hb hby at_164) rfl (XS.icmpNo X5127.here hx rfl (hb hby at_166) rfl (feq hne).1 (XS.aload X5127.here hx rfl (hb hby at_169) rfl rfl k))) ?_
                    show own_Go _ _ _ _ T5127 (mkF m 171 #[.val (.long jp0), .second, .val (.long jp1), .second, .val (.int ip2), .val (.int ip3), .val (.int ip4), .val (.int ip5), .val (.long j8), .second, .val (.ref t10), .val (.int n11), .val (.int n12), .val .null, .val (.ref gxc5060), .val (.ref gxc5100), .val (.int (1 : Int32)), .val (.ref gxc5100)] [(.ref t10)])
                    refine own_st (fun t k => XS.iload X5127.here hx rfl (hb hby at_171) rfl k) ?_
                    have ne5129 : t10 ≠ b3x13_101c5125 := Nat.ne_of_lt (Nat.lt_of_lt_of_le P0.lt sz_b3x13_101c5125)
                    have f5130 := (Fc5125_0_0.keep Kq5127 (ninS ne5129 nin0))
                    have f5132 := (f5128.keep Kq5127)
                    refine own_cV (a := t10) X5127 hx hZ hown (own_w hw 76 rfl) (own_w hw 77 rfl) (own_w hw 79 rfl) (own_w hw 78 rfl) (own_w hw 2 rfl) (own_w hw 80 rfl) [(.int n11)] [] f5132 (own_rm14_109 l Z a0 hw [] t10 n11 b3x13_101c5125 k3x13_101c5125c5127 gxc5100 n12 gxc5060 T5127.heap n0 Z5127 f5130 Fc5127_0_0 OFc5127_0_0 hr11) 0 (hb hby at_173) (by rw [hml]; rfl) (lenOf own_pd7 rfl) rfl rfl rfl (by show 2 * 0 + _ ≤ _; exact Nat.le_of_eq rfl) (by decide) (by decide) (by decide) (by decide) (by decide) fun v5131 T5131 L5131 X5131 hQ5131 => ?_
                    obtain ⟨N5131q, Kq5131, hL5131⟩ := hQ5131
                    have N5131 := Fr.app N5127 N5131q
                    have K5131 : Keep h0 T5131.heap [t10] := K5127.trans Kq5131 all0
                    have Z5131 := Nat.le_trans Z5127 Kq5131.1
                    rcases hL5131 with ⟨rfl, -⟩
                    · skip
                      refine own_st (fun t k => XS.aload X5131.here hx rfl (hb hby at_176) rfl rfl k) ?_
                      show own_Go _ _ _ _ T5131 (mkF m 178 #[.val (.long jp0), .second, .val (.long jp1), .second, .val (.int ip2), .val (.int ip3), .val (.int ip4), .val (.int ip5), .val (.long j8), .second, .val (.ref t10), .val (.int n11), .val (.int n12), .val .null, .val (.ref gxc5060), .val (.ref gxc5100), .val (.int (1 : Int32)), .val (.ref gxc5100)] [(.ref gxc5100), (.ref gxc5100)])
                      refine own_st (fun t k => Jvm.RoadKit.acmp (g := (mkF m 178 #[.val (.long jp0), .second, .val (.long jp1), .second, .val (.int ip2), .val (.int ip3), .val (.int ip4), .val (.int ip5), .val (.long j8), .second, .val (.ref t10), .val (.int n11), .val (.int n12), .val .null, .val (.ref gxc5060), .val (.ref gxc5100), .val (.int (1 : Int32)), .val (.ref gxc5100)] [(.ref gxc5100), (.ref gxc5100)])) X5131 hx rfl rfl rfl (pc0 := 178) (pc' := 181) (same := true) rfl (hb hby at_178) rfl (decide_eq_true (congrArg Value.ref (rfl : gxc5100 = gxc5100))) (by decide) (by decide) (XS.aload X5131.here hx rfl (hb hby at_181) rfl rfl (XS.iload X5131.here hx rfl (hb hby at_183) rfl k))) ?_
                      show own_Go _ _ _ _ T5131 (mkF m 185 #[.val (.long jp0), .second, .val (.long jp1), .second, .val (.int ip2), .val (.int ip3), .val (.int ip4), .val (.int ip5), .val (.long j8), .second, .val (.ref t10), .val (.int n11), .val (.int n12), .val .null, .val (.ref gxc5060), .val (.ref gxc5100), .val (.int (1 : Int32)), .val (.ref gxc5100)] [(.int n12), (.ref t10)])
                      have f5133 := (f5130.keep Kq5131 nin0)
                      have f5134 := (Fc5127_0_0.keep Kq5131 nin0)
                      have f5136 := (f5132.keep Kq5131)
                      refine own_cV (a := t10) X5131 hx hZ hown (own_w hw 76 rfl) (own_w hw 77 rfl) (own_w hw 79 rfl) (own_w hw 78 rfl) (own_w hw 2 rfl) (own_w hw 80 rfl) [(.int n12)] [] f5136 (own_rm14_110 l Z a0 hw [] t10 n12 b3x13_101c5125 k3x13_101c5125c5127 n11 gxc5100 gxc5060 T5131.heap n0 Z5131 f5133 f5134 OFc5127_0_0 hr12 hr11) 0 (hb hby at_185) (by rw [hml]; rfl) (lenOf own_pd7 rfl) rfl rfl rfl (by show 2 * 0 + _ ≤ _; exact Nat.le_of_eq rfl) (by decide) (by decide) (by decide) (by decide) (by decide) fun v5135 T5135 L5135 X5135 hQ5135 => ?_
                      obtain ⟨N5135q, Kq5135, hL5135⟩ := hQ5135
                      have N5135 := Fr.app N5131 N5135q
                      have K5135 : Keep h0 T5135.heap [t10] := K5131.trans Kq5135 all0
                      have Z5135 := Nat.le_trans Z5131 Kq5135.1
                      rcases hL5135 with ⟨rfl, hq5135_0_0, -⟩ | ⟨rfl, hq5135_1_0, -⟩
                      · skip
                        exact absurd hq5135_0_0 (Ne.symm hne)
                      · skip
                        refine own_st (fun t k => XS.aload X5135.here hx rfl (hb hby at_188) rfl rfl (Jvm.RoadKit.acmp (g := (mkF m 190 #[.val (.long jp0), .second, .val (.long jp1), .second, .val (.int ip2), .val (.int ip3), .val (.int ip4), .val (.int ip5), .val (.long j8), .second, .val (.ref t10), .val (.int n11), .val (.int n12), .val .null, .val (.ref gxc5060), .val (.ref gxc5100), .val (.int (1 : Int32)), .val (.ref gxc5100)] [(.ref gxc5060), (.ref gxc5060)])) X5135 hx rfl rfl rfl (pc0 := 190) (pc' := 193) (same := true) rfl (hb hby at_190) rfl (decide_eq_true (congrArg Value.ref (rfl : gxc5060 = gxc5060))) (by decide) (by decide) k)) ?_
                        show own_Go _ _ _ _ T5135 (mkF m 193 #[.val (.long jp0), .second, .val (.long jp1), .second, .val (.int ip2), .val (.int ip3), .val (.int ip4), .val (.int ip5), .val (.long j8), .second, .val (.ref t10), .val (.int n11), .val (.int n12), .val .null, .val (.ref gxc5060), .val (.ref gxc5100), .val (.int (1 : Int32)), .val (.ref gxc5100)] [])
                        refine own_st (fun t k => XS.iconst X5135.here hx rfl (hb hby at_193) (XS.goto X5135.here hx rfl (pc0 := 194) (pc' := 198) rfl (hb hby at_194) (by decide) (by decide) k)) ?_
                        exact own_retZ X5135 hx hlk (t := .boolean) hret (by simp) (hb hby at_198) (by decide) (by decide) rfl ⟨rfl, N5135⟩
  · skip
    refine own_st (fun t k => XS.ifNo X0.here hx rfl (hb hby at_51) rfl ((if0 _ _).trans (feq hc5001).1) k) ?_
    show own_Go _ _ _ _ T0 (mkF m 54 #[.val (.long jp0), .second, .val (.long jp1), .second, .val (.int ip2), .val (.int ip3), .val (.int ip4), .val (.int ip5), .val (.long j8), .second, .val (.ref t10), .val (.int n11), .val (.int n12), .unset, .unset, .unset, .unset, .unset] [])
    refine own_st (fun t k => XS.iload X0.here hx rfl (hb hby at_54) rfl k) ?_
    refine own_cS X0 hx hZ hown (own_w hw 62 rfl) (own_w hw 63 rfl) (own_w hw 29 rfl) (own_w hw 64 rfl) [(.int ip2)] [] (own_rm12_91 l Z a0 hw [] ip2 w_cache h0 n0 Z0 P5 P4 P6) 0 (hb hby at_56) (by rw [hml]; rfl) (lenOf own_pd9 rfl) e0 rfl rfl (by show 2 * 0 + _ ≤ _; exact Nat.le_of_eq rfl) (by decide) (by decide) (by decide) (by decide) (by decide) fun v5137 T5137 L5137 X5137 hQ5137 => ?_
    obtain ⟨N5137q, Kq5137, hL5137⟩ := hQ5137
    have N5137 := Fr.app N0 N5137q
    have K5137 : Keep h0 T5137.heap [t10] := (Keep.refl h0 [t10]).trans Kq5137 all0
    have Z5137 := Nat.le_trans Z0 Kq5137.1
    rcases hL5137 with ⟨gxc5137, rfl, Fc5137_0_0, -⟩
    · skip
      refine own_st (fun t k => XS.goto X5137.here hx rfl (pc0 := 59) (pc' := 63) rfl (hb hby at_59) (by decide) (by decide) k) ?_
      show own_Go _ _ _ _ T5137 (mkF m 63 #[.val (.long jp0), .second, .val (.long jp1), .second, .val (.int ip2), .val (.int ip3), .val (.int ip4), .val (.int ip5), .val (.long j8), .second, .val (.ref t10), .val (.int n11), .val (.int n12), .unset, .unset, .unset, .unset, .unset] [(.ref gxc5137)])
      refine own_st (fun t k => XS.astore X5137.here hx rfl (hb hby at_63) rfl rfl (l' := #[.val (.long jp0), .second, .val (.long jp1), .second, .val (.int ip2), .val (.int ip3), .val (.int ip4), .val (.int ip5), .val (.long j8), .second, .val (.ref t10), .val (.int n11), .val (.int n12), .val (.ref gxc5137), .unset, .unset, .unset, .unset]) rfl (XS.iload X5137.here hx rfl (hb hby at_65) rfl (XS.iconst X5137.here hx rfl (hb hby at_67) k))) ?_
      show own_Go _ _ _ _ T5137 (mkF m 68 #[.val (.long jp0), .second, .val (.long jp1), .second, .val (.int ip2), .val (.int ip3), .val (.int ip4), .val (.int ip5), .val (.long j8), .second, .val (.ref t10), .val (.int n11), .val (.int n12), .val (.ref gxc5137), .unset, .unset, .unset, .unset] [(.int (2 : Int32)), (.int ip5)])
      refine own_st (fun t k => XS.iand X5137.here hx rfl (hb hby at_68) rfl k) ?_
      by_cases hc5138 : (ip5 &&& (2 : Int32)) = (0 : Int32)
      · skip
        refine own_st (fun t k => XS.ifYes X5137.here hx rfl (pc0 := 69) (pc' := 80) rfl (hb hby at_69) rfl ((if0 _ _).trans (teq hc5138).1) (by decide) (by decide) (XS.aconstNull X5137.here hx rfl (hb hby at_80) k)) ?_
        show own_Go _ _ _ _ T5137 (mkF m 81 #[.val (.long jp0), .second, .val (.long jp1), .second, .val (.int ip2), .val (.int ip3), .val (.int ip4), .val (.int ip5), .val (.long j8), .second, .val (.ref t10), .val (.int n11), .val (.int n12), .val (.ref gxc5137), .unset, .unset, .unset, .unset] [.null])
        refine own_st (fun t k => XS.astore X5137.here hx rfl (hb hby at_81) rfl rfl (l' := #[.val (.long jp0), .second, .val (.long jp1), .second, .val (.int ip2), .val (.int ip3), .val (.int ip4), .val (.int ip5), .val (.long j8), .second, .val (.ref t10), .val (.int n11), .val (.int n12), .val (.ref gxc5137), .val .null, .unset, .unset, .unset]) rfl (XS.iload X5137.here hx rfl (hb hby at_83) rfl (XS.bipush X5137.here hx rfl (hb hby at_85) k))) ?_
        show own_Go _ _ _ _ T5137 (mkF m 87 #[.val (.long jp0), .second, .val (.long jp1), .second, .val (.int ip2), .val (.int ip3), .val (.int ip4), .val (.int ip5), .val (.long j8), .second, .val (.ref t10), .val (.int n11), .val (.int n12), .val (.ref gxc5137), .val .null, .unset, .unset, .unset] [(.int (8 : Int32)), (.int ip5)])
        refine own_st (fun t k => XS.iand X5137.here hx rfl (hb hby at_87) rfl k) ?_
        by_cases hc5139 : (ip5 &&& (8 : Int32)) = (0 : Int32)
        · skip
          refine own_st (fun t k => XS.ifYes X5137.here hx rfl (pc0 := 88) (pc' := 99) rfl (hb hby at_88) rfl ((if0 _ _).trans (teq hc5139).1) (by decide) (by decide) (XS.aconstNull X5137.here hx rfl (hb hby at_99) k)) ?_
          show own_Go _ _ _ _ T5137 (mkF m 100 #[.val (.long jp0), .second, .val (.long jp1), .second, .val (.int ip2), .val (.int ip3), .val (.int ip4), .val (.int ip5), .val (.long j8), .second, .val (.ref t10), .val (.int n11), .val (.int n12), .val (.ref gxc5137), .val .null, .unset, .unset, .unset] [.null])
          refine own_st (fun t k => XS.astore X5137.here hx rfl (hb hby at_100) rfl rfl (l' := #[.val (.long jp0), .second, .val (.long jp1), .second, .val (.int ip2), .val (.int ip3), .val (.int ip4), .val (.int ip5), .val (.long j8), .second, .val (.ref t10), .val (.int n11), .val (.int n12), .val (.ref gxc5137), .val .null, .val .null, .unset, .unset]) rfl (XS.iload X5137.here hx rfl (hb hby at_102) rfl (XS.iconst X5137.here hx rfl (hb hby at_104) k))) ?_
          show own_Go _ _ _ _ T5137 (mkF m 105 #[.val (.long jp0), .second, .val (.long jp1), .second, .val (.int ip2), .val (.int ip3), .val (.int ip4), .val (.int ip5), .val (.long j8), .second, .val (.ref t10), .val (.int n11), .val (.int n12), .val (.ref gxc5137), .val .null, .val .null, .unset, .unset] [(.int (4 : Int32)), (.int ip5)])
          refine own_st (fun t k => XS.iand X5137.here hx rfl (hb hby at_105) rfl k) ?_
          by_cases hc5140 : (ip5 &&& (4 : Int32)) = (0 : Int32)
          · skip
            refine own_st (fun t k => XS.ifYes X5137.here hx rfl (pc0 := 106) (pc' := 113) rfl (hb hby at_106) rfl ((if0 _ _).trans (teq hc5140).1) (by decide) (by decide) (XS.iconst X5137.here hx rfl (hb hby at_113) k)) ?_
            show own_Go _ _ _ _ T5137 (mkF m 114 #[.val (.long jp0), .second, .val (.long jp1), .second, .val (.int ip2), .val (.int ip3), .val (.int ip4), .val (.int ip5), .val (.long j8), .second, .val (.ref t10), .val (.int n11), .val (.int n12), .val (.ref gxc5137), .val .null, .val .null, .unset, .unset] [(.int (0 : Int32))])
            refine own_st (fun t k => XS.istore X5137.here hx rfl (hb hby at_114) rfl (l' := #[.val (.long jp0), .second, .val (.long jp1), .second, .val (.int ip2), .val (.int ip3), .val (.int ip4), .val (.int ip5), .val (.long j8), .second, .val (.ref t10), .val (.int n11), .val (.int n12), .val (.ref gxc5137), .val .null, .val .null, .val (.int (0 : Int32)), .unset]) rfl (XS.aload X5137.here hx rfl (hb hby at_116) rfl rfl (XS.iload X5137.here hx rfl (hb hby at_118) rfl k))) ?_
            show own_Go _ _ _ _ T5137 (mkF m 120 #[.val (.long jp0), .second, .val (.long jp1), .second, .val (.int ip2), .val (.int ip3), .val (.int ip4), .val (.int ip5), .val (.long j8), .second, .val (.ref t10), .val (.int n11), .val (.int n12), .val (.ref gxc5137), .val .null, .val .null, .val (.int (0 : Int32)), .unset] [(.int n11), (.ref t10)])
            refine own_st (fun t k => XS.aload X5137.here hx rfl (hb hby at_120) rfl rfl k) ?_
            have f5141 := (P1.keep Kq5137 nin0)
            have f5142 := (P2.keep Kq5137 nin0)
            have f5143 := (P3.keep Kq5137 nin0)
            have f5144 := (P0.keep Kq5137)
            refine own_cV (a := t10) X5137 hx hZ hown (own_w hw 68 rfl) (own_w hw 69 rfl) (own_w hw 71 rfl) (own_w hw 70 rfl) (own_w hw 2 rfl) (own_w hw 72 rfl) [(.int n11), (.ref gxc5137)] [] f5144 (own_rm13_97 l Z a0 hw [] t10 n11 gxc5137 u10 T5137.heap n0 Z5137 f5141 f5142 f5143 f5144 g_t10 hr11 Fc5137_0_0) 0 (hb hby at_122) (by rw [hml]; rfl) (lenOf own_pd6 rfl) rfl rfl rfl (by show 2 * 0 + _ ≤ _; exact Nat.le_of_eq rfl) (by decide) (by decide) (by decide) (by decide) (by decide) fun v5145 T5145 L5145 X5145 hQ5145 => ?_
            obtain ⟨N5145q, Kq5145, hL5145⟩ := hQ5145
            have N5145 := Fr.app N5137 N5145q
            have K5145 : Keep h0 T5145.heap [t10] := K5137.trans Kq5145 (allS (Or.inl (List.mem_of_getElem? (i := 0) rfl)) all0)
            have Z5145 := Nat.le_trans Z5137 Kq5145.1
            rcases hL5145 with ⟨b3x13_97c5145, k3x13_97c5145, rfl, sq_b3x13_97c5145, Fc5145_0_0, Fc5145_0_1, Fc5145_0_2, OFc5145_0_2, Fc5145_0_3, -⟩
            · skip
              have g_b3x13_97c5145 : n0 ≤ b3x13_97c5145 := Nat.le_trans Z5137 sq_b3x13_97c5145
              have sz_b3x13_97c5145 : h0.size ≤ b3x13_97c5145 := Nat.le_trans K5137.1 sq_b3x13_97c5145
              refine own_st (fun t k => XS.aload X5145.here hx rfl (hb hby at_125) rfl rfl k) ?_
              show own_Go _ _ _ _ T5145 (mkF m 127 #[.val (.long jp0), .second, .val (.long jp1), .second, .val (.int ip2), .val (.int ip3), .val (.int ip4), .val (.int ip5), .val (.long j8), .second, .val (.ref t10), .val (.int n11), .val (.int n12), .val (.ref gxc5137), .val .null, .val .null, .val (.int (0 : Int32)), .unset] [(.ref t10)])
              refine own_st (fun t k => XS.iload X5145.here hx rfl (hb hby at_127) rfl (XS.aload X5145.here hx rfl (hb hby at_129) rfl rfl k)) ?_
              have f5147 := (f5144.keep Kq5145)
              refine own_cV (a := t10) X5145 hx hZ hown (own_w hw 68 rfl) (own_w hw 69 rfl) (own_w hw 71 rfl) (own_w hw 70 rfl) (own_w hw 2 rfl) (own_w hw 72 rfl) [(.int n12), .null] [] f5147 (own_rm13_112 l Z a0 hw [] t10 n12 b3x13_97c5145 k3x13_97c5145 n11 gxc5137 T5145.heap n0 Z5145 Fc5145_0_0 Fc5145_0_2 OFc5145_0_2 hr12 g_b3x13_97c5145) 0 (hb hby at_131) (by rw [hml]; rfl) (lenOf own_pd6 rfl) rfl rfl rfl (by show 2 * 0 + _ ≤ _; exact Nat.le_of_eq rfl) (by decide) (by decide) (by decide) (by decide) (by decide) fun v5146 T5146 L5146 X5146 hQ5146 => ?_
              obtain ⟨N5146q, Kq5146, hL5146⟩ := hQ5146
              have N5146 := Fr.app N5145 N5146q
              have K5146 : Keep h0 T5146.heap [t10] := K5145.trans Kq5146 (allS (Or.inr sz_b3x13_97c5145) all0)
              have Z5146 := Nat.le_trans Z5145 Kq5146.1
              rcases hL5146 with ⟨k3x13_97c5145c5146, rfl, Fc5146_0_0, OFc5146_0_0, -⟩
              · skip
                show own_Go _ _ _ _ T5146 (mkF m 134 #[.val (.long jp0), .second, .val (.long jp1), .second, .val (.int ip2), .val (.int ip3), .val (.int ip4), .val (.int ip5), .val (.long j8), .second, .val (.ref t10), .val (.int n11), .val (.int n12), .val (.ref gxc5137), .val .null, .val .null, .val (.int (0 : Int32)), .unset] [])
                refine own_st (fun t k => XS.iload X5146.here hx rfl (hb hby at_134) rfl (XS.ifYes X5146.here hx rfl (pc0 := 136) (pc' := 148) rfl (hb hby at_136) rfl ((if0 _ _).trans (teq (by decide : (0 : Int32) = (0 : Int32))).1) (by decide) (by decide) (XS.iload X5146.here hx rfl (hb hby at_148) rfl k))) ?_
                show own_Go _ _ _ _ T5146 (mkF m 150 #[.val (.long jp0), .second, .val (.long jp1), .second, .val (.int ip2), .val (.int ip3), .val (.int ip4), .val (.int ip5), .val (.long j8), .second, .val (.ref t10), .val (.int n11), .val (.int n12), .val (.ref gxc5137), .val .null, .val .null, .val (.int (0 : Int32)), .unset] [(.int (0 : Int32))])
                refine own_st (fun t k => XS.ifYes X5146.here hx rfl (pc0 := 150) (pc' := 158) rfl (hb hby at_150) rfl ((if0 _ _).trans (teq (by decide : (0 : Int32) = (0 : Int32))).1) (by decide) (by decide) (XS.aload X5146.here hx rfl (hb hby at_158) rfl rfl (XS.astore X5146.here hx rfl (hb hby at_160) rfl rfl (l' := #[.val (.long jp0), .second, .val (.long jp1), .second, .val (.int ip2), .val (.int ip3), .val (.int ip4), .val (.int ip5), .val (.long j8), .second, .val (.ref t10), .val (.int n11), .val (.int n12), .val (.ref gxc5137), .val .null, .val .null, .val (.int (0 : Int32)), .val (.ref gxc5137)]) rfl k))) ?_
                show own_Go _ _ _ _ T5146 (mkF m 162 #[.val (.long jp0), .second, .val (.long jp1), .second, .val (.int ip2), .val (.int ip3), .val (.int ip4), .val (.int ip5), .val (.long j8), .second, .val (.ref t10), .val (.int n11), .val (.int n12), .val (.ref gxc5137), .val .null, .val .null, .val (.int (0 : Int32)), .val (.ref gxc5137)] [])
                refine own_st (fun t k => XS.iload X5146.here hx rfl (hb hby at_162) rfl (XS.iload X5146.here hx rfl (hb hby at_164) rfl (XS.icmpNo X5146.here hx rfl (hb hby at_166) rfl (feq hne).1 k))) ?_
                show own_Go _ _ _ _ T5146 (mkF m 169 #[.val (.long jp0), .second, .val (.long jp1), .second, .val (.int ip2), .val (.int ip3), .val (.int ip4), .val (.int ip5), .val (.long j8), .second, .val (.ref t10), .val (.int n11), .val (.int n12), .val (.ref gxc5137), .val .null, .val .null, .val (.int (0 : Int32)), .val (.ref gxc5137)] [])
                refine own_st (fun t k => XS.aload X5146.here hx rfl (hb hby at_169) rfl rfl (XS.iload X5146.here hx rfl (hb hby at_171) rfl k)) ?_
                have ne5148 : t10 ≠ b3x13_97c5145 := Nat.ne_of_lt (Nat.lt_of_lt_of_le P0.lt sz_b3x13_97c5145)
                have f5149 := (Fc5145_0_0.keep Kq5146 (ninS ne5148 nin0))
                have f5151 := (f5147.keep Kq5146)
                refine own_cV (a := t10) X5146 hx hZ hown (own_w hw 76 rfl) (own_w hw 77 rfl) (own_w hw 79 rfl) (own_w hw 78 rfl) (own_w hw 2 rfl) (own_w hw 80 rfl) [(.int n11)] [] f5151 (own_rm14_113 l Z a0 hw [] t10 n11 b3x13_97c5145 k3x13_97c5145c5146 n12 gxc5137 T5146.heap n0 Z5146 f5149 Fc5146_0_0 OFc5146_0_0 hr11 hr12) 0 (hb hby at_173) (by rw [hml]; rfl) (lenOf own_pd7 rfl) rfl rfl rfl (by show 2 * 0 + _ ≤ _; exact Nat.le_of_eq rfl) (by decide) (by decide) (by decide) (by decide) (by decide) fun v5150 T5150 L5150 X5150 hQ5150 => ?_
                obtain ⟨N5150q, Kq5150, hL5150⟩ := hQ5150
                have N5150 := Fr.app N5146 N5150q
                have K5150 : Keep h0 T5150.heap [t10] := K5146.trans Kq5150 all0
                have Z5150 := Nat.le_trans Z5146 Kq5150.1
                rcases hL5150 with ⟨rfl, hq5150_0_0, -⟩ | ⟨rfl, hq5150_1_0, -⟩
                · skip
                  exact absurd hq5150_0_0 hne
                · skip
                  show own_Go _ _ _ _ T5150 (mkF m 176 #[.val (.long jp0), .second, .val (.long jp1), .second, .val (.int ip2), .val (.int ip3), .val (.int ip4), .val (.int ip5), .val (.long j8), .second, .val (.ref t10), .val (.int n11), .val (.int n12), .val (.ref gxc5137), .val .null, .val .null, .val (.int (0 : Int32)), .val (.ref gxc5137)] [(.ref gxc5137)])
                  refine own_st (fun t k => XS.aload X5150.here hx rfl (hb hby at_176) rfl rfl (Jvm.RoadKit.acmp (g := (mkF m 178 #[.val (.long jp0), .second, .val (.long jp1), .second, .val (.int ip2), .val (.int ip3), .val (.int ip4), .val (.int ip5), .val (.long j8), .second, .val (.ref t10), .val (.int n11), .val (.int n12), .val (.ref gxc5137), .val .null, .val .null, .val (.int (0 : Int32)), .val (.ref gxc5137)] [(.ref gxc5137), (.ref gxc5137)])) X5150 hx rfl rfl rfl (pc0 := 178) (pc' := 181) (same := true) rfl (hb hby at_178) rfl (decide_eq_true (congrArg Value.ref (rfl : gxc5137 = gxc5137))) (by decide) (by decide) (XS.aload X5150.here hx rfl (hb hby at_181) rfl rfl k))) ?_
                  show own_Go _ _ _ _ T5150 (mkF m 183 #[.val (.long jp0), .second, .val (.long jp1), .second, .val (.int ip2), .val (.int ip3), .val (.int ip4), .val (.int ip5), .val (.long j8), .second, .val (.ref t10), .val (.int n11), .val (.int n12), .val (.ref gxc5137), .val .null, .val .null, .val (.int (0 : Int32)), .val (.ref gxc5137)] [(.ref t10)])
                  refine own_st (fun t k => XS.iload X5150.here hx rfl (hb hby at_183) rfl k) ?_
                  have f5152 := (f5149.keep Kq5150 nin0)
                  have f5153 := (Fc5146_0_0.keep Kq5150 nin0)
                  have f5155 := (f5151.keep Kq5150)
                  refine own_cV (a := t10) X5150 hx hZ hown (own_w hw 76 rfl) (own_w hw 77 rfl) (own_w hw 79 rfl) (own_w hw 78 rfl) (own_w hw 2 rfl) (own_w hw 80 rfl) [(.int n12)] [] f5155 (own_rm14_114 l Z a0 hw [] t10 n12 b3x13_97c5145 k3x13_97c5145c5146 n11 gxc5137 T5150.heap n0 Z5150 f5152 f5153 OFc5146_0_0 hr12) 0 (hb hby at_185) (by rw [hml]; rfl) (lenOf own_pd7 rfl) rfl rfl rfl (by show 2 * 0 + _ ≤ _; exact Nat.le_of_eq rfl) (by decide) (by decide) (by decide) (by decide) (by decide) fun v5154 T5154 L5154 X5154 hQ5154 => ?_
                  obtain ⟨N5154q, Kq5154, hL5154⟩ := hQ5154
                  have N5154 := Fr.app N5150 N5154q
                  have K5154 : Keep h0 T5154.heap [t10] := K5150.trans Kq5154 all0
                  have Z5154 := Nat.le_trans Z5150 Kq5154.1
                  rcases hL5154 with ⟨rfl, -⟩
                  · skip
                    refine own_st (fun t k => XS.aload X5154.here hx rfl (hb hby at_188) rfl rfl k) ?_
                    show own_Go _ _ _ _ T5154 (mkF m 190 #[.val (.long jp0), .second, .val (.long jp1), .second, .val (.int ip2), .val (.int ip3), .val (.int ip4), .val (.int ip5), .val (.long j8), .second, .val (.ref t10), .val (.int n11), .val (.int n12), .val (.ref gxc5137), .val .null, .val .null, .val (.int (0 : Int32)), .val (.ref gxc5137)] [.null, .null])
                    refine own_st (fun t k => Jvm.RoadKit.acmp (g := (mkF m 190 #[.val (.long jp0), .second, .val (.long jp1), .second, .val (.int ip2), .val (.int ip3), .val (.int ip4), .val (.int ip5), .val (.long j8), .second, .val (.ref t10), .val (.int n11), .val (.int n12), .val (.ref gxc5137), .val .null, .val .null, .val (.int (0 : Int32)), .val (.ref gxc5137)] [.null, .null])) X5154 hx rfl rfl rfl (pc0 := 190) (pc' := 193) (same := true) rfl (hb hby at_190) rfl (decide_eq_true rfl) (by decide) (by decide) (XS.iconst X5154.here hx rfl (hb hby at_193) (XS.goto X5154.here hx rfl (pc0 := 194) (pc' := 198) rfl (hb hby at_194) (by decide) (by decide) k))) ?_
                    show own_Go _ _ _ _ T5154 (mkF m 198 #[.val (.long jp0), .second, .val (.long jp1), .second, .val (.int ip2), .val (.int ip3), .val (.int ip4), .val (.int ip5), .val (.long j8), .second, .val (.ref t10), .val (.int n11), .val (.int n12), .val (.ref gxc5137), .val .null, .val .null, .val (.int (0 : Int32)), .val (.ref gxc5137)] [(.int (1 : Int32))])
                    exact own_retZ X5154 hx hlk (t := .boolean) hret (by simp) (hb hby at_198) (by decide) (by decide) rfl ⟨rfl, N5154⟩
          · skip
            refine own_st (fun t k => XS.ifNo X5137.here hx rfl (hb hby at_106) rfl ((if0 _ _).trans (feq hc5140).1) (XS.iconst X5137.here hx rfl (hb hby at_109) (XS.goto X5137.here hx rfl (pc0 := 110) (pc' := 114) rfl (hb hby at_110) (by decide) (by decide) k))) ?_
            show own_Go _ _ _ _ T5137 (mkF m 114 #[.val (.long jp0), .second, .val (.long jp1), .second, .val (.int ip2), .val (.int ip3), .val (.int ip4), .val (.int ip5), .val (.long j8), .second, .val (.ref t10), .val (.int n11), .val (.int n12), .val (.ref gxc5137), .val .null, .val .null, .unset, .unset] [(.int (1 : Int32))])
            refine own_st (fun t k => XS.istore X5137.here hx rfl (hb hby at_114) rfl (l' := #[.val (.long jp0), .second, .val (.long jp1), .second, .val (.int ip2), .val (.int ip3), .val (.int ip4), .val (.int ip5), .val (.long j8), .second, .val (.ref t10), .val (.int n11), .val (.int n12), .val (.ref gxc5137), .val .null, .val .null, .val (.int (1 : Int32)), .unset]) rfl (XS.aload X5137.here hx rfl (hb hby at_116) rfl rfl (XS.iload X5137.here hx rfl (hb hby at_118) rfl k))) ?_
            show own_Go _ _ _ _ T5137 (mkF m 120 #[.val (.long jp0), .second, .val (.long jp1), .second, .val (.int ip2), .val (.int ip3), .val (.int ip4), .val (.int ip5), .val (.long j8), .second, .val (.ref t10), .val (.int n11), .val (.int n12), .val (.ref gxc5137), .val .null, .val .null, .val (.int (1 : Int32)), .unset] [(.int n11), (.ref t10)])
            refine own_st (fun t k => XS.aload X5137.here hx rfl (hb hby at_120) rfl rfl k) ?_
            have f5156 := (P1.keep Kq5137 nin0)
            have f5157 := (P2.keep Kq5137 nin0)
            have f5158 := (P3.keep Kq5137 nin0)
            have f5159 := (P0.keep Kq5137)
            refine own_cV (a := t10) X5137 hx hZ hown (own_w hw 68 rfl) (own_w hw 69 rfl) (own_w hw 71 rfl) (own_w hw 70 rfl) (own_w hw 2 rfl) (own_w hw 72 rfl) [(.int n11), (.ref gxc5137)] [] f5159 (own_rm13_97 l Z a0 hw [] t10 n11 gxc5137 u10 T5137.heap n0 Z5137 f5156 f5157 f5158 f5159 g_t10 hr11 Fc5137_0_0) 0 (hb hby at_122) (by rw [hml]; rfl) (lenOf own_pd6 rfl) rfl rfl rfl (by show 2 * 0 + _ ≤ _; exact Nat.le_of_eq rfl) (by decide) (by decide) (by decide) (by decide) (by decide) fun v5160 T5160 L5160 X5160 hQ5160 => ?_
            obtain ⟨N5160q, Kq5160, hL5160⟩ := hQ5160
            have N5160 := Fr.app N5137 N5160q
            have K5160 : Keep h0 T5160.heap [t10] := K5137.trans Kq5160 (allS (Or.inl (List.mem_of_getElem? (i := 0) rfl)) all0)
            have Z5160 := Nat.le_trans Z5137 Kq5160.1
            rcases hL5160 with ⟨b3x13_97c5160, k3x13_97c5160, rfl, sq_b3x13_97c5160, Fc5160_0_0, Fc5160_0_1, Fc5160_0_2, OFc5160_0_2, Fc5160_0_3, -⟩
            · skip
              have g_b3x13_97c5160 : n0 ≤ b3x13_97c5160 := Nat.le_trans Z5137 sq_b3x13_97c5160
              have sz_b3x13_97c5160 : h0.size ≤ b3x13_97c5160 := Nat.le_trans K5137.1 sq_b3x13_97c5160
              refine own_st (fun t k => XS.aload X5160.here hx rfl (hb hby at_125) rfl rfl k) ?_
              show own_Go _ _ _ _ T5160 (mkF m 127 #[.val (.long jp0), .second, .val (.long jp1), .second, .val (.int ip2), .val (.int ip3), .val (.int ip4), .val (.int ip5), .val (.long j8), .second, .val (.ref t10), .val (.int n11), .val (.int n12), .val (.ref gxc5137), .val .null, .val .null, .val (.int (1 : Int32)), .unset] [(.ref t10)])
              refine own_st (fun t k => XS.iload X5160.here hx rfl (hb hby at_127) rfl (XS.aload X5160.here hx rfl (hb hby at_129) rfl rfl k)) ?_
              have f5162 := (f5159.keep Kq5160)
              refine own_cV (a := t10) X5160 hx hZ hown (own_w hw 68 rfl) (own_w hw 69 rfl) (own_w hw 71 rfl) (own_w hw 70 rfl) (own_w hw 2 rfl) (own_w hw 72 rfl) [(.int n12), .null] [] f5162 (own_rm13_112 l Z a0 hw [] t10 n12 b3x13_97c5160 k3x13_97c5160 n11 gxc5137 T5160.heap n0 Z5160 Fc5160_0_0 Fc5160_0_2 OFc5160_0_2 hr12 g_b3x13_97c5160) 0 (hb hby at_131) (by rw [hml]; rfl) (lenOf own_pd6 rfl) rfl rfl rfl (by show 2 * 0 + _ ≤ _; exact Nat.le_of_eq rfl) (by decide) (by decide) (by decide) (by decide) (by decide) fun v5161 T5161 L5161 X5161 hQ5161 => ?_
              obtain ⟨N5161q, Kq5161, hL5161⟩ := hQ5161
              have N5161 := Fr.app N5160 N5161q
              have K5161 : Keep h0 T5161.heap [t10] := K5160.trans Kq5161 (allS (Or.inr sz_b3x13_97c5160) all0)
              have Z5161 := Nat.le_trans Z5160 Kq5161.1
              rcases hL5161 with ⟨k3x13_97c5145c5161, rfl, Fc5161_0_0, OFc5161_0_0, -⟩
              · skip
                show own_Go _ _ _ _ T5161 (mkF m 134 #[.val (.long jp0), .second, .val (.long jp1), .second, .val (.int ip2), .val (.int ip3), .val (.int ip4), .val (.int ip5), .val (.long j8), .second, .val (.ref t10), .val (.int n11), .val (.int n12), .val (.ref gxc5137), .val .null, .val .null, .val (.int (1 : Int32)), .unset] [])
                refine own_st (fun t k => XS.iload X5161.here hx rfl (hb hby at_134) rfl (XS.ifNo X5161.here hx rfl (hb hby at_136) rfl ((if0 _ _).trans (feq (by decide : ¬ ((1 : Int32) = (0 : Int32)))).1) (XS.aload X5161.here hx rfl (hb hby at_139) rfl rfl k))) ?_
                show own_Go _ _ _ _ T5161 (mkF m 141 #[.val (.long jp0), .second, .val (.long jp1), .second, .val (.int ip2), .val (.int ip3), .val (.int ip4), .val (.int ip5), .val (.long j8), .second, .val (.ref t10), .val (.int n11), .val (.int n12), .val (.ref gxc5137), .val .null, .val .null, .val (.int (1 : Int32)), .unset] [(.ref t10)])
                refine own_st (fun t k => XS.iload X5161.here hx rfl (hb hby at_141) rfl (XS.aload X5161.here hx rfl (hb hby at_143) rfl rfl k)) ?_
                have ne5163 : t10 ≠ b3x13_97c5160 := Nat.ne_of_lt (Nat.lt_of_lt_of_le P0.lt sz_b3x13_97c5160)
                have f5164 := (Fc5160_0_0.keep Kq5161 (ninS ne5163 nin0))
                have f5166 := (f5162.keep Kq5161)
                refine own_cV (a := t10) X5161 hx hZ hown (own_w hw 68 rfl) (own_w hw 69 rfl) (own_w hw 71 rfl) (own_w hw 70 rfl) (own_w hw 2 rfl) (own_w hw 72 rfl) [(.int n11), .null] [] f5166 (own_rm13_116 l Z a0 hw [] t10 n11 b3x13_97c5160 k3x13_97c5145c5161 n12 gxc5137 T5161.heap n0 Z5161 f5164 Fc5161_0_0 OFc5161_0_0 hr11 g_b3x13_97c5160) 0 (hb hby at_145) (by rw [hml]; rfl) (lenOf own_pd6 rfl) rfl rfl rfl (by show 2 * 0 + _ ≤ _; exact Nat.le_of_eq rfl) (by decide) (by decide) (by decide) (by decide) (by decide) fun v5165 T5165 L5165 X5165 hQ5165 => ?_
                obtain ⟨N5165q, Kq5165, hL5165⟩ := hQ5165
                have N5165 := Fr.app N5161 N5165q
                have K5165 : Keep h0 T5165.heap [t10] := K5161.trans Kq5165 (allS (Or.inr sz_b3x13_97c5160) all0)
                have Z5165 := Nat.le_trans Z5161 Kq5165.1
                rcases hL5165 with ⟨k3x13_97c5145c5161c5165, rfl, Fc5165_0_0, OFc5165_0_0, -⟩
                · skip
                  show own_Go _ _ _ _ T5165 (mkF m 148 #[.val (.long jp0), .second, .val (.long jp1), .second, .val (.int ip2), .val (.int ip3), .val (.int ip4), .val (.int ip5), .val (.long j8), .second, .val (.ref t10), .val (.int n11), .val (.int n12), .val (.ref gxc5137), .val .null, .val .null, .val (.int (1 : Int32)), .unset] [])
                  refine own_st (fun t k => XS.iload X5165.here hx rfl (hb hby at_148) rfl (XS.ifNo X5165.here hx rfl (hb hby at_150) rfl ((if0 _ _).trans (feq (by decide : ¬ ((1 : Int32) = (0 : Int32)))).1) (XS.aload X5165.here hx rfl (hb hby at_153) rfl rfl k))) ?_
                  show own_Go _ _ _ _ T5165 (mkF m 155 #[.val (.long jp0), .second, .val (.long jp1), .second, .val (.int ip2), .val (.int ip3), .val (.int ip4), .val (.int ip5), .val (.long j8), .second, .val (.ref t10), .val (.int n11), .val (.int n12), .val (.ref gxc5137), .val .null, .val .null, .val (.int (1 : Int32)), .unset] [.null])
                  refine own_st (fun t k => XS.goto X5165.here hx rfl (pc0 := 155) (pc' := 160) rfl (hb hby at_155) (by decide) (by decide) (XS.astore X5165.here hx rfl (hb hby at_160) rfl rfl (l' := #[.val (.long jp0), .second, .val (.long jp1), .second, .val (.int ip2), .val (.int ip3), .val (.int ip4), .val (.int ip5), .val (.long j8), .second, .val (.ref t10), .val (.int n11), .val (.int n12), .val (.ref gxc5137), .val .null, .val .null, .val (.int (1 : Int32)), .val .null]) rfl (XS.iload X5165.here hx rfl (hb hby at_162) rfl k))) ?_
                  show own_Go _ _ _ _ T5165 (mkF m 164 #[.val (.long jp0), .second, .val (.long jp1), .second, .val (.int ip2), .val (.int ip3), .val (.int ip4), .val (.int ip5), .val (.long j8), .second, .val (.ref t10), .val (.int n11), .val (.int n12), .val (.ref gxc5137), .val .null, .val .null, .val (.int (1 : Int32)), .val .null] [(.int n11)])
                  refine own_st (fun t k => XS.iload X5165.here hx rfl (hb hby at_164) rfl (XS.icmpNo X5165.here hx rfl (hb hby at_166) rfl (feq hne).1 (XS.aload X5165.here hx rfl (hb hby at_169) rfl rfl k))) ?_
                  show own_Go _ _ _ _ T5165 (mkF m 171 #[.val (.long jp0), .second, .val (.long jp1), .second, .val (.int ip2), .val (.int ip3), .val (.int ip4), .val (.int ip5), .val (.long j8), .second, .val (.ref t10), .val (.int n11), .val (.int n12), .val (.ref gxc5137), .val .null, .val .null, .val (.int (1 : Int32)), .val .null] [(.ref t10)])
                  refine own_st (fun t k => XS.iload X5165.here hx rfl (hb hby at_171) rfl k) ?_
                  have f5167 := (f5164.keep Kq5165 (ninS ne5163 nin0))
                  have f5169 := (f5166.keep Kq5165)
                  refine own_cV (a := t10) X5165 hx hZ hown (own_w hw 76 rfl) (own_w hw 77 rfl) (own_w hw 79 rfl) (own_w hw 78 rfl) (own_w hw 2 rfl) (own_w hw 80 rfl) [(.int n11)] [] f5169 (own_rm14_117 l Z a0 hw [] t10 n11 b3x13_97c5160 k3x13_97c5145c5161c5165 n12 gxc5137 T5165.heap n0 Z5165 f5167 Fc5165_0_0 OFc5165_0_0 hr11) 0 (hb hby at_173) (by rw [hml]; rfl) (lenOf own_pd7 rfl) rfl rfl rfl (by show 2 * 0 + _ ≤ _; exact Nat.le_of_eq rfl) (by decide) (by decide) (by decide) (by decide) (by decide) fun v5168 T5168 L5168 X5168 hQ5168 => ?_
                  obtain ⟨N5168q, Kq5168, hL5168⟩ := hQ5168
                  have N5168 := Fr.app N5165 N5168q
                  have K5168 : Keep h0 T5168.heap [t10] := K5165.trans Kq5168 all0
                  have Z5168 := Nat.le_trans Z5165 Kq5168.1
                  rcases hL5168 with ⟨rfl, -⟩
                  · skip
                    refine own_st (fun t k => XS.aload X5168.here hx rfl (hb hby at_176) rfl rfl k) ?_
                    show own_Go _ _ _ _ T5168 (mkF m 178 #[.val (.long jp0), .second, .val (.long jp1), .second, .val (.int ip2), .val (.int ip3), .val (.int ip4), .val (.int ip5), .val (.long j8), .second, .val (.ref t10), .val (.int n11), .val (.int n12), .val (.ref gxc5137), .val .null, .val .null, .val (.int (1 : Int32)), .val .null] [.null, .null])
                    refine own_st (fun t k => Jvm.RoadKit.acmp (g := (mkF m 178 #[.val (.long jp0), .second, .val (.long jp1), .second, .val (.int ip2), .val (.int ip3), .val (.int ip4), .val (.int ip5), .val (.long j8), .second, .val (.ref t10), .val (.int n11), .val (.int n12), .val (.ref gxc5137), .val .null, .val .null, .val (.int (1 : Int32)), .val .null] [.null, .null])) X5168 hx rfl rfl rfl (pc0 := 178) (pc' := 181) (same := true) rfl (hb hby at_178) rfl (decide_eq_true rfl) (by decide) (by decide) (XS.aload X5168.here hx rfl (hb hby at_181) rfl rfl (XS.iload X5168.here hx rfl (hb hby at_183) rfl k))) ?_
                    show own_Go _ _ _ _ T5168 (mkF m 185 #[.val (.long jp0), .second, .val (.long jp1), .second, .val (.int ip2), .val (.int ip3), .val (.int ip4), .val (.int ip5), .val (.long j8), .second, .val (.ref t10), .val (.int n11), .val (.int n12), .val (.ref gxc5137), .val .null, .val .null, .val (.int (1 : Int32)), .val .null] [(.int n12), (.ref t10)])
                    have f5170 := (f5167.keep Kq5168 nin0)
                    have f5171 := (Fc5165_0_0.keep Kq5168 nin0)
                    have f5173 := (f5169.keep Kq5168)
                    refine own_cV (a := t10) X5168 hx hZ hown (own_w hw 76 rfl) (own_w hw 77 rfl) (own_w hw 79 rfl) (own_w hw 78 rfl) (own_w hw 2 rfl) (own_w hw 80 rfl) [(.int n12)] [] f5173 (own_rm14_118 l Z a0 hw [] t10 n12 b3x13_97c5160 k3x13_97c5145c5161c5165 n11 gxc5137 T5168.heap n0 Z5168 f5170 f5171 OFc5165_0_0 hr12 hr11) 0 (hb hby at_185) (by rw [hml]; rfl) (lenOf own_pd7 rfl) rfl rfl rfl (by show 2 * 0 + _ ≤ _; exact Nat.le_of_eq rfl) (by decide) (by decide) (by decide) (by decide) (by decide) fun v5172 T5172 L5172 X5172 hQ5172 => ?_
                    obtain ⟨N5172q, Kq5172, hL5172⟩ := hQ5172
                    have N5172 := Fr.app N5168 N5172q
                    have K5172 : Keep h0 T5172.heap [t10] := K5168.trans Kq5172 all0
                    have Z5172 := Nat.le_trans Z5168 Kq5172.1
                    rcases hL5172 with ⟨rfl, -⟩
                    · skip
                      refine own_st (fun t k => XS.aload X5172.here hx rfl (hb hby at_188) rfl rfl (Jvm.RoadKit.acmp (g := (mkF m 190 #[.val (.long jp0), .second, .val (.long jp1), .second, .val (.int ip2), .val (.int ip3), .val (.int ip4), .val (.int ip5), .val (.long j8), .second, .val (.ref t10), .val (.int n11), .val (.int n12), .val (.ref gxc5137), .val .null, .val .null, .val (.int (1 : Int32)), .val .null] [.null, .null])) X5172 hx rfl rfl rfl (pc0 := 190) (pc' := 193) (same := true) rfl (hb hby at_190) rfl (decide_eq_true rfl) (by decide) (by decide) k)) ?_
                      show own_Go _ _ _ _ T5172 (mkF m 193 #[.val (.long jp0), .second, .val (.long jp1), .second, .val (.int ip2), .val (.int ip3), .val (.int ip4), .val (.int ip5), .val (.long j8), .second, .val (.ref t10), .val (.int n11), .val (.int n12), .val (.ref gxc5137), .val .null, .val .null, .val (.int (1 : Int32)), .val .null] [])
                      refine own_st (fun t k => XS.iconst X5172.here hx rfl (hb hby at_193) (XS.goto X5172.here hx rfl (pc0 := 194) (pc' := 198) rfl (hb hby at_194) (by decide) (by decide) k)) ?_
                      exact own_retZ X5172 hx hlk (t := .boolean) hret (by simp) (hb hby at_198) (by decide) (by decide) rfl ⟨rfl, N5172⟩
        · skip
          refine own_st (fun t k => XS.ifNo X5137.here hx rfl (hb hby at_88) rfl ((if0 _ _).trans (feq hc5139).1) k) ?_
          show own_Go _ _ _ _ T5137 (mkF m 91 #[.val (.long jp0), .second, .val (.long jp1), .second, .val (.int ip2), .val (.int ip3), .val (.int ip4), .val (.int ip5), .val (.long j8), .second, .val (.ref t10), .val (.int n11), .val (.int n12), .val (.ref gxc5137), .val .null, .unset, .unset, .unset] [])
          refine own_st (fun t k => XS.iload X5137.here hx rfl (hb hby at_91) rfl k) ?_
          have f5174 := (own_stak P5 Kq5137 all0)
          have f5175 := (own_stak P4 Kq5137 all0)
          have f5176 := (P6.keep Kq5137 nin0)
          refine own_cS X5137 hx hZ hown (own_w hw 62 rfl) (own_w hw 63 rfl) (own_w hw 29 rfl) (own_w hw 64 rfl) [(.int ip4)] [] (own_rm12_91 l Z a0 hw [] ip4 w_cache T5137.heap n0 Z5137 f5174 f5175 f5176) 0 (hb hby at_93) (by rw [hml]; rfl) (lenOf own_pd9 rfl) rfl rfl rfl (by show 2 * 0 + _ ≤ _; exact Nat.le_of_eq rfl) (by decide) (by decide) (by decide) (by decide) (by decide) fun v5177 T5177 L5177 X5177 hQ5177 => ?_
          obtain ⟨N5177q, Kq5177, hL5177⟩ := hQ5177
          have N5177 := Fr.app N5137 N5177q
          have K5177 : Keep h0 T5177.heap [t10] := K5137.trans Kq5177 all0
          have Z5177 := Nat.le_trans Z5137 Kq5177.1
          rcases hL5177 with ⟨gxc5177, rfl, Fc5177_0_0, -⟩
          · skip
            refine own_st (fun t k => XS.goto X5177.here hx rfl (pc0 := 96) (pc' := 100) rfl (hb hby at_96) (by decide) (by decide) k) ?_
            show own_Go _ _ _ _ T5177 (mkF m 100 #[.val (.long jp0), .second, .val (.long jp1), .second, .val (.int ip2), .val (.int ip3), .val (.int ip4), .val (.int ip5), .val (.long j8), .second, .val (.ref t10), .val (.int n11), .val (.int n12), .val (.ref gxc5137), .val .null, .unset, .unset, .unset] [(.ref gxc5177)])
            refine own_st (fun t k => XS.astore X5177.here hx rfl (hb hby at_100) rfl rfl (l' := #[.val (.long jp0), .second, .val (.long jp1), .second, .val (.int ip2), .val (.int ip3), .val (.int ip4), .val (.int ip5), .val (.long j8), .second, .val (.ref t10), .val (.int n11), .val (.int n12), .val (.ref gxc5137), .val .null, .val (.ref gxc5177), .unset, .unset]) rfl (XS.iload X5177.here hx rfl (hb hby at_102) rfl (XS.iconst X5177.here hx rfl (hb hby at_104) k))) ?_
            show own_Go _ _ _ _ T5177 (mkF m 105 #[.val (.long jp0), .second, .val (.long jp1), .second, .val (.int ip2), .val (.int ip3), .val (.int ip4), .val (.int ip5), .val (.long j8), .second, .val (.ref t10), .val (.int n11), .val (.int n12), .val (.ref gxc5137), .val .null, .val (.ref gxc5177), .unset, .unset] [(.int (4 : Int32)), (.int ip5)])
            refine own_st (fun t k => XS.iand X5177.here hx rfl (hb hby at_105) rfl k) ?_
            by_cases hc5178 : (ip5 &&& (4 : Int32)) = (0 : Int32)
            · skip
              refine own_st (fun t k => XS.ifYes X5177.here hx rfl (pc0 := 106) (pc' := 113) rfl (hb hby at_106) rfl ((if0 _ _).trans (teq hc5178).1) (by decide) (by decide) (XS.iconst X5177.here hx rfl (hb hby at_113) k)) ?_
              show own_Go _ _ _ _ T5177 (mkF m 114 #[.val (.long jp0), .second, .val (.long jp1), .second, .val (.int ip2), .val (.int ip3), .val (.int ip4), .val (.int ip5), .val (.long j8), .second, .val (.ref t10), .val (.int n11), .val (.int n12), .val (.ref gxc5137), .val .null, .val (.ref gxc5177), .unset, .unset] [(.int (0 : Int32))])
              refine own_st (fun t k => XS.istore X5177.here hx rfl (hb hby at_114) rfl (l' := #[.val (.long jp0), .second, .val (.long jp1), .second, .val (.int ip2), .val (.int ip3), .val (.int ip4), .val (.int ip5), .val (.long j8), .second, .val (.ref t10), .val (.int n11), .val (.int n12), .val (.ref gxc5137), .val .null, .val (.ref gxc5177), .val (.int (0 : Int32)), .unset]) rfl (XS.aload X5177.here hx rfl (hb hby at_116) rfl rfl (XS.iload X5177.here hx rfl (hb hby at_118) rfl k))) ?_
              show own_Go _ _ _ _ T5177 (mkF m 120 #[.val (.long jp0), .second, .val (.long jp1), .second, .val (.int ip2), .val (.int ip3), .val (.int ip4), .val (.int ip5), .val (.long j8), .second, .val (.ref t10), .val (.int n11), .val (.int n12), .val (.ref gxc5137), .val .null, .val (.ref gxc5177), .val (.int (0 : Int32)), .unset] [(.int n11), (.ref t10)])
              refine own_st (fun t k => XS.aload X5177.here hx rfl (hb hby at_120) rfl rfl k) ?_
              have f5179 := ((P1.keep Kq5137 nin0).keep Kq5177 nin0)
              have f5180 := ((P2.keep Kq5137 nin0).keep Kq5177 nin0)
              have f5181 := (P3.keep K5177 (ninS (Ne.symm (own_neA P0 (own_w hw 1 rfl) P3)) nin0))
              have f5182 := (P0.keep K5177)
              have f5183 := (Fc5137_0_0.keep Kq5177)
              refine own_cV (a := t10) X5177 hx hZ hown (own_w hw 68 rfl) (own_w hw 69 rfl) (own_w hw 71 rfl) (own_w hw 70 rfl) (own_w hw 2 rfl) (own_w hw 72 rfl) [(.int n11), (.ref gxc5137)] [] f5182 (own_rm13_97 l Z a0 hw [] t10 n11 gxc5137 u10 T5177.heap n0 Z5177 f5179 f5180 f5181 f5182 g_t10 hr11 f5183) 0 (hb hby at_122) (by rw [hml]; rfl) (lenOf own_pd6 rfl) rfl rfl rfl (by show 2 * 0 + _ ≤ _; exact Nat.le_of_eq rfl) (by decide) (by decide) (by decide) (by decide) (by decide) fun v5184 T5184 L5184 X5184 hQ5184 => ?_
              obtain ⟨N5184q, Kq5184, hL5184⟩ := hQ5184
              have N5184 := Fr.app N5177 N5184q
              have K5184 : Keep h0 T5184.heap [t10] := K5177.trans Kq5184 (allS (Or.inl (List.mem_of_getElem? (i := 0) rfl)) all0)
              have Z5184 := Nat.le_trans Z5177 Kq5184.1
              rcases hL5184 with ⟨b3x13_97c5184, k3x13_97c5184, rfl, sq_b3x13_97c5184, Fc5184_0_0, Fc5184_0_1, Fc5184_0_2, OFc5184_0_2, Fc5184_0_3, -⟩
              · skip
                have g_b3x13_97c5184 : n0 ≤ b3x13_97c5184 := Nat.le_trans Z5177 sq_b3x13_97c5184
                have sz_b3x13_97c5184 : h0.size ≤ b3x13_97c5184 := Nat.le_trans K5177.1 sq_b3x13_97c5184
                refine own_st (fun t k => XS.aload X5184.here hx rfl (hb hby at_125) rfl rfl k) ?_
                show own_Go _ _ _ _ T5184 (mkF m 127 #[.val (.long jp0), .second, .val (.long jp1), .second, .val (.int ip2), .val (.int ip3), .val (.int ip4), .val (.int ip5), .val (.long j8), .second, .val (.ref t10), .val (.int n11), .val (.int n12), .val (.ref gxc5137), .val .null, .val (.ref gxc5177), .val (.int (0 : Int32)), .unset] [(.ref t10)])
                refine own_st (fun t k => XS.iload X5184.here hx rfl (hb hby at_127) rfl (XS.aload X5184.here hx rfl (hb hby at_129) rfl rfl k)) ?_
                have f5186 := (f5182.keep Kq5184)
                refine own_cV (a := t10) X5184 hx hZ hown (own_w hw 68 rfl) (own_w hw 69 rfl) (own_w hw 71 rfl) (own_w hw 70 rfl) (own_w hw 2 rfl) (own_w hw 72 rfl) [(.int n12), .null] [] f5186 (own_rm13_112 l Z a0 hw [] t10 n12 b3x13_97c5184 k3x13_97c5184 n11 gxc5137 T5184.heap n0 Z5184 Fc5184_0_0 Fc5184_0_2 OFc5184_0_2 hr12 g_b3x13_97c5184) 0 (hb hby at_131) (by rw [hml]; rfl) (lenOf own_pd6 rfl) rfl rfl rfl (by show 2 * 0 + _ ≤ _; exact Nat.le_of_eq rfl) (by decide) (by decide) (by decide) (by decide) (by decide) fun v5185 T5185 L5185 X5185 hQ5185 => ?_
                obtain ⟨N5185q, Kq5185, hL5185⟩ := hQ5185
                have N5185 := Fr.app N5184 N5185q
                have K5185 : Keep h0 T5185.heap [t10] := K5184.trans Kq5185 (allS (Or.inr sz_b3x13_97c5184) all0)
                have Z5185 := Nat.le_trans Z5184 Kq5185.1
                rcases hL5185 with ⟨k3x13_97c5145c5185, rfl, Fc5185_0_0, OFc5185_0_0, -⟩
                · skip
                  show own_Go _ _ _ _ T5185 (mkF m 134 #[.val (.long jp0), .second, .val (.long jp1), .second, .val (.int ip2), .val (.int ip3), .val (.int ip4), .val (.int ip5), .val (.long j8), .second, .val (.ref t10), .val (.int n11), .val (.int n12), .val (.ref gxc5137), .val .null, .val (.ref gxc5177), .val (.int (0 : Int32)), .unset] [])
                  refine own_st (fun t k => XS.iload X5185.here hx rfl (hb hby at_134) rfl (XS.ifYes X5185.here hx rfl (pc0 := 136) (pc' := 148) rfl (hb hby at_136) rfl ((if0 _ _).trans (teq (by decide : (0 : Int32) = (0 : Int32))).1) (by decide) (by decide) (XS.iload X5185.here hx rfl (hb hby at_148) rfl k))) ?_
                  show own_Go _ _ _ _ T5185 (mkF m 150 #[.val (.long jp0), .second, .val (.long jp1), .second, .val (.int ip2), .val (.int ip3), .val (.int ip4), .val (.int ip5), .val (.long j8), .second, .val (.ref t10), .val (.int n11), .val (.int n12), .val (.ref gxc5137), .val .null, .val (.ref gxc5177), .val (.int (0 : Int32)), .unset] [(.int (0 : Int32))])
                  refine own_st (fun t k => XS.ifYes X5185.here hx rfl (pc0 := 150) (pc' := 158) rfl (hb hby at_150) rfl ((if0 _ _).trans (teq (by decide : (0 : Int32) = (0 : Int32))).1) (by decide) (by decide) (XS.aload X5185.here hx rfl (hb hby at_158) rfl rfl (XS.astore X5185.here hx rfl (hb hby at_160) rfl rfl (l' := #[.val (.long jp0), .second, .val (.long jp1), .second, .val (.int ip2), .val (.int ip3), .val (.int ip4), .val (.int ip5), .val (.long j8), .second, .val (.ref t10), .val (.int n11), .val (.int n12), .val (.ref gxc5137), .val .null, .val (.ref gxc5177), .val (.int (0 : Int32)), .val (.ref gxc5137)]) rfl k))) ?_
                  show own_Go _ _ _ _ T5185 (mkF m 162 #[.val (.long jp0), .second, .val (.long jp1), .second, .val (.int ip2), .val (.int ip3), .val (.int ip4), .val (.int ip5), .val (.long j8), .second, .val (.ref t10), .val (.int n11), .val (.int n12), .val (.ref gxc5137), .val .null, .val (.ref gxc5177), .val (.int (0 : Int32)), .val (.ref gxc5137)] [])
                  refine own_st (fun t k => XS.iload X5185.here hx rfl (hb hby at_162) rfl (XS.iload X5185.here hx rfl (hb hby at_164) rfl (XS.icmpNo X5185.here hx rfl (hb hby at_166) rfl (feq hne).1 k))) ?_
                  show own_Go _ _ _ _ T5185 (mkF m 169 #[.val (.long jp0), .second, .val (.long jp1), .second, .val (.int ip2), .val (.int ip3), .val (.int ip4), .val (.int ip5), .val (.long j8), .second, .val (.ref t10), .val (.int n11), .val (.int n12), .val (.ref gxc5137), .val .null, .val (.ref gxc5177), .val (.int (0 : Int32)), .val (.ref gxc5137)] [])
                  refine own_st (fun t k => XS.aload X5185.here hx rfl (hb hby at_169) rfl rfl (XS.iload X5185.here hx rfl (hb hby at_171) rfl k)) ?_
                  have ne5187 : t10 ≠ b3x13_97c5184 := Nat.ne_of_lt (Nat.lt_of_lt_of_le P0.lt sz_b3x13_97c5184)
                  have f5188 := (Fc5184_0_0.keep Kq5185 (ninS ne5187 nin0))
                  have f5190 := (f5186.keep Kq5185)
                  refine own_cV (a := t10) X5185 hx hZ hown (own_w hw 76 rfl) (own_w hw 77 rfl) (own_w hw 79 rfl) (own_w hw 78 rfl) (own_w hw 2 rfl) (own_w hw 80 rfl) [(.int n11)] [] f5190 (own_rm14_113 l Z a0 hw [] t10 n11 b3x13_97c5184 k3x13_97c5145c5185 n12 gxc5137 T5185.heap n0 Z5185 f5188 Fc5185_0_0 OFc5185_0_0 hr11 hr12) 0 (hb hby at_173) (by rw [hml]; rfl) (lenOf own_pd7 rfl) rfl rfl rfl (by show 2 * 0 + _ ≤ _; exact Nat.le_of_eq rfl) (by decide) (by decide) (by decide) (by decide) (by decide) fun v5189 T5189 L5189 X5189 hQ5189 => ?_
                  obtain ⟨N5189q, Kq5189, hL5189⟩ := hQ5189
                  have N5189 := Fr.app N5185 N5189q
                  have K5189 : Keep h0 T5189.heap [t10] := K5185.trans Kq5189 all0
                  have Z5189 := Nat.le_trans Z5185 Kq5189.1
                  rcases hL5189 with ⟨rfl, hq5189_0_0, -⟩ | ⟨rfl, hq5189_1_0, -⟩
                  · skip
                    exact absurd hq5189_0_0 hne
                  · skip
                    show own_Go _ _ _ _ T5189 (mkF m 176 #[.val (.long jp0), .second, .val (.long jp1), .second, .val (.int ip2), .val (.int ip3), .val (.int ip4), .val (.int ip5), .val (.long j8), .second, .val (.ref t10), .val (.int n11), .val (.int n12), .val (.ref gxc5137), .val .null, .val (.ref gxc5177), .val (.int (0 : Int32)), .val (.ref gxc5137)] [(.ref gxc5137)])
                    refine own_st (fun t k => XS.aload X5189.here hx rfl (hb hby at_176) rfl rfl (Jvm.RoadKit.acmp (g := (mkF m 178 #[.val (.long jp0), .second, .val (.long jp1), .second, .val (.int ip2), .val (.int ip3), .val (.int ip4), .val (.int ip5), .val (.long j8), .second, .val (.ref t10), .val (.int n11), .val (.int n12), .val (.ref gxc5137), .val .null, .val (.ref gxc5177), .val (.int (0 : Int32)), .val (.ref gxc5137)] [(.ref gxc5137), (.ref gxc5137)])) X5189 hx rfl rfl rfl (pc0 := 178) (pc' := 181) (same := true) rfl (hb hby at_178) rfl (decide_eq_true (congrArg Value.ref (rfl : gxc5137 = gxc5137))) (by decide) (by decide) (XS.aload X5189.here hx rfl (hb hby at_181) rfl rfl k))) ?_
                    show own_Go _ _ _ _ T5189 (mkF m 183 #[.val (.long jp0), .second, .val (.long jp1), .second, .val (.int ip2), .val (.int ip3), .val (.int ip4), .val (.int ip5), .val (.long j8), .second, .val (.ref t10), .val (.int n11), .val (.int n12), .val (.ref gxc5137), .val .null, .val (.ref gxc5177), .val (.int (0 : Int32)), .val (.ref gxc5137)] [(.ref t10)])
                    refine own_st (fun t k => XS.iload X5189.here hx rfl (hb hby at_183) rfl k) ?_
                    have f5191 := (f5188.keep Kq5189 nin0)
                    have f5192 := (Fc5185_0_0.keep Kq5189 nin0)
                    have f5194 := (f5190.keep Kq5189)
                    refine own_cV (a := t10) X5189 hx hZ hown (own_w hw 76 rfl) (own_w hw 77 rfl) (own_w hw 79 rfl) (own_w hw 78 rfl) (own_w hw 2 rfl) (own_w hw 80 rfl) [(.int n12)] [] f5194 (own_rm14_114 l Z a0 hw [] t10 n12 b3x13_97c5184 k3x13_97c5145c5185 n11 gxc5137 T5189.heap n0 Z5189 f5191 f5192 OFc5185_0_0 hr12) 0 (hb hby at_185) (by rw [hml]; rfl) (lenOf own_pd7 rfl) rfl rfl rfl (by show 2 * 0 + _ ≤ _; exact Nat.le_of_eq rfl) (by decide) (by decide) (by decide) (by decide) (by decide) fun v5193 T5193 L5193 X5193 hQ5193 => ?_
                    obtain ⟨N5193q, Kq5193, hL5193⟩ := hQ5193
                    have N5193 := Fr.app N5189 N5193q
                    have K5193 : Keep h0 T5193.heap [t10] := K5189.trans Kq5193 all0
                    have Z5193 := Nat.le_trans Z5189 Kq5193.1
                    rcases hL5193 with ⟨rfl, -⟩
                    · skip
                      refine own_st (fun t k => XS.aload X5193.here hx rfl (hb hby at_188) rfl rfl k) ?_
                      show own_Go _ _ _ _ T5193 (mkF m 190 #[.val (.long jp0), .second, .val (.long jp1), .second, .val (.int ip2), .val (.int ip3), .val (.int ip4), .val (.int ip5), .val (.long j8), .second, .val (.ref t10), .val (.int n11), .val (.int n12), .val (.ref gxc5137), .val .null, .val (.ref gxc5177), .val (.int (0 : Int32)), .val (.ref gxc5137)] [.null, .null])
                      refine own_st (fun t k => Jvm.RoadKit.acmp (g := (mkF m 190 #[.val (.long jp0), .second, .val (.long jp1), .second, .val (.int ip2), .val (.int ip3), .val (.int ip4), .val (.int ip5), .val (.long j8), .second, .val (.ref t10), .val (.int n11), .val (.int n12), .val (.ref gxc5137), .val .null, .val (.ref gxc5177), .val (.int (0 : Int32)), .val (.ref gxc5137)] [.null, .null])) X5193 hx rfl rfl rfl (pc0 := 190) (pc' := 193) (same := true) rfl (hb hby at_190) rfl (decide_eq_true rfl) (by decide) (by decide) (XS.iconst X5193.here hx rfl (hb hby at_193) (XS.goto X5193.here hx rfl (pc0 := 194) (pc' := 198) rfl (hb hby at_194) (by decide) (by decide) k))) ?_
                      show own_Go _ _ _ _ T5193 (mkF m 198 #[.val (.long jp0), .second, .val (.long jp1), .second, .val (.int ip2), .val (.int ip3), .val (.int ip4), .val (.int ip5), .val (.long j8), .second, .val (.ref t10), .val (.int n11), .val (.int n12), .val (.ref gxc5137), .val .null, .val (.ref gxc5177), .val (.int (0 : Int32)), .val (.ref gxc5137)] [(.int (1 : Int32))])
                      exact own_retZ X5193 hx hlk (t := .boolean) hret (by simp) (hb hby at_198) (by decide) (by decide) rfl ⟨rfl, N5193⟩
            · skip
              refine own_st (fun t k => XS.ifNo X5177.here hx rfl (hb hby at_106) rfl ((if0 _ _).trans (feq hc5178).1) (XS.iconst X5177.here hx rfl (hb hby at_109) (XS.goto X5177.here hx rfl (pc0 := 110) (pc' := 114) rfl (hb hby at_110) (by decide) (by decide) k))) ?_
              show own_Go _ _ _ _ T5177 (mkF m 114 #[.val (.long jp0), .second, .val (.long jp1), .second, .val (.int ip2), .val (.int ip3), .val (.int ip4), .val (.int ip5), .val (.long j8), .second, .val (.ref t10), .val (.int n11), .val (.int n12), .val (.ref gxc5137), .val .null, .val (.ref gxc5177), .unset, .unset] [(.int (1 : Int32))])
              refine own_st (fun t k => XS.istore X5177.here hx rfl (hb hby at_114) rfl (l' := #[.val (.long jp0), .second, .val (.long jp1), .second, .val (.int ip2), .val (.int ip3), .val (.int ip4), .val (.int ip5), .val (.long j8), .second, .val (.ref t10), .val (.int n11), .val (.int n12), .val (.ref gxc5137), .val .null, .val (.ref gxc5177), .val (.int (1 : Int32)), .unset]) rfl (XS.aload X5177.here hx rfl (hb hby at_116) rfl rfl (XS.iload X5177.here hx rfl (hb hby at_118) rfl k))) ?_
              show own_Go _ _ _ _ T5177 (mkF m 120 #[.val (.long jp0), .second, .val (.long jp1), .second, .val (.int ip2), .val (.int ip3), .val (.int ip4), .val (.int ip5), .val (.long j8), .second, .val (.ref t10), .val (.int n11), .val (.int n12), .val (.ref gxc5137), .val .null, .val (.ref gxc5177), .val (.int (1 : Int32)), .unset] [(.int n11), (.ref t10)])
              refine own_st (fun t k => XS.aload X5177.here hx rfl (hb hby at_120) rfl rfl k) ?_
              have f5195 := ((P1.keep Kq5137 nin0).keep Kq5177 nin0)
              have f5196 := ((P2.keep Kq5137 nin0).keep Kq5177 nin0)
              have f5197 := (P3.keep K5177 (ninS (Ne.symm (own_neA P0 (own_w hw 1 rfl) P3)) nin0))
              have f5198 := (P0.keep K5177)
              have f5199 := (Fc5137_0_0.keep Kq5177)
              refine own_cV (a := t10) X5177 hx hZ hown (own_w hw 68 rfl) (own_w hw 69 rfl) (own_w hw 71 rfl) (own_w hw 70 rfl) (own_w hw 2 rfl) (own_w hw 72 rfl) [(.int n11), (.ref gxc5137)] [] f5198 (own_rm13_97 l Z a0 hw [] t10 n11 gxc5137 u10 T5177.heap n0 Z5177 f5195 f5196 f5197 f5198 g_t10 hr11 f5199) 0 (hb hby at_122) (by rw [hml]; rfl) (lenOf own_pd6 rfl) rfl rfl rfl (by show 2 * 0 + _ ≤ _; exact Nat.le_of_eq rfl) (by decide) (by decide) (by decide) (by decide) (by decide) fun v5200 T5200 L5200 X5200 hQ5200 => ?_
              obtain ⟨N5200q, Kq5200, hL5200⟩ := hQ5200
              have N5200 := Fr.app N5177 N5200q
              have K5200 : Keep h0 T5200.heap [t10] := K5177.trans Kq5200 (allS (Or.inl (List.mem_of_getElem? (i := 0) rfl)) all0)
              have Z5200 := Nat.le_trans Z5177 Kq5200.1
              rcases hL5200 with ⟨b3x13_97c5200, k3x13_97c5200, rfl, sq_b3x13_97c5200, Fc5200_0_0, Fc5200_0_1, Fc5200_0_2, OFc5200_0_2, Fc5200_0_3, -⟩
              · skip
                have g_b3x13_97c5200 : n0 ≤ b3x13_97c5200 := Nat.le_trans Z5177 sq_b3x13_97c5200
                have sz_b3x13_97c5200 : h0.size ≤ b3x13_97c5200 := Nat.le_trans K5177.1 sq_b3x13_97c5200
                refine own_st (fun t k => XS.aload X5200.here hx rfl (hb hby at_125) rfl rfl k) ?_
                show own_Go _ _ _ _ T5200 (mkF m 127 #[.val (.long jp0), .second, .val (.long jp1), .second, .val (.int ip2), .val (.int ip3), .val (.int ip4), .val (.int ip5), .val (.long j8), .second, .val (.ref t10), .val (.int n11), .val (.int n12), .val (.ref gxc5137), .val .null, .val (.ref gxc5177), .val (.int (1 : Int32)), .unset] [(.ref t10)])
                refine own_st (fun t k => XS.iload X5200.here hx rfl (hb hby at_127) rfl (XS.aload X5200.here hx rfl (hb hby at_129) rfl rfl k)) ?_
                have f5202 := (f5198.keep Kq5200)
                refine own_cV (a := t10) X5200 hx hZ hown (own_w hw 68 rfl) (own_w hw 69 rfl) (own_w hw 71 rfl) (own_w hw 70 rfl) (own_w hw 2 rfl) (own_w hw 72 rfl) [(.int n12), .null] [] f5202 (own_rm13_112 l Z a0 hw [] t10 n12 b3x13_97c5200 k3x13_97c5200 n11 gxc5137 T5200.heap n0 Z5200 Fc5200_0_0 Fc5200_0_2 OFc5200_0_2 hr12 g_b3x13_97c5200) 0 (hb hby at_131) (by rw [hml]; rfl) (lenOf own_pd6 rfl) rfl rfl rfl (by show 2 * 0 + _ ≤ _; exact Nat.le_of_eq rfl) (by decide) (by decide) (by decide) (by decide) (by decide) fun v5201 T5201 L5201 X5201 hQ5201 => ?_
                obtain ⟨N5201q, Kq5201, hL5201⟩ := hQ5201
                have N5201 := Fr.app N5200 N5201q
                have K5201 : Keep h0 T5201.heap [t10] := K5200.trans Kq5201 (allS (Or.inr sz_b3x13_97c5200) all0)
                have Z5201 := Nat.le_trans Z5200 Kq5201.1
                rcases hL5201 with ⟨k3x13_97c5145c5201, rfl, Fc5201_0_0, OFc5201_0_0, -⟩
                · skip
                  show own_Go _ _ _ _ T5201 (mkF m 134 #[.val (.long jp0), .second, .val (.long jp1), .second, .val (.int ip2), .val (.int ip3), .val (.int ip4), .val (.int ip5), .val (.long j8), .second, .val (.ref t10), .val (.int n11), .val (.int n12), .val (.ref gxc5137), .val .null, .val (.ref gxc5177), .val (.int (1 : Int32)), .unset] [])
                  refine own_st (fun t k => XS.iload X5201.here hx rfl (hb hby at_134) rfl (XS.ifNo X5201.here hx rfl (hb hby at_136) rfl ((if0 _ _).trans (feq (by decide : ¬ ((1 : Int32) = (0 : Int32)))).1) (XS.aload X5201.here hx rfl (hb hby at_139) rfl rfl k))) ?_
                  show own_Go _ _ _ _ T5201 (mkF m 141 #[.val (.long jp0), .second, .val (.long jp1), .second, .val (.int ip2), .val (.int ip3), .val (.int ip4), .val (.int ip5), .val (.long j8), .second, .val (.ref t10), .val (.int n11), .val (.int n12), .val (.ref gxc5137), .val .null, .val (.ref gxc5177), .val (.int (1 : Int32)), .unset] [(.ref t10)])
                  refine own_st (fun t k => XS.iload X5201.here hx rfl (hb hby at_141) rfl (XS.aload X5201.here hx rfl (hb hby at_143) rfl rfl k)) ?_
                  have ne5203 : t10 ≠ b3x13_97c5200 := Nat.ne_of_lt (Nat.lt_of_lt_of_le P0.lt sz_b3x13_97c5200)
                  have f5204 := (Fc5200_0_0.keep Kq5201 (ninS ne5203 nin0))
                  have f5205 := ((Fc5177_0_0.keep Kq5200).keep Kq5201)
                  have f5207 := (f5202.keep Kq5201)
                  refine own_cV (a := t10) X5201 hx hZ hown (own_w hw 68 rfl) (own_w hw 69 rfl) (own_w hw 71 rfl) (own_w hw 70 rfl) (own_w hw 2 rfl) (own_w hw 72 rfl) [(.int n11), (.ref gxc5177)] [] f5207 (own_rm13_120 l Z a0 hw [] t10 n11 gxc5177 b3x13_97c5200 k3x13_97c5145c5201 n12 gxc5137 T5201.heap n0 Z5201 f5204 Fc5201_0_0 OFc5201_0_0 hr11 f5205 g_b3x13_97c5200) 0 (hb hby at_145) (by rw [hml]; rfl) (lenOf own_pd6 rfl) rfl rfl rfl (by show 2 * 0 + _ ≤ _; exact Nat.le_of_eq rfl) (by decide) (by decide) (by decide) (by decide) (by decide) fun v5206 T5206 L5206 X5206 hQ5206 => ?_
                  obtain ⟨N5206q, Kq5206, hL5206⟩ := hQ5206
                  have N5206 := Fr.app N5201 N5206q
                  have K5206 : Keep h0 T5206.heap [t10] := K5201.trans Kq5206 (allS (Or.inr sz_b3x13_97c5200) all0)
                  have Z5206 := Nat.le_trans Z5201 Kq5206.1
                  rcases hL5206 with ⟨k3x13_97c5145c5201c5206, rfl, Fc5206_0_0, OFc5206_0_0, -⟩
                  · skip
                    show own_Go _ _ _ _ T5206 (mkF m 148 #[.val (.long jp0), .second, .val (.long jp1), .second, .val (.int ip2), .val (.int ip3), .val (.int ip4), .val (.int ip5), .val (.long j8), .second, .val (.ref t10), .val (.int n11), .val (.int n12), .val (.ref gxc5137), .val .null, .val (.ref gxc5177), .val (.int (1 : Int32)), .unset] [])
                    refine own_st (fun t k => XS.iload X5206.here hx rfl (hb hby at_148) rfl (XS.ifNo X5206.here hx rfl (hb hby at_150) rfl ((if0 _ _).trans (feq (by decide : ¬ ((1 : Int32) = (0 : Int32)))).1) (XS.aload X5206.here hx rfl (hb hby at_153) rfl rfl k))) ?_
                    show own_Go _ _ _ _ T5206 (mkF m 155 #[.val (.long jp0), .second, .val (.long jp1), .second, .val (.int ip2), .val (.int ip3), .val (.int ip4), .val (.int ip5), .val (.long j8), .second, .val (.ref t10), .val (.int n11), .val (.int n12), .val (.ref gxc5137), .val .null, .val (.ref gxc5177), .val (.int (1 : Int32)), .unset] [(.ref gxc5177)])
                    refine own_st (fun t k => XS.goto X5206.here hx rfl (pc0 := 155) (pc' := 160) rfl (hb hby at_155) (by decide) (by decide) (XS.astore X5206.here hx rfl (hb hby at_160) rfl rfl (l' := #[.val (.long jp0), .second, .val (.long jp1), .second, .val (.int ip2), .val (.int ip3), .val (.int ip4), .val (.int ip5), .val (.long j8), .second, .val (.ref t10), .val (.int n11), .val (.int n12), .val (.ref gxc5137), .val .null, .val (.ref gxc5177), .val (.int (1 : Int32)), .val (.ref gxc5177)]) rfl (XS.iload X5206.here hx rfl (hb hby at_162) rfl k))) ?_
                    show own_Go _ _ _ _ T5206 (mkF m 164 #[.val (.long jp0), .second, .val (.long jp1), .second, .val (.int ip2), .val (.int ip3), .val (.int ip4), .val (.int ip5), .val (.long j8), .second, .val (.ref t10), .val (.int n11), .val (.int n12), .val (.ref gxc5137), .val .null, .val (.ref gxc5177), .val (.int (1 : Int32)), .val (.ref gxc5177)] [(.int n11)])
                    refine own_st (fun t k => XS.iload X5206.here hx rfl (hb hby at_164) rfl (XS.icmpNo X5206.here hx rfl (hb hby at_166) rfl (feq hne).1 (XS.aload X5206.here hx rfl (hb hby at_169) rfl rfl k))) ?_
                    show own_Go _ _ _ _ T5206 (mkF m 171 #[.val (.long jp0), .second, .val (.long jp1), .second, .val (.int ip2), .val (.int ip3), .val (.int ip4), .val (.int ip5), .val (.long j8), .second, .val (.ref t10), .val (.int n11), .val (.int n12), .val (.ref gxc5137), .val .null, .val (.ref gxc5177), .val (.int (1 : Int32)), .val (.ref gxc5177)] [(.ref t10)])
                    refine own_st (fun t k => XS.iload X5206.here hx rfl (hb hby at_171) rfl k) ?_
                    have f5208 := (f5204.keep Kq5206 (ninS ne5203 nin0))
                    have f5210 := (f5207.keep Kq5206)
                    refine own_cV (a := t10) X5206 hx hZ hown (own_w hw 76 rfl) (own_w hw 77 rfl) (own_w hw 79 rfl) (own_w hw 78 rfl) (own_w hw 2 rfl) (own_w hw 80 rfl) [(.int n11)] [] f5210 (own_rm14_121 l Z a0 hw [] t10 n11 b3x13_97c5200 k3x13_97c5145c5201c5206 gxc5177 n12 gxc5137 T5206.heap n0 Z5206 f5208 Fc5206_0_0 OFc5206_0_0 hr11) 0 (hb hby at_173) (by rw [hml]; rfl) (lenOf own_pd7 rfl) rfl rfl rfl (by show 2 * 0 + _ ≤ _; exact Nat.le_of_eq rfl) (by decide) (by decide) (by decide) (by decide) (by decide) fun v5209 T5209 L5209 X5209 hQ5209 => ?_
                    obtain ⟨N5209q, Kq5209, hL5209⟩ := hQ5209
                    have N5209 := Fr.app N5206 N5209q
                    have K5209 : Keep h0 T5209.heap [t10] := K5206.trans Kq5209 all0
                    have Z5209 := Nat.le_trans Z5206 Kq5209.1
                    rcases hL5209 with ⟨rfl, -⟩
                    · skip
                      refine own_st (fun t k => XS.aload X5209.here hx rfl (hb hby at_176) rfl rfl k) ?_
                      show own_Go _ _ _ _ T5209 (mkF m 178 #[.val (.long jp0), .second, .val (.long jp1), .second, .val (.int ip2), .val (.int ip3), .val (.int ip4), .val (.int ip5), .val (.long j8), .second, .val (.ref t10), .val (.int n11), .val (.int n12), .val (.ref gxc5137), .val .null, .val (.ref gxc5177), .val (.int (1 : Int32)), .val (.ref gxc5177)] [(.ref gxc5177), (.ref gxc5177)])
                      refine own_st (fun t k => Jvm.RoadKit.acmp (g := (mkF m 178 #[.val (.long jp0), .second, .val (.long jp1), .second, .val (.int ip2), .val (.int ip3), .val (.int ip4), .val (.int ip5), .val (.long j8), .second, .val (.ref t10), .val (.int n11), .val (.int n12), .val (.ref gxc5137), .val .null, .val (.ref gxc5177), .val (.int (1 : Int32)), .val (.ref gxc5177)] [(.ref gxc5177), (.ref gxc5177)])) X5209 hx rfl rfl rfl (pc0 := 178) (pc' := 181) (same := true) rfl (hb hby at_178) rfl (decide_eq_true (congrArg Value.ref (rfl : gxc5177 = gxc5177))) (by decide) (by decide) (XS.aload X5209.here hx rfl (hb hby at_181) rfl rfl (XS.iload X5209.here hx rfl (hb hby at_183) rfl k))) ?_
                      show own_Go _ _ _ _ T5209 (mkF m 185 #[.val (.long jp0), .second, .val (.long jp1), .second, .val (.int ip2), .val (.int ip3), .val (.int ip4), .val (.int ip5), .val (.long j8), .second, .val (.ref t10), .val (.int n11), .val (.int n12), .val (.ref gxc5137), .val .null, .val (.ref gxc5177), .val (.int (1 : Int32)), .val (.ref gxc5177)] [(.int n12), (.ref t10)])
                      have f5211 := (f5208.keep Kq5209 nin0)
                      have f5212 := (Fc5206_0_0.keep Kq5209 nin0)
                      have f5214 := (f5210.keep Kq5209)
                      refine own_cV (a := t10) X5209 hx hZ hown (own_w hw 76 rfl) (own_w hw 77 rfl) (own_w hw 79 rfl) (own_w hw 78 rfl) (own_w hw 2 rfl) (own_w hw 80 rfl) [(.int n12)] [] f5214 (own_rm14_122 l Z a0 hw [] t10 n12 b3x13_97c5200 k3x13_97c5145c5201c5206 n11 gxc5177 gxc5137 T5209.heap n0 Z5209 f5211 f5212 OFc5206_0_0 hr12 hr11) 0 (hb hby at_185) (by rw [hml]; rfl) (lenOf own_pd7 rfl) rfl rfl rfl (by show 2 * 0 + _ ≤ _; exact Nat.le_of_eq rfl) (by decide) (by decide) (by decide) (by decide) (by decide) fun v5213 T5213 L5213 X5213 hQ5213 => ?_
                      obtain ⟨N5213q, Kq5213, hL5213⟩ := hQ5213
                      have N5213 := Fr.app N5209 N5213q
                      have K5213 : Keep h0 T5213.heap [t10] := K5209.trans Kq5213 all0
                      have Z5213 := Nat.le_trans Z5209 Kq5213.1
                      rcases hL5213 with ⟨rfl, hq5213_0_0, -⟩ | ⟨rfl, hq5213_1_0, -⟩
                      · skip
                        exact absurd hq5213_0_0 (Ne.symm hne)
                      · skip
                        refine own_st (fun t k => XS.aload X5213.here hx rfl (hb hby at_188) rfl rfl (Jvm.RoadKit.acmp (g := (mkF m 190 #[.val (.long jp0), .second, .val (.long jp1), .second, .val (.int ip2), .val (.int ip3), .val (.int ip4), .val (.int ip5), .val (.long j8), .second, .val (.ref t10), .val (.int n11), .val (.int n12), .val (.ref gxc5137), .val .null, .val (.ref gxc5177), .val (.int (1 : Int32)), .val (.ref gxc5177)] [.null, .null])) X5213 hx rfl rfl rfl (pc0 := 190) (pc' := 193) (same := true) rfl (hb hby at_190) rfl (decide_eq_true rfl) (by decide) (by decide) k)) ?_
                        show own_Go _ _ _ _ T5213 (mkF m 193 #[.val (.long jp0), .second, .val (.long jp1), .second, .val (.int ip2), .val (.int ip3), .val (.int ip4), .val (.int ip5), .val (.long j8), .second, .val (.ref t10), .val (.int n11), .val (.int n12), .val (.ref gxc5137), .val .null, .val (.ref gxc5177), .val (.int (1 : Int32)), .val (.ref gxc5177)] [])
                        refine own_st (fun t k => XS.iconst X5213.here hx rfl (hb hby at_193) (XS.goto X5213.here hx rfl (pc0 := 194) (pc' := 198) rfl (hb hby at_194) (by decide) (by decide) k)) ?_
                        exact own_retZ X5213 hx hlk (t := .boolean) hret (by simp) (hb hby at_198) (by decide) (by decide) rfl ⟨rfl, N5213⟩
      · skip
        refine own_st (fun t k => XS.ifNo X5137.here hx rfl (hb hby at_69) rfl ((if0 _ _).trans (feq hc5138).1) k) ?_
        show own_Go _ _ _ _ T5137 (mkF m 72 #[.val (.long jp0), .second, .val (.long jp1), .second, .val (.int ip2), .val (.int ip3), .val (.int ip4), .val (.int ip5), .val (.long j8), .second, .val (.ref t10), .val (.int n11), .val (.int n12), .val (.ref gxc5137), .unset, .unset, .unset, .unset] [])
        refine own_st (fun t k => XS.iload X5137.here hx rfl (hb hby at_72) rfl k) ?_
        have f5215 := (own_stak P5 Kq5137 all0)
        have f5216 := (own_stak P4 Kq5137 all0)
        have f5217 := (P6.keep Kq5137 nin0)
        refine own_cS X5137 hx hZ hown (own_w hw 62 rfl) (own_w hw 63 rfl) (own_w hw 29 rfl) (own_w hw 64 rfl) [(.int ip3)] [] (own_rm12_91 l Z a0 hw [] ip3 w_cache T5137.heap n0 Z5137 f5215 f5216 f5217) 0 (hb hby at_74) (by rw [hml]; rfl) (lenOf own_pd9 rfl) rfl rfl rfl (by show 2 * 0 + _ ≤ _; exact Nat.le_of_eq rfl) (by decide) (by decide) (by decide) (by decide) (by decide) fun v5218 T5218 L5218 X5218 hQ5218 => ?_
        obtain ⟨N5218q, Kq5218, hL5218⟩ := hQ5218
        have N5218 := Fr.app N5137 N5218q
        have K5218 : Keep h0 T5218.heap [t10] := K5137.trans Kq5218 all0
        have Z5218 := Nat.le_trans Z5137 Kq5218.1
        rcases hL5218 with ⟨gxc5218, rfl, Fc5218_0_0, -⟩
        · skip
          refine own_st (fun t k => XS.goto X5218.here hx rfl (pc0 := 77) (pc' := 81) rfl (hb hby at_77) (by decide) (by decide) k) ?_
          show own_Go _ _ _ _ T5218 (mkF m 81 #[.val (.long jp0), .second, .val (.long jp1), .second, .val (.int ip2), .val (.int ip3), .val (.int ip4), .val (.int ip5), .val (.long j8), .second, .val (.ref t10), .val (.int n11), .val (.int n12), .val (.ref gxc5137), .unset, .unset, .unset, .unset] [(.ref gxc5218)])
          refine own_st (fun t k => XS.astore X5218.here hx rfl (hb hby at_81) rfl rfl (l' := #[.val (.long jp0), .second, .val (.long jp1), .second, .val (.int ip2), .val (.int ip3), .val (.int ip4), .val (.int ip5), .val (.long j8), .second, .val (.ref t10), .val (.int n11), .val (.int n12), .val (.ref gxc5137), .val (.ref gxc5218), .unset, .unset, .unset]) rfl (XS.iload X5218.here hx rfl (hb hby at_83) rfl (XS.bipush X5218.here hx rfl (hb hby at_85) k))) ?_
          show own_Go _ _ _ _ T5218 (mkF m 87 #[.val (.long jp0), .second, .val (.long jp1), .second, .val (.int ip2), .val (.int ip3), .val (.int ip4), .val (.int ip5), .val (.long j8), .second, .val (.ref t10), .val (.int n11), .val (.int n12), .val (.ref gxc5137), .val (.ref gxc5218), .unset, .unset, .unset] [(.int (8 : Int32)), (.int ip5)])
          refine own_st (fun t k => XS.iand X5218.here hx rfl (hb hby at_87) rfl k) ?_
          by_cases hc5219 : (ip5 &&& (8 : Int32)) = (0 : Int32)
          · skip
            refine own_st (fun t k => XS.ifYes X5218.here hx rfl (pc0 := 88) (pc' := 99) rfl (hb hby at_88) rfl ((if0 _ _).trans (teq hc5219).1) (by decide) (by decide) (XS.aconstNull X5218.here hx rfl (hb hby at_99) k)) ?_
            show own_Go _ _ _ _ T5218 (mkF m 100 #[.val (.long jp0), .second, .val (.long jp1), .second, .val (.int ip2), .val (.int ip3), .val (.int ip4), .val (.int ip5), .val (.long j8), .second, .val (.ref t10), .val (.int n11), .val (.int n12), .val (.ref gxc5137), .val (.ref gxc5218), .unset, .unset, .unset] [.null])
            refine own_st (fun t k => XS.astore X5218.here hx rfl (hb hby at_100) rfl rfl (l' := #[.val (.long jp0), .second, .val (.long jp1), .second, .val (.int ip2), .val (.int ip3), .val (.int ip4), .val (.int ip5), .val (.long j8), .second, .val (.ref t10), .val (.int n11), .val (.int n12), .val (.ref gxc5137), .val (.ref gxc5218), .val .null, .unset, .unset]) rfl (XS.iload X5218.here hx rfl (hb hby at_102) rfl (XS.iconst X5218.here hx rfl (hb hby at_104) k))) ?_
            show own_Go _ _ _ _ T5218 (mkF m 105 #[.val (.long jp0), .second, .val (.long jp1), .second, .val (.int ip2), .val (.int ip3), .val (.int ip4), .val (.int ip5), .val (.long j8), .second, .val (.ref t10), .val (.int n11), .val (.int n12), .val (.ref gxc5137), .val (.ref gxc5218), .val .null, .unset, .unset] [(.int (4 : Int32)), (.int ip5)])
            refine own_st (fun t k => XS.iand X5218.here hx rfl (hb hby at_105) rfl k) ?_
            by_cases hc5220 : (ip5 &&& (4 : Int32)) = (0 : Int32)
            · skip
              refine own_st (fun t k => XS.ifYes X5218.here hx rfl (pc0 := 106) (pc' := 113) rfl (hb hby at_106) rfl ((if0 _ _).trans (teq hc5220).1) (by decide) (by decide) (XS.iconst X5218.here hx rfl (hb hby at_113) k)) ?_
              show own_Go _ _ _ _ T5218 (mkF m 114 #[.val (.long jp0), .second, .val (.long jp1), .second, .val (.int ip2), .val (.int ip3), .val (.int ip4), .val (.int ip5), .val (.long j8), .second, .val (.ref t10), .val (.int n11), .val (.int n12), .val (.ref gxc5137), .val (.ref gxc5218), .val .null, .unset, .unset] [(.int (0 : Int32))])
              refine own_st (fun t k => XS.istore X5218.here hx rfl (hb hby at_114) rfl (l' := #[.val (.long jp0), .second, .val (.long jp1), .second, .val (.int ip2), .val (.int ip3), .val (.int ip4), .val (.int ip5), .val (.long j8), .second, .val (.ref t10), .val (.int n11), .val (.int n12), .val (.ref gxc5137), .val (.ref gxc5218), .val .null, .val (.int (0 : Int32)), .unset]) rfl (XS.aload X5218.here hx rfl (hb hby at_116) rfl rfl (XS.iload X5218.here hx rfl (hb hby at_118) rfl k))) ?_
              show own_Go _ _ _ _ T5218 (mkF m 120 #[.val (.long jp0), .second, .val (.long jp1), .second, .val (.int ip2), .val (.int ip3), .val (.int ip4), .val (.int ip5), .val (.long j8), .second, .val (.ref t10), .val (.int n11), .val (.int n12), .val (.ref gxc5137), .val (.ref gxc5218), .val .null, .val (.int (0 : Int32)), .unset] [(.int n11), (.ref t10)])
              refine own_st (fun t k => XS.aload X5218.here hx rfl (hb hby at_120) rfl rfl k) ?_
              have f5221 := ((P1.keep Kq5137 nin0).keep Kq5218 nin0)
              have f5222 := ((P2.keep Kq5137 nin0).keep Kq5218 nin0)
              have f5223 := (P3.keep K5218 (ninS (Ne.symm (own_neA P0 (own_w hw 1 rfl) P3)) nin0))
              have f5224 := (P0.keep K5218)
              have f5225 := (Fc5137_0_0.keep Kq5218)
              refine own_cV (a := t10) X5218 hx hZ hown (own_w hw 68 rfl) (own_w hw 69 rfl) (own_w hw 71 rfl) (own_w hw 70 rfl) (own_w hw 2 rfl) (own_w hw 72 rfl) [(.int n11), (.ref gxc5137)] [] f5224 (own_rm13_97 l Z a0 hw [] t10 n11 gxc5137 u10 T5218.heap n0 Z5218 f5221 f5222 f5223 f5224 g_t10 hr11 f5225) 0 (hb hby at_122) (by rw [hml]; rfl) (lenOf own_pd6 rfl) rfl rfl rfl (by show 2 * 0 + _ ≤ _; exact Nat.le_of_eq rfl) (by decide) (by decide) (by decide) (by decide) (by decide) fun v5226 T5226 L5226 X5226 hQ5226 => ?_
              obtain ⟨N5226q, Kq5226, hL5226⟩ := hQ5226
              have N5226 := Fr.app N5218 N5226q
              have K5226 : Keep h0 T5226.heap [t10] := K5218.trans Kq5226 (allS (Or.inl (List.mem_of_getElem? (i := 0) rfl)) all0)
              have Z5226 := Nat.le_trans Z5218 Kq5226.1
              rcases hL5226 with ⟨b3x13_97c5226, k3x13_97c5226, rfl, sq_b3x13_97c5226, Fc5226_0_0, Fc5226_0_1, Fc5226_0_2, OFc5226_0_2, Fc5226_0_3, -⟩
              · skip
                have g_b3x13_97c5226 : n0 ≤ b3x13_97c5226 := Nat.le_trans Z5218 sq_b3x13_97c5226
                have sz_b3x13_97c5226 : h0.size ≤ b3x13_97c5226 := Nat.le_trans K5218.1 sq_b3x13_97c5226
                refine own_st (fun t k => XS.aload X5226.here hx rfl (hb hby at_125) rfl rfl k) ?_
                show own_Go _ _ _ _ T5226 (mkF m 127 #[.val (.long jp0), .second, .val (.long jp1), .second, .val (.int ip2), .val (.int ip3), .val (.int ip4), .val (.int ip5), .val (.long j8), .second, .val (.ref t10), .val (.int n11), .val (.int n12), .val (.ref gxc5137), .val (.ref gxc5218), .val .null, .val (.int (0 : Int32)), .unset] [(.ref t10)])
                refine own_st (fun t k => XS.iload X5226.here hx rfl (hb hby at_127) rfl (XS.aload X5226.here hx rfl (hb hby at_129) rfl rfl k)) ?_
                have f5227 := (Fc5218_0_0.keep Kq5226)
                have f5229 := (f5224.keep Kq5226)
                refine own_cV (a := t10) X5226 hx hZ hown (own_w hw 68 rfl) (own_w hw 69 rfl) (own_w hw 71 rfl) (own_w hw 70 rfl) (own_w hw 2 rfl) (own_w hw 72 rfl) [(.int n12), (.ref gxc5218)] [] f5229 (own_rm13_124 l Z a0 hw [] t10 n12 gxc5218 b3x13_97c5226 k3x13_97c5226 n11 gxc5137 T5226.heap n0 Z5226 Fc5226_0_0 Fc5226_0_2 OFc5226_0_2 hr12 f5227 g_b3x13_97c5226) 0 (hb hby at_131) (by rw [hml]; rfl) (lenOf own_pd6 rfl) rfl rfl rfl (by show 2 * 0 + _ ≤ _; exact Nat.le_of_eq rfl) (by decide) (by decide) (by decide) (by decide) (by decide) fun v5228 T5228 L5228 X5228 hQ5228 => ?_
                obtain ⟨N5228q, Kq5228, hL5228⟩ := hQ5228
                have N5228 := Fr.app N5226 N5228q
                have K5228 : Keep h0 T5228.heap [t10] := K5226.trans Kq5228 (allS (Or.inr sz_b3x13_97c5226) all0)
                have Z5228 := Nat.le_trans Z5226 Kq5228.1
                rcases hL5228 with ⟨k3x13_97c5226c5228, rfl, Fc5228_0_0, OFc5228_0_0, -⟩
                · skip
                  show own_Go _ _ _ _ T5228 (mkF m 134 #[.val (.long jp0), .second, .val (.long jp1), .second, .val (.int ip2), .val (.int ip3), .val (.int ip4), .val (.int ip5), .val (.long j8), .second, .val (.ref t10), .val (.int n11), .val (.int n12), .val (.ref gxc5137), .val (.ref gxc5218), .val .null, .val (.int (0 : Int32)), .unset] [])
                  refine own_st (fun t k => XS.iload X5228.here hx rfl (hb hby at_134) rfl (XS.ifYes X5228.here hx rfl (pc0 := 136) (pc' := 148) rfl (hb hby at_136) rfl ((if0 _ _).trans (teq (by decide : (0 : Int32) = (0 : Int32))).1) (by decide) (by decide) (XS.iload X5228.here hx rfl (hb hby at_148) rfl k))) ?_
                  show own_Go _ _ _ _ T5228 (mkF m 150 #[.val (.long jp0), .second, .val (.long jp1), .second, .val (.int ip2), .val (.int ip3), .val (.int ip4), .val (.int ip5), .val (.long j8), .second, .val (.ref t10), .val (.int n11), .val (.int n12), .val (.ref gxc5137), .val (.ref gxc5218), .val .null, .val (.int (0 : Int32)), .unset] [(.int (0 : Int32))])
                  refine own_st (fun t k => XS.ifYes X5228.here hx rfl (pc0 := 150) (pc' := 158) rfl (hb hby at_150) rfl ((if0 _ _).trans (teq (by decide : (0 : Int32) = (0 : Int32))).1) (by decide) (by decide) (XS.aload X5228.here hx rfl (hb hby at_158) rfl rfl (XS.astore X5228.here hx rfl (hb hby at_160) rfl rfl (l' := #[.val (.long jp0), .second, .val (.long jp1), .second, .val (.int ip2), .val (.int ip3), .val (.int ip4), .val (.int ip5), .val (.long j8), .second, .val (.ref t10), .val (.int n11), .val (.int n12), .val (.ref gxc5137), .val (.ref gxc5218), .val .null, .val (.int (0 : Int32)), .val (.ref gxc5137)]) rfl k))) ?_
                  show own_Go _ _ _ _ T5228 (mkF m 162 #[.val (.long jp0), .second, .val (.long jp1), .second, .val (.int ip2), .val (.int ip3), .val (.int ip4), .val (.int ip5), .val (.long j8), .second, .val (.ref t10), .val (.int n11), .val (.int n12), .val (.ref gxc5137), .val (.ref gxc5218), .val .null, .val (.int (0 : Int32)), .val (.ref gxc5137)] [])
                  refine own_st (fun t k => XS.iload X5228.here hx rfl (hb hby at_162) rfl (XS.iload X5228.here hx rfl (hb hby at_164) rfl (XS.icmpNo X5228.here hx rfl (hb hby at_166) rfl (feq hne).1 k))) ?_
                  show own_Go _ _ _ _ T5228 (mkF m 169 #[.val (.long jp0), .second, .val (.long jp1), .second, .val (.int ip2), .val (.int ip3), .val (.int ip4), .val (.int ip5), .val (.long j8), .second, .val (.ref t10), .val (.int n11), .val (.int n12), .val (.ref gxc5137), .val (.ref gxc5218), .val .null, .val (.int (0 : Int32)), .val (.ref gxc5137)] [])
                  refine own_st (fun t k => XS.aload X5228.here hx rfl (hb hby at_169) rfl rfl (XS.iload X5228.here hx rfl (hb hby at_171) rfl k)) ?_
                  have ne5230 : t10 ≠ b3x13_97c5226 := Nat.ne_of_lt (Nat.lt_of_lt_of_le P0.lt sz_b3x13_97c5226)
                  have f5231 := (Fc5226_0_0.keep Kq5228 (ninS ne5230 nin0))
                  have f5233 := (f5229.keep Kq5228)
                  refine own_cV (a := t10) X5228 hx hZ hown (own_w hw 76 rfl) (own_w hw 77 rfl) (own_w hw 79 rfl) (own_w hw 78 rfl) (own_w hw 2 rfl) (own_w hw 80 rfl) [(.int n11)] [] f5233 (own_rm14_125 l Z a0 hw [] t10 n11 b3x13_97c5226 k3x13_97c5226c5228 n12 gxc5218 gxc5137 T5228.heap n0 Z5228 f5231 Fc5228_0_0 OFc5228_0_0 hr11 hr12) 0 (hb hby at_173) (by rw [hml]; rfl) (lenOf own_pd7 rfl) rfl rfl rfl (by show 2 * 0 + _ ≤ _; exact Nat.le_of_eq rfl) (by decide) (by decide) (by decide) (by decide) (by decide) fun v5232 T5232 L5232 X5232 hQ5232 => ?_
                  obtain ⟨N5232q, Kq5232, hL5232⟩ := hQ5232
                  have N5232 := Fr.app N5228 N5232q
                  have K5232 : Keep h0 T5232.heap [t10] := K5228.trans Kq5232 all0
                  have Z5232 := Nat.le_trans Z5228 Kq5232.1
                  rcases hL5232 with ⟨rfl, hq5232_0_0, -⟩ | ⟨rfl, hq5232_1_0, -⟩
                  · skip
                    exact absurd hq5232_0_0 hne
                  · skip
                    show own_Go _ _ _ _ T5232 (mkF m 176 #[.val (.long jp0), .second, .val (.long jp1), .second, .val (.int ip2), .val (.int ip3), .val (.int ip4), .val (.int ip5), .val (.long j8), .second, .val (.ref t10), .val (.int n11), .val (.int n12), .val (.ref gxc5137), .val (.ref gxc5218), .val .null, .val (.int (0 : Int32)), .val (.ref gxc5137)] [(.ref gxc5137)])
                    refine own_st (fun t k => XS.aload X5232.here hx rfl (hb hby at_176) rfl rfl (Jvm.RoadKit.acmp (g := (mkF m 178 #[.val (.long jp0), .second, .val (.long jp1), .second, .val (.int ip2), .val (.int ip3), .val (.int ip4), .val (.int ip5), .val (.long j8), .second, .val (.ref t10), .val (.int n11), .val (.int n12), .val (.ref gxc5137), .val (.ref gxc5218), .val .null, .val (.int (0 : Int32)), .val (.ref gxc5137)] [(.ref gxc5137), (.ref gxc5137)])) X5232 hx rfl rfl rfl (pc0 := 178) (pc' := 181) (same := true) rfl (hb hby at_178) rfl (decide_eq_true (congrArg Value.ref (rfl : gxc5137 = gxc5137))) (by decide) (by decide) (XS.aload X5232.here hx rfl (hb hby at_181) rfl rfl k))) ?_
                    show own_Go _ _ _ _ T5232 (mkF m 183 #[.val (.long jp0), .second, .val (.long jp1), .second, .val (.int ip2), .val (.int ip3), .val (.int ip4), .val (.int ip5), .val (.long j8), .second, .val (.ref t10), .val (.int n11), .val (.int n12), .val (.ref gxc5137), .val (.ref gxc5218), .val .null, .val (.int (0 : Int32)), .val (.ref gxc5137)] [(.ref t10)])
                    refine own_st (fun t k => XS.iload X5232.here hx rfl (hb hby at_183) rfl k) ?_
                    have f5234 := (f5231.keep Kq5232 nin0)
                    have f5235 := (Fc5228_0_0.keep Kq5232 nin0)
                    have f5237 := (f5233.keep Kq5232)
                    refine own_cV (a := t10) X5232 hx hZ hown (own_w hw 76 rfl) (own_w hw 77 rfl) (own_w hw 79 rfl) (own_w hw 78 rfl) (own_w hw 2 rfl) (own_w hw 80 rfl) [(.int n12)] [] f5237 (own_rm14_126 l Z a0 hw [] t10 n12 b3x13_97c5226 k3x13_97c5226c5228 gxc5218 n11 gxc5137 T5232.heap n0 Z5232 f5234 f5235 OFc5228_0_0 hr12) 0 (hb hby at_185) (by rw [hml]; rfl) (lenOf own_pd7 rfl) rfl rfl rfl (by show 2 * 0 + _ ≤ _; exact Nat.le_of_eq rfl) (by decide) (by decide) (by decide) (by decide) (by decide) fun v5236 T5236 L5236 X5236 hQ5236 => ?_
                    obtain ⟨N5236q, Kq5236, hL5236⟩ := hQ5236
                    have N5236 := Fr.app N5232 N5236q
                    have K5236 : Keep h0 T5236.heap [t10] := K5232.trans Kq5236 all0
                    have Z5236 := Nat.le_trans Z5232 Kq5236.1
                    rcases hL5236 with ⟨rfl, -⟩
                    · skip
                      refine own_st (fun t k => XS.aload X5236.here hx rfl (hb hby at_188) rfl rfl k) ?_
                      show own_Go _ _ _ _ T5236 (mkF m 190 #[.val (.long jp0), .second, .val (.long jp1), .second, .val (.int ip2), .val (.int ip3), .val (.int ip4), .val (.int ip5), .val (.long j8), .second, .val (.ref t10), .val (.int n11), .val (.int n12), .val (.ref gxc5137), .val (.ref gxc5218), .val .null, .val (.int (0 : Int32)), .val (.ref gxc5137)] [(.ref gxc5218), (.ref gxc5218)])
                      refine own_st (fun t k => Jvm.RoadKit.acmp (g := (mkF m 190 #[.val (.long jp0), .second, .val (.long jp1), .second, .val (.int ip2), .val (.int ip3), .val (.int ip4), .val (.int ip5), .val (.long j8), .second, .val (.ref t10), .val (.int n11), .val (.int n12), .val (.ref gxc5137), .val (.ref gxc5218), .val .null, .val (.int (0 : Int32)), .val (.ref gxc5137)] [(.ref gxc5218), (.ref gxc5218)])) X5236 hx rfl rfl rfl (pc0 := 190) (pc' := 193) (same := true) rfl (hb hby at_190) rfl (decide_eq_true (congrArg Value.ref (rfl : gxc5218 = gxc5218))) (by decide) (by decide) (XS.iconst X5236.here hx rfl (hb hby at_193) (XS.goto X5236.here hx rfl (pc0 := 194) (pc' := 198) rfl (hb hby at_194) (by decide) (by decide) k))) ?_
                      show own_Go _ _ _ _ T5236 (mkF m 198 #[.val (.long jp0), .second, .val (.long jp1), .second, .val (.int ip2), .val (.int ip3), .val (.int ip4), .val (.int ip5), .val (.long j8), .second, .val (.ref t10), .val (.int n11), .val (.int n12), .val (.ref gxc5137), .val (.ref gxc5218), .val .null, .val (.int (0 : Int32)), .val (.ref gxc5137)] [(.int (1 : Int32))])
                      exact own_retZ X5236 hx hlk (t := .boolean) hret (by simp) (hb hby at_198) (by decide) (by decide) rfl ⟨rfl, N5236⟩
            · skip
              refine own_st (fun t k => XS.ifNo X5218.here hx rfl (hb hby at_106) rfl ((if0 _ _).trans (feq hc5220).1) (XS.iconst X5218.here hx rfl (hb hby at_109) (XS.goto X5218.here hx rfl (pc0 := 110) (pc' := 114) rfl (hb hby at_110) (by decide) (by decide) k))) ?_
              show own_Go _ _ _ _ T5218 (mkF m 114 #[.val (.long jp0), .second, .val (.long jp1), .second, .val (.int ip2), .val (.int ip3), .val (.int ip4), .val (.int ip5), .val (.long j8), .second, .val (.ref t10), .val (.int n11), .val (.int n12), .val (.ref gxc5137), .val (.ref gxc5218), .val .null, .unset, .unset] [(.int (1 : Int32))])
              refine own_st (fun t k => XS.istore X5218.here hx rfl (hb hby at_114) rfl (l' := #[.val (.long jp0), .second, .val (.long jp1), .second, .val (.int ip2), .val (.int ip3), .val (.int ip4), .val (.int ip5), .val (.long j8), .second, .val (.ref t10), .val (.int n11), .val (.int n12), .val (.ref gxc5137), .val (.ref gxc5218), .val .null, .val (.int (1 : Int32)), .unset]) rfl (XS.aload X5218.here hx rfl (hb hby at_116) rfl rfl (XS.iload X5218.here hx rfl (hb hby at_118) rfl k))) ?_
              show own_Go _ _ _ _ T5218 (mkF m 120 #[.val (.long jp0), .second, .val (.long jp1), .second, .val (.int ip2), .val (.int ip3), .val (.int ip4), .val (.int ip5), .val (.long j8), .second, .val (.ref t10), .val (.int n11), .val (.int n12), .val (.ref gxc5137), .val (.ref gxc5218), .val .null, .val (.int (1 : Int32)), .unset] [(.int n11), (.ref t10)])
              refine own_st (fun t k => XS.aload X5218.here hx rfl (hb hby at_120) rfl rfl k) ?_
              have f5238 := ((P1.keep Kq5137 nin0).keep Kq5218 nin0)
              have f5239 := ((P2.keep Kq5137 nin0).keep Kq5218 nin0)
              have f5240 := (P3.keep K5218 (ninS (Ne.symm (own_neA P0 (own_w hw 1 rfl) P3)) nin0))
              have f5241 := (P0.keep K5218)
              have f5242 := (Fc5137_0_0.keep Kq5218)
              refine own_cV (a := t10) X5218 hx hZ hown (own_w hw 68 rfl) (own_w hw 69 rfl) (own_w hw 71 rfl) (own_w hw 70 rfl) (own_w hw 2 rfl) (own_w hw 72 rfl) [(.int n11), (.ref gxc5137)] [] f5241 (own_rm13_97 l Z a0 hw [] t10 n11 gxc5137 u10 T5218.heap n0 Z5218 f5238 f5239 f5240 f5241 g_t10 hr11 f5242) 0 (hb hby at_122) (by rw [hml]; rfl) (lenOf own_pd6 rfl) rfl rfl rfl (by show 2 * 0 + _ ≤ _; exact Nat.le_of_eq rfl) (by decide) (by decide) (by decide) (by decide) (by decide) fun v5243 T5243 L5243 X5243 hQ5243 => ?_
              obtain ⟨N5243q, Kq5243, hL5243⟩ := hQ5243
              have N5243 := Fr.app N5218 N5243q
              have K5243 : Keep h0 T5243.heap [t10] := K5218.trans Kq5243 (allS (Or.inl (List.mem_of_getElem? (i := 0) rfl)) all0)
              have Z5243 := Nat.le_trans Z5218 Kq5243.1
              rcases hL5243 with ⟨b3x13_97c5243, k3x13_97c5243, rfl, sq_b3x13_97c5243, Fc5243_0_0, Fc5243_0_1, Fc5243_0_2, OFc5243_0_2, Fc5243_0_3, -⟩
              · skip
                have g_b3x13_97c5243 : n0 ≤ b3x13_97c5243 := Nat.le_trans Z5218 sq_b3x13_97c5243
                have sz_b3x13_97c5243 : h0.size ≤ b3x13_97c5243 := Nat.le_trans K5218.1 sq_b3x13_97c5243
                refine own_st (fun t k => XS.aload X5243.here hx rfl (hb hby at_125) rfl rfl k) ?_
                show own_Go _ _ _ _ T5243 (mkF m 127 #[.val (.long jp0), .second, .val (.long jp1), .second, .val (.int ip2), .val (.int ip3), .val (.int ip4), .val (.int ip5), .val (.long j8), .second, .val (.ref t10), .val (.int n11), .val (.int n12), .val (.ref gxc5137), .val (.ref gxc5218), .val .null, .val (.int (1 : Int32)), .unset] [(.ref t10)])
                refine own_st (fun t k => XS.iload X5243.here hx rfl (hb hby at_127) rfl (XS.aload X5243.here hx rfl (hb hby at_129) rfl rfl k)) ?_
                have f5244 := (Fc5218_0_0.keep Kq5243)
                have f5246 := (f5241.keep Kq5243)
                refine own_cV (a := t10) X5243 hx hZ hown (own_w hw 68 rfl) (own_w hw 69 rfl) (own_w hw 71 rfl) (own_w hw 70 rfl) (own_w hw 2 rfl) (own_w hw 72 rfl) [(.int n12), (.ref gxc5218)] [] f5246 (own_rm13_124 l Z a0 hw [] t10 n12 gxc5218 b3x13_97c5243 k3x13_97c5243 n11 gxc5137 T5243.heap n0 Z5243 Fc5243_0_0 Fc5243_0_2 OFc5243_0_2 hr12 f5244 g_b3x13_97c5243) 0 (hb hby at_131) (by rw [hml]; rfl) (lenOf own_pd6 rfl) rfl rfl rfl (by show 2 * 0 + _ ≤ _; exact Nat.le_of_eq rfl) (by decide) (by decide) (by decide) (by decide) (by decide) fun v5245 T5245 L5245 X5245 hQ5245 => ?_
                obtain ⟨N5245q, Kq5245, hL5245⟩ := hQ5245
                have N5245 := Fr.app N5243 N5245q
                have K5245 : Keep h0 T5245.heap [t10] := K5243.trans Kq5245 (allS (Or.inr sz_b3x13_97c5243) all0)
                have Z5245 := Nat.le_trans Z5243 Kq5245.1
                rcases hL5245 with ⟨k3x13_97c5226c5245, rfl, Fc5245_0_0, OFc5245_0_0, -⟩
                · skip
                  show own_Go _ _ _ _ T5245 (mkF m 134 #[.val (.long jp0), .second, .val (.long jp1), .second, .val (.int ip2), .val (.int ip3), .val (.int ip4), .val (.int ip5), .val (.long j8), .second, .val (.ref t10), .val (.int n11), .val (.int n12), .val (.ref gxc5137), .val (.ref gxc5218), .val .null, .val (.int (1 : Int32)), .unset] [])
                  refine own_st (fun t k => XS.iload X5245.here hx rfl (hb hby at_134) rfl (XS.ifNo X5245.here hx rfl (hb hby at_136) rfl ((if0 _ _).trans (feq (by decide : ¬ ((1 : Int32) = (0 : Int32)))).1) (XS.aload X5245.here hx rfl (hb hby at_139) rfl rfl k))) ?_
                  show own_Go _ _ _ _ T5245 (mkF m 141 #[.val (.long jp0), .second, .val (.long jp1), .second, .val (.int ip2), .val (.int ip3), .val (.int ip4), .val (.int ip5), .val (.long j8), .second, .val (.ref t10), .val (.int n11), .val (.int n12), .val (.ref gxc5137), .val (.ref gxc5218), .val .null, .val (.int (1 : Int32)), .unset] [(.ref t10)])
                  refine own_st (fun t k => XS.iload X5245.here hx rfl (hb hby at_141) rfl (XS.aload X5245.here hx rfl (hb hby at_143) rfl rfl k)) ?_
                  have ne5247 : t10 ≠ b3x13_97c5243 := Nat.ne_of_lt (Nat.lt_of_lt_of_le P0.lt sz_b3x13_97c5243)
                  have f5248 := (Fc5243_0_0.keep Kq5245 (ninS ne5247 nin0))
                  have f5250 := (f5246.keep Kq5245)
                  refine own_cV (a := t10) X5245 hx hZ hown (own_w hw 68 rfl) (own_w hw 69 rfl) (own_w hw 71 rfl) (own_w hw 70 rfl) (own_w hw 2 rfl) (own_w hw 72 rfl) [(.int n11), .null] [] f5250 (own_rm13_128 l Z a0 hw [] t10 n11 b3x13_97c5243 k3x13_97c5226c5245 n12 gxc5218 gxc5137 T5245.heap n0 Z5245 f5248 Fc5245_0_0 OFc5245_0_0 hr11 g_b3x13_97c5243) 0 (hb hby at_145) (by rw [hml]; rfl) (lenOf own_pd6 rfl) rfl rfl rfl (by show 2 * 0 + _ ≤ _; exact Nat.le_of_eq rfl) (by decide) (by decide) (by decide) (by decide) (by decide) fun v5249 T5249 L5249 X5249 hQ5249 => ?_
                  obtain ⟨N5249q, Kq5249, hL5249⟩ := hQ5249
                  have N5249 := Fr.app N5245 N5249q
                  have K5249 : Keep h0 T5249.heap [t10] := K5245.trans Kq5249 (allS (Or.inr sz_b3x13_97c5243) all0)
                  have Z5249 := Nat.le_trans Z5245 Kq5249.1
                  rcases hL5249 with ⟨k3x13_97c5226c5245c5249, rfl, Fc5249_0_0, OFc5249_0_0, -⟩
                  · skip
                    show own_Go _ _ _ _ T5249 (mkF m 148 #[.val (.long jp0), .second, .val (.long jp1), .second, .val (.int ip2), .val (.int ip3), .val (.int ip4), .val (.int ip5), .val (.long j8), .second, .val (.ref t10), .val (.int n11), .val (.int n12), .val (.ref gxc5137), .val (.ref gxc5218), .val .null, .val (.int (1 : Int32)), .unset] [])
                    refine own_st (fun t k => XS.iload X5249.here hx rfl (hb hby at_148) rfl (XS.ifNo X5249.here hx rfl (hb hby at_150) rfl ((if0 _ _).trans (feq (by decide : ¬ ((1 : Int32) = (0 : Int32)))).1) (XS.aload X5249.here hx rfl (hb hby at_153) rfl rfl k))) ?_
                    show own_Go _ _ _ _ T5249 (mkF m 155 #[.val (.long jp0), .second, .val (.long jp1), .second, .val (.int ip2), .val (.int ip3), .val (.int ip4), .val (.int ip5), .val (.long j8), .second, .val (.ref t10), .val (.int n11), .val (.int n12), .val (.ref gxc5137), .val (.ref gxc5218), .val .null, .val (.int (1 : Int32)), .unset] [.null])
                    refine own_st (fun t k => XS.goto X5249.here hx rfl (pc0 := 155) (pc' := 160) rfl (hb hby at_155) (by decide) (by decide) (XS.astore X5249.here hx rfl (hb hby at_160) rfl rfl (l' := #[.val (.long jp0), .second, .val (.long jp1), .second, .val (.int ip2), .val (.int ip3), .val (.int ip4), .val (.int ip5), .val (.long j8), .second, .val (.ref t10), .val (.int n11), .val (.int n12), .val (.ref gxc5137), .val (.ref gxc5218), .val .null, .val (.int (1 : Int32)), .val .null]) rfl (XS.iload X5249.here hx rfl (hb hby at_162) rfl k))) ?_
                    show own_Go _ _ _ _ T5249 (mkF m 164 #[.val (.long jp0), .second, .val (.long jp1), .second, .val (.int ip2), .val (.int ip3), .val (.int ip4), .val (.int ip5), .val (.long j8), .second, .val (.ref t10), .val (.int n11), .val (.int n12), .val (.ref gxc5137), .val (.ref gxc5218), .val .null, .val (.int (1 : Int32)), .val .null] [(.int n11)])
                    refine own_st (fun t k => XS.iload X5249.here hx rfl (hb hby at_164) rfl (XS.icmpNo X5249.here hx rfl (hb hby at_166) rfl (feq hne).1 (XS.aload X5249.here hx rfl (hb hby at_169) rfl rfl k))) ?_
                    show own_Go _ _ _ _ T5249 (mkF m 171 #[.val (.long jp0), .second, .val (.long jp1), .second, .val (.int ip2), .val (.int ip3), .val (.int ip4), .val (.int ip5), .val (.long j8), .second, .val (.ref t10), .val (.int n11), .val (.int n12), .val (.ref gxc5137), .val (.ref gxc5218), .val .null, .val (.int (1 : Int32)), .val .null] [(.ref t10)])
                    refine own_st (fun t k => XS.iload X5249.here hx rfl (hb hby at_171) rfl k) ?_
                    have f5251 := (f5248.keep Kq5249 (ninS ne5247 nin0))
                    have f5253 := (f5250.keep Kq5249)
                    refine own_cV (a := t10) X5249 hx hZ hown (own_w hw 76 rfl) (own_w hw 77 rfl) (own_w hw 79 rfl) (own_w hw 78 rfl) (own_w hw 2 rfl) (own_w hw 80 rfl) [(.int n11)] [] f5253 (own_rm14_129 l Z a0 hw [] t10 n11 b3x13_97c5243 k3x13_97c5226c5245c5249 n12 gxc5218 gxc5137 T5249.heap n0 Z5249 f5251 Fc5249_0_0 OFc5249_0_0 hr11) 0 (hb hby at_173) (by rw [hml]; rfl) (lenOf own_pd7 rfl) rfl rfl rfl (by show 2 * 0 + _ ≤ _; exact Nat.le_of_eq rfl) (by decide) (by decide) (by decide) (by decide) (by decide) fun v5252 T5252 L5252 X5252 hQ5252 => ?_
                    obtain ⟨N5252q, Kq5252, hL5252⟩ := hQ5252
                    have N5252 := Fr.app N5249 N5252q
                    have K5252 : Keep h0 T5252.heap [t10] := K5249.trans Kq5252 all0
                    have Z5252 := Nat.le_trans Z5249 Kq5252.1
                    rcases hL5252 with ⟨rfl, -⟩
                    · skip
                      refine own_st (fun t k => XS.aload X5252.here hx rfl (hb hby at_176) rfl rfl k) ?_
                      show own_Go _ _ _ _ T5252 (mkF m 178 #[.val (.long jp0), .second, .val (.long jp1), .second, .val (.int ip2), .val (.int ip3), .val (.int ip4), .val (.int ip5), .val (.long j8), .second, .val (.ref t10), .val (.int n11), .val (.int n12), .val (.ref gxc5137), .val (.ref gxc5218), .val .null, .val (.int (1 : Int32)), .val .null] [.null, .null])
                      refine own_st (fun t k => Jvm.RoadKit.acmp (g := (mkF m 178 #[.val (.long jp0), .second, .val (.long jp1), .second, .val (.int ip2), .val (.int ip3), .val (.int ip4), .val (.int ip5), .val (.long j8), .second, .val (.ref t10), .val (.int n11), .val (.int n12), .val (.ref gxc5137), .val (.ref gxc5218), .val .null, .val (.int (1 : Int32)), .val .null] [.null, .null])) X5252 hx rfl rfl rfl (pc0 := 178) (pc' := 181) (same := true) rfl (hb hby at_178) rfl (decide_eq_true rfl) (by decide) (by decide) (XS.aload X5252.here hx rfl (hb hby at_181) rfl rfl (XS.iload X5252.here hx rfl (hb hby at_183) rfl k))) ?_
                      show own_Go _ _ _ _ T5252 (mkF m 185 #[.val (.long jp0), .second, .val (.long jp1), .second, .val (.int ip2), .val (.int ip3), .val (.int ip4), .val (.int ip5), .val (.long j8), .second, .val (.ref t10), .val (.int n11), .val (.int n12), .val (.ref gxc5137), .val (.ref gxc5218), .val .null, .val (.int (1 : Int32)), .val .null] [(.int n12), (.ref t10)])
                      have f5254 := (f5251.keep Kq5252 nin0)
                      have f5255 := (Fc5249_0_0.keep Kq5252 nin0)
                      have f5257 := (f5253.keep Kq5252)
                      refine own_cV (a := t10) X5252 hx hZ hown (own_w hw 76 rfl) (own_w hw 77 rfl) (own_w hw 79 rfl) (own_w hw 78 rfl) (own_w hw 2 rfl) (own_w hw 80 rfl) [(.int n12)] [] f5257 (own_rm14_130 l Z a0 hw [] t10 n12 b3x13_97c5243 k3x13_97c5226c5245c5249 n11 gxc5218 gxc5137 T5252.heap n0 Z5252 f5254 f5255 OFc5249_0_0 hr12 hr11) 0 (hb hby at_185) (by rw [hml]; rfl) (lenOf own_pd7 rfl) rfl rfl rfl (by show 2 * 0 + _ ≤ _; exact Nat.le_of_eq rfl) (by decide) (by decide) (by decide) (by decide) (by decide) fun v5256 T5256 L5256 X5256 hQ5256 => ?_
                      obtain ⟨N5256q, Kq5256, hL5256⟩ := hQ5256
                      have N5256 := Fr.app N5252 N5256q
                      have K5256 : Keep h0 T5256.heap [t10] := K5252.trans Kq5256 all0
                      have Z5256 := Nat.le_trans Z5252 Kq5256.1
                      rcases hL5256 with ⟨rfl, hq5256_0_0, -⟩ | ⟨rfl, hq5256_1_0, -⟩
                      · skip
                        exact absurd hq5256_0_0 (Ne.symm hne)
                      · skip
                        refine own_st (fun t k => XS.aload X5256.here hx rfl (hb hby at_188) rfl rfl (Jvm.RoadKit.acmp (g := (mkF m 190 #[.val (.long jp0), .second, .val (.long jp1), .second, .val (.int ip2), .val (.int ip3), .val (.int ip4), .val (.int ip5), .val (.long j8), .second, .val (.ref t10), .val (.int n11), .val (.int n12), .val (.ref gxc5137), .val (.ref gxc5218), .val .null, .val (.int (1 : Int32)), .val .null] [(.ref gxc5218), (.ref gxc5218)])) X5256 hx rfl rfl rfl (pc0 := 190) (pc' := 193) (same := true) rfl (hb hby at_190) rfl (decide_eq_true (congrArg Value.ref (rfl : gxc5218 = gxc5218))) (by decide) (by decide) k)) ?_
                        show own_Go _ _ _ _ T5256 (mkF m 193 #[.val (.long jp0), .second, .val (.long jp1), .second, .val (.int ip2), .val (.int ip3), .val (.int ip4), .val (.int ip5), .val (.long j8), .second, .val (.ref t10), .val (.int n11), .val (.int n12), .val (.ref gxc5137), .val (.ref gxc5218), .val .null, .val (.int (1 : Int32)), .val .null] [])
                        refine own_st (fun t k => XS.iconst X5256.here hx rfl (hb hby at_193) (XS.goto X5256.here hx rfl (pc0 := 194) (pc' := 198) rfl (hb hby at_194) (by decide) (by decide) k)) ?_
                        exact own_retZ X5256 hx hlk (t := .boolean) hret (by simp) (hb hby at_198) (by decide) (by decide) rfl ⟨rfl, N5256⟩
          · skip
            refine own_st (fun t k => XS.ifNo X5218.here hx rfl (hb hby at_88) rfl ((if0 _ _).trans (feq hc5219).1) k) ?_
            show own_Go _ _ _ _ T5218 (mkF m 91 #[.val (.long jp0), .second, .val (.long jp1), .second, .val (.int ip2), .val (.int ip3), .val (.int ip4), .val (.int ip5), .val (.long j8), .second, .val (.ref t10), .val (.int n11), .val (.int n12), .val (.ref gxc5137), .val (.ref gxc5218), .unset, .unset, .unset] [])
            refine own_st (fun t k => XS.iload X5218.here hx rfl (hb hby at_91) rfl k) ?_
            have f5258 := (own_stak f5215 Kq5218 all0)
            have f5259 := (own_stak f5216 Kq5218 all0)
            have f5260 := (f5217.keep Kq5218 nin0)
            refine own_cS X5218 hx hZ hown (own_w hw 62 rfl) (own_w hw 63 rfl) (own_w hw 29 rfl) (own_w hw 64 rfl) [(.int ip4)] [] (own_rm12_91 l Z a0 hw [] ip4 w_cache T5218.heap n0 Z5218 f5258 f5259 f5260) 0 (hb hby at_93) (by rw [hml]; rfl) (lenOf own_pd9 rfl) rfl rfl rfl (by show 2 * 0 + _ ≤ _; exact Nat.le_of_eq rfl) (by decide) (by decide) (by decide) (by decide) (by decide) fun v5261 T5261 L5261 X5261 hQ5261 => ?_
            obtain ⟨N5261q, Kq5261, hL5261⟩ := hQ5261
            have N5261 := Fr.app N5218 N5261q
            have K5261 : Keep h0 T5261.heap [t10] := K5218.trans Kq5261 all0
            have Z5261 := Nat.le_trans Z5218 Kq5261.1
            rcases hL5261 with ⟨gxc5261, rfl, Fc5261_0_0, -⟩
            · skip
              refine own_st (fun t k => XS.goto X5261.here hx rfl (pc0 := 96) (pc' := 100) rfl (hb hby at_96) (by decide) (by decide) k) ?_
              show own_Go _ _ _ _ T5261 (mkF m 100 #[.val (.long jp0), .second, .val (.long jp1), .second, .val (.int ip2), .val (.int ip3), .val (.int ip4), .val (.int ip5), .val (.long j8), .second, .val (.ref t10), .val (.int n11), .val (.int n12), .val (.ref gxc5137), .val (.ref gxc5218), .unset, .unset, .unset] [(.ref gxc5261)])
              refine own_st (fun t k => XS.astore X5261.here hx rfl (hb hby at_100) rfl rfl (l' := #[.val (.long jp0), .second, .val (.long jp1), .second, .val (.int ip2), .val (.int ip3), .val (.int ip4), .val (.int ip5), .val (.long j8), .second, .val (.ref t10), .val (.int n11), .val (.int n12), .val (.ref gxc5137), .val (.ref gxc5218), .val (.ref gxc5261), .unset, .unset]) rfl (XS.iload X5261.here hx rfl (hb hby at_102) rfl (XS.iconst X5261.here hx rfl (hb hby at_104) k))) ?_
              show own_Go _ _ _ _ T5261 (mkF m 105 #[.val (.long jp0), .second, .val (.long jp1), .second, .val (.int ip2), .val (.int ip3), .val (.int ip4), .val (.int ip5), .val (.long j8), .second, .val (.ref t10), .val (.int n11), .val (.int n12), .val (.ref gxc5137), .val (.ref gxc5218), .val (.ref gxc5261), .unset, .unset] [(.int (4 : Int32)), (.int ip5)])
              refine own_st (fun t k => XS.iand X5261.here hx rfl (hb hby at_105) rfl k) ?_
              by_cases hc5262 : (ip5 &&& (4 : Int32)) = (0 : Int32)
              · skip
                refine own_st (fun t k => XS.ifYes X5261.here hx rfl (pc0 := 106) (pc' := 113) rfl (hb hby at_106) rfl ((if0 _ _).trans (teq hc5262).1) (by decide) (by decide) (XS.iconst X5261.here hx rfl (hb hby at_113) k)) ?_
                show own_Go _ _ _ _ T5261 (mkF m 114 #[.val (.long jp0), .second, .val (.long jp1), .second, .val (.int ip2), .val (.int ip3), .val (.int ip4), .val (.int ip5), .val (.long j8), .second, .val (.ref t10), .val (.int n11), .val (.int n12), .val (.ref gxc5137), .val (.ref gxc5218), .val (.ref gxc5261), .unset, .unset] [(.int (0 : Int32))])
                refine own_st (fun t k => XS.istore X5261.here hx rfl (hb hby at_114) rfl (l' := #[.val (.long jp0), .second, .val (.long jp1), .second, .val (.int ip2), .val (.int ip3), .val (.int ip4), .val (.int ip5), .val (.long j8), .second, .val (.ref t10), .val (.int n11), .val (.int n12), .val (.ref gxc5137), .val (.ref gxc5218), .val (.ref gxc5261), .val (.int (0 : Int32)), .unset]) rfl (XS.aload X5261.here hx rfl (hb hby at_116) rfl rfl (XS.iload X5261.here hx rfl (hb hby at_118) rfl k))) ?_
                show own_Go _ _ _ _ T5261 (mkF m 120 #[.val (.long jp0), .second, .val (.long jp1), .second, .val (.int ip2), .val (.int ip3), .val (.int ip4), .val (.int ip5), .val (.long j8), .second, .val (.ref t10), .val (.int n11), .val (.int n12), .val (.ref gxc5137), .val (.ref gxc5218), .val (.ref gxc5261), .val (.int (0 : Int32)), .unset] [(.int n11), (.ref t10)])
                refine own_st (fun t k => XS.aload X5261.here hx rfl (hb hby at_120) rfl rfl k) ?_
                have f5263 := (((P1.keep Kq5137 nin0).keep Kq5218 nin0).keep Kq5261 nin0)
                have f5264 := (((P2.keep Kq5137 nin0).keep Kq5218 nin0).keep Kq5261 nin0)
                have f5265 := (P3.keep K5261 (ninS (Ne.symm (own_neA P0 (own_w hw 1 rfl) P3)) nin0))
                have f5266 := (P0.keep K5261)
                have f5267 := ((Fc5137_0_0.keep Kq5218).keep Kq5261)
                refine own_cV (a := t10) X5261 hx hZ hown (own_w hw 68 rfl) (own_w hw 69 rfl) (own_w hw 71 rfl) (own_w hw 70 rfl) (own_w hw 2 rfl) (own_w hw 72 rfl) [(.int n11), (.ref gxc5137)] [] f5266 (own_rm13_97 l Z a0 hw [] t10 n11 gxc5137 u10 T5261.heap n0 Z5261 f5263 f5264 f5265 f5266 g_t10 hr11 f5267) 0 (hb hby at_122) (by rw [hml]; rfl) (lenOf own_pd6 rfl) rfl rfl rfl (by show 2 * 0 + _ ≤ _; exact Nat.le_of_eq rfl) (by decide) (by decide) (by decide) (by decide) (by decide) fun v5268 T5268 L5268 X5268 hQ5268 => ?_
                obtain ⟨N5268q, Kq5268, hL5268⟩ := hQ5268
                have N5268 := Fr.app N5261 N5268q
                have K5268 : Keep h0 T5268.heap [t10] := K5261.trans Kq5268 (allS (Or.inl (List.mem_of_getElem? (i := 0) rfl)) all0)
                have Z5268 := Nat.le_trans Z5261 Kq5268.1
                rcases hL5268 with ⟨b3x13_97c5268, k3x13_97c5268, rfl, sq_b3x13_97c5268, Fc5268_0_0, Fc5268_0_1, Fc5268_0_2, OFc5268_0_2, Fc5268_0_3, -⟩
                · skip
                  have g_b3x13_97c5268 : n0 ≤ b3x13_97c5268 := Nat.le_trans Z5261 sq_b3x13_97c5268
                  have sz_b3x13_97c5268 : h0.size ≤ b3x13_97c5268 := Nat.le_trans K5261.1 sq_b3x13_97c5268
                  refine own_st (fun t k => XS.aload X5268.here hx rfl (hb hby at_125) rfl rfl k) ?_
                  show own_Go _ _ _ _ T5268 (mkF m 127 #[.val (.long jp0), .second, .val (.long jp1), .second, .val (.int ip2), .val (.int ip3), .val (.int ip4), .val (.int ip5), .val (.long j8), .second, .val (.ref t10), .val (.int n11), .val (.int n12), .val (.ref gxc5137), .val (.ref gxc5218), .val (.ref gxc5261), .val (.int (0 : Int32)), .unset] [(.ref t10)])
                  refine own_st (fun t k => XS.iload X5268.here hx rfl (hb hby at_127) rfl (XS.aload X5268.here hx rfl (hb hby at_129) rfl rfl k)) ?_
                  have f5269 := ((Fc5218_0_0.keep Kq5261).keep Kq5268)
                  have f5271 := (f5266.keep Kq5268)
                  refine own_cV (a := t10) X5268 hx hZ hown (own_w hw 68 rfl) (own_w hw 69 rfl) (own_w hw 71 rfl) (own_w hw 70 rfl) (own_w hw 2 rfl) (own_w hw 72 rfl) [(.int n12), (.ref gxc5218)] [] f5271 (own_rm13_124 l Z a0 hw [] t10 n12 gxc5218 b3x13_97c5268 k3x13_97c5268 n11 gxc5137 T5268.heap n0 Z5268 Fc5268_0_0 Fc5268_0_2 OFc5268_0_2 hr12 f5269 g_b3x13_97c5268) 0 (hb hby at_131) (by rw [hml]; rfl) (lenOf own_pd6 rfl) rfl rfl rfl (by show 2 * 0 + _ ≤ _; exact Nat.le_of_eq rfl) (by decide) (by decide) (by decide) (by decide) (by decide) fun v5270 T5270 L5270 X5270 hQ5270 => ?_
                  obtain ⟨N5270q, Kq5270, hL5270⟩ := hQ5270
                  have N5270 := Fr.app N5268 N5270q
                  have K5270 : Keep h0 T5270.heap [t10] := K5268.trans Kq5270 (allS (Or.inr sz_b3x13_97c5268) all0)
                  have Z5270 := Nat.le_trans Z5268 Kq5270.1
                  rcases hL5270 with ⟨k3x13_97c5226c5270, rfl, Fc5270_0_0, OFc5270_0_0, -⟩
                  · skip
                    show own_Go _ _ _ _ T5270 (mkF m 134 #[.val (.long jp0), .second, .val (.long jp1), .second, .val (.int ip2), .val (.int ip3), .val (.int ip4), .val (.int ip5), .val (.long j8), .second, .val (.ref t10), .val (.int n11), .val (.int n12), .val (.ref gxc5137), .val (.ref gxc5218), .val (.ref gxc5261), .val (.int (0 : Int32)), .unset] [])
                    refine own_st (fun t k => XS.iload X5270.here hx rfl (hb hby at_134) rfl (XS.ifYes X5270.here hx rfl (pc0 := 136) (pc' := 148) rfl (hb hby at_136) rfl ((if0 _ _).trans (teq (by decide : (0 : Int32) = (0 : Int32))).1) (by decide) (by decide) (XS.iload X5270.here hx rfl (hb hby at_148) rfl k))) ?_
                    show own_Go _ _ _ _ T5270 (mkF m 150 #[.val (.long jp0), .second, .val (.long jp1), .second, .val (.int ip2), .val (.int ip3), .val (.int ip4), .val (.int ip5), .val (.long j8), .second, .val (.ref t10), .val (.int n11), .val (.int n12), .val (.ref gxc5137), .val (.ref gxc5218), .val (.ref gxc5261), .val (.int (0 : Int32)), .unset] [(.int (0 : Int32))])
                    refine own_st (fun t k => XS.ifYes X5270.here hx rfl (pc0 := 150) (pc' := 158) rfl (hb hby at_150) rfl ((if0 _ _).trans (teq (by decide : (0 : Int32) = (0 : Int32))).1) (by decide) (by decide) (XS.aload X5270.here hx rfl (hb hby at_158) rfl rfl (XS.astore X5270.here hx rfl (hb hby at_160) rfl rfl (l' := #[.val (.long jp0), .second, .val (.long jp1), .second, .val (.int ip2), .val (.int ip3), .val (.int ip4), .val (.int ip5), .val (.long j8), .second, .val (.ref t10), .val (.int n11), .val (.int n12), .val (.ref gxc5137), .val (.ref gxc5218), .val (.ref gxc5261), .val (.int (0 : Int32)), .val (.ref gxc5137)]) rfl k))) ?_
                    show own_Go _ _ _ _ T5270 (mkF m 162 #[.val (.long jp0), .second, .val (.long jp1), .second, .val (.int ip2), .val (.int ip3), .val (.int ip4), .val (.int ip5), .val (.long j8), .second, .val (.ref t10), .val (.int n11), .val (.int n12), .val (.ref gxc5137), .val (.ref gxc5218), .val (.ref gxc5261), .val (.int (0 : Int32)), .val (.ref gxc5137)] [])
                    refine own_st (fun t k => XS.iload X5270.here hx rfl (hb hby at_162) rfl (XS.iload X5270.here hx rfl (hb hby at_164) rfl (XS.icmpNo X5270.here hx rfl (hb hby at_166) rfl (feq hne).1 k))) ?_
                    show own_Go _ _ _ _ T5270 (mkF m 169 #[.val (.long jp0), .second, .val (.long jp1), .second, .val (.int ip2), .val (.int ip3), .val (.int ip4), .val (.int ip5), .val (.long j8), .second, .val (.ref t10), .val (.int n11), .val (.int n12), .val (.ref gxc5137), .val (.ref gxc5218), .val (.ref gxc5261), .val (.int (0 : Int32)), .val (.ref gxc5137)] [])
                    refine own_st (fun t k => XS.aload X5270.here hx rfl (hb hby at_169) rfl rfl (XS.iload X5270.here hx rfl (hb hby at_171) rfl k)) ?_
                    have ne5272 : t10 ≠ b3x13_97c5268 := Nat.ne_of_lt (Nat.lt_of_lt_of_le P0.lt sz_b3x13_97c5268)
                    have f5273 := (Fc5268_0_0.keep Kq5270 (ninS ne5272 nin0))
                    have f5275 := (f5271.keep Kq5270)
                    refine own_cV (a := t10) X5270 hx hZ hown (own_w hw 76 rfl) (own_w hw 77 rfl) (own_w hw 79 rfl) (own_w hw 78 rfl) (own_w hw 2 rfl) (own_w hw 80 rfl) [(.int n11)] [] f5275 (own_rm14_125 l Z a0 hw [] t10 n11 b3x13_97c5268 k3x13_97c5226c5270 n12 gxc5218 gxc5137 T5270.heap n0 Z5270 f5273 Fc5270_0_0 OFc5270_0_0 hr11 hr12) 0 (hb hby at_173) (by rw [hml]; rfl) (lenOf own_pd7 rfl) rfl rfl rfl (by show 2 * 0 + _ ≤ _; exact Nat.le_of_eq rfl) (by decide) (by decide) (by decide) (by decide) (by decide) fun v5274 T5274 L5274 X5274 hQ5274 => ?_
                    obtain ⟨N5274q, Kq5274, hL5274⟩ := hQ5274
                    have N5274 := Fr.app N5270 N5274q
                    have K5274 : Keep h0 T5274.heap [t10] := K5270.trans Kq5274 all0
                    have Z5274 := Nat.le_trans Z5270 Kq5274.1
                    rcases hL5274 with ⟨rfl, hq5274_0_0, -⟩ | ⟨rfl, hq5274_1_0, -⟩
                    · skip
                      exact absurd hq5274_0_0 hne
                    · skip
                      show own_Go _ _ _ _ T5274 (mkF m 176 #[.val (.long jp0), .second, .val (.long jp1), .second, .val (.int ip2), .val (.int ip3), .val (.int ip4), .val (.int ip5), .val (.long j8), .second, .val (.ref t10), .val (.int n11), .val (.int n12), .val (.ref gxc5137), .val (.ref gxc5218), .val (.ref gxc5261), .val (.int (0 : Int32)), .val (.ref gxc5137)] [(.ref gxc5137)])
                      refine own_st (fun t k => XS.aload X5274.here hx rfl (hb hby at_176) rfl rfl (Jvm.RoadKit.acmp (g := (mkF m 178 #[.val (.long jp0), .second, .val (.long jp1), .second, .val (.int ip2), .val (.int ip3), .val (.int ip4), .val (.int ip5), .val (.long j8), .second, .val (.ref t10), .val (.int n11), .val (.int n12), .val (.ref gxc5137), .val (.ref gxc5218), .val (.ref gxc5261), .val (.int (0 : Int32)), .val (.ref gxc5137)] [(.ref gxc5137), (.ref gxc5137)])) X5274 hx rfl rfl rfl (pc0 := 178) (pc' := 181) (same := true) rfl (hb hby at_178) rfl (decide_eq_true (congrArg Value.ref (rfl : gxc5137 = gxc5137))) (by decide) (by decide) (XS.aload X5274.here hx rfl (hb hby at_181) rfl rfl k))) ?_
                      show own_Go _ _ _ _ T5274 (mkF m 183 #[.val (.long jp0), .second, .val (.long jp1), .second, .val (.int ip2), .val (.int ip3), .val (.int ip4), .val (.int ip5), .val (.long j8), .second, .val (.ref t10), .val (.int n11), .val (.int n12), .val (.ref gxc5137), .val (.ref gxc5218), .val (.ref gxc5261), .val (.int (0 : Int32)), .val (.ref gxc5137)] [(.ref t10)])
                      refine own_st (fun t k => XS.iload X5274.here hx rfl (hb hby at_183) rfl k) ?_
                      have f5276 := (f5273.keep Kq5274 nin0)
                      have f5277 := (Fc5270_0_0.keep Kq5274 nin0)
                      have f5279 := (f5275.keep Kq5274)
                      refine own_cV (a := t10) X5274 hx hZ hown (own_w hw 76 rfl) (own_w hw 77 rfl) (own_w hw 79 rfl) (own_w hw 78 rfl) (own_w hw 2 rfl) (own_w hw 80 rfl) [(.int n12)] [] f5279 (own_rm14_126 l Z a0 hw [] t10 n12 b3x13_97c5268 k3x13_97c5226c5270 gxc5218 n11 gxc5137 T5274.heap n0 Z5274 f5276 f5277 OFc5270_0_0 hr12) 0 (hb hby at_185) (by rw [hml]; rfl) (lenOf own_pd7 rfl) rfl rfl rfl (by show 2 * 0 + _ ≤ _; exact Nat.le_of_eq rfl) (by decide) (by decide) (by decide) (by decide) (by decide) fun v5278 T5278 L5278 X5278 hQ5278 => ?_
                      obtain ⟨N5278q, Kq5278, hL5278⟩ := hQ5278
                      have N5278 := Fr.app N5274 N5278q
                      have K5278 : Keep h0 T5278.heap [t10] := K5274.trans Kq5278 all0
                      have Z5278 := Nat.le_trans Z5274 Kq5278.1
                      rcases hL5278 with ⟨rfl, -⟩
                      · skip
                        refine own_st (fun t k => XS.aload X5278.here hx rfl (hb hby at_188) rfl rfl k) ?_
                        show own_Go _ _ _ _ T5278 (mkF m 190 #[.val (.long jp0), .second, .val (.long jp1), .second, .val (.int ip2), .val (.int ip3), .val (.int ip4), .val (.int ip5), .val (.long j8), .second, .val (.ref t10), .val (.int n11), .val (.int n12), .val (.ref gxc5137), .val (.ref gxc5218), .val (.ref gxc5261), .val (.int (0 : Int32)), .val (.ref gxc5137)] [(.ref gxc5218), (.ref gxc5218)])
                        refine own_st (fun t k => Jvm.RoadKit.acmp (g := (mkF m 190 #[.val (.long jp0), .second, .val (.long jp1), .second, .val (.int ip2), .val (.int ip3), .val (.int ip4), .val (.int ip5), .val (.long j8), .second, .val (.ref t10), .val (.int n11), .val (.int n12), .val (.ref gxc5137), .val (.ref gxc5218), .val (.ref gxc5261), .val (.int (0 : Int32)), .val (.ref gxc5137)] [(.ref gxc5218), (.ref gxc5218)])) X5278 hx rfl rfl rfl (pc0 := 190) (pc' := 193) (same := true) rfl (hb hby at_190) rfl (decide_eq_true (congrArg Value.ref (rfl : gxc5218 = gxc5218))) (by decide) (by decide) (XS.iconst X5278.here hx rfl (hb hby at_193) (XS.goto X5278.here hx rfl (pc0 := 194) (pc' := 198) rfl (hb hby at_194) (by decide) (by decide) k))) ?_
                        show own_Go _ _ _ _ T5278 (mkF m 198 #[.val (.long jp0), .second, .val (.long jp1), .second, .val (.int ip2), .val (.int ip3), .val (.int ip4), .val (.int ip5), .val (.long j8), .second, .val (.ref t10), .val (.int n11), .val (.int n12), .val (.ref gxc5137), .val (.ref gxc5218), .val (.ref gxc5261), .val (.int (0 : Int32)), .val (.ref gxc5137)] [(.int (1 : Int32))])
                        exact own_retZ X5278 hx hlk (t := .boolean) hret (by simp) (hb hby at_198) (by decide) (by decide) rfl ⟨rfl, N5278⟩
              · skip
                refine own_st (fun t k => XS.ifNo X5261.here hx rfl (hb hby at_106) rfl ((if0 _ _).trans (feq hc5262).1) (XS.iconst X5261.here hx rfl (hb hby at_109) (XS.goto X5261.here hx rfl (pc0 := 110) (pc' := 114) rfl (hb hby at_110) (by decide) (by decide) k))) ?_
                show own_Go _ _ _ _ T5261 (mkF m 114 #[.val (.long jp0), .second, .val (.long jp1), .second, .val (.int ip2), .val (.int ip3), .val (.int ip4), .val (.int ip5), .val (.long j8), .second, .val (.ref t10), .val (.int n11), .val (.int n12), .val (.ref gxc5137), .val (.ref gxc5218), .val (.ref gxc5261), .unset, .unset] [(.int (1 : Int32))])
                refine own_st (fun t k => XS.istore X5261.here hx rfl (hb hby at_114) rfl (l' := #[.val (.long jp0), .second, .val (.long jp1), .second, .val (.int ip2), .val (.int ip3), .val (.int ip4), .val (.int ip5), .val (.long j8), .second, .val (.ref t10), .val (.int n11), .val (.int n12), .val (.ref gxc5137), .val (.ref gxc5218), .val (.ref gxc5261), .val (.int (1 : Int32)), .unset]) rfl (XS.aload X5261.here hx rfl (hb hby at_116) rfl rfl (XS.iload X5261.here hx rfl (hb hby at_118) rfl k))) ?_
                show own_Go _ _ _ _ T5261 (mkF m 120 #[.val (.long jp0), .second, .val (.long jp1), .second, .val (.int ip2), .val (.int ip3), .val (.int ip4), .val (.int ip5), .val (.long j8), .second, .val (.ref t10), .val (.int n11), .val (.int n12), .val (.ref gxc5137), .val (.ref gxc5218), .val (.ref gxc5261), .val (.int (1 : Int32)), .unset] [(.int n11), (.ref t10)])
                refine own_st (fun t k => XS.aload X5261.here hx rfl (hb hby at_120) rfl rfl k) ?_
                have f5280 := (((P1.keep Kq5137 nin0).keep Kq5218 nin0).keep Kq5261 nin0)
                have f5281 := (((P2.keep Kq5137 nin0).keep Kq5218 nin0).keep Kq5261 nin0)
                have f5282 := (P3.keep K5261 (ninS (Ne.symm (own_neA P0 (own_w hw 1 rfl) P3)) nin0))
                have f5283 := (P0.keep K5261)
                have f5284 := ((Fc5137_0_0.keep Kq5218).keep Kq5261)
                refine own_cV (a := t10) X5261 hx hZ hown (own_w hw 68 rfl) (own_w hw 69 rfl) (own_w hw 71 rfl) (own_w hw 70 rfl) (own_w hw 2 rfl) (own_w hw 72 rfl) [(.int n11), (.ref gxc5137)] [] f5283 (own_rm13_97 l Z a0 hw [] t10 n11 gxc5137 u10 T5261.heap n0 Z5261 f5280 f5281 f5282 f5283 g_t10 hr11 f5284) 0 (hb hby at_122) (by rw [hml]; rfl) (lenOf own_pd6 rfl) rfl rfl rfl (by show 2 * 0 + _ ≤ _; exact Nat.le_of_eq rfl) (by decide) (by decide) (by decide) (by decide) (by decide) fun v5285 T5285 L5285 X5285 hQ5285 => ?_
                obtain ⟨N5285q, Kq5285, hL5285⟩ := hQ5285
                have N5285 := Fr.app N5261 N5285q
                have K5285 : Keep h0 T5285.heap [t10] := K5261.trans Kq5285 (allS (Or.inl (List.mem_of_getElem? (i := 0) rfl)) all0)
                have Z5285 := Nat.le_trans Z5261 Kq5285.1
                rcases hL5285 with ⟨b3x13_97c5285, k3x13_97c5285, rfl, sq_b3x13_97c5285, Fc5285_0_0, Fc5285_0_1, Fc5285_0_2, OFc5285_0_2, Fc5285_0_3, -⟩
                · skip
                  have g_b3x13_97c5285 : n0 ≤ b3x13_97c5285 := Nat.le_trans Z5261 sq_b3x13_97c5285
                  have sz_b3x13_97c5285 : h0.size ≤ b3x13_97c5285 := Nat.le_trans K5261.1 sq_b3x13_97c5285
                  refine own_st (fun t k => XS.aload X5285.here hx rfl (hb hby at_125) rfl rfl k) ?_
                  show own_Go _ _ _ _ T5285 (mkF m 127 #[.val (.long jp0), .second, .val (.long jp1), .second, .val (.int ip2), .val (.int ip3), .val (.int ip4), .val (.int ip5), .val (.long j8), .second, .val (.ref t10), .val (.int n11), .val (.int n12), .val (.ref gxc5137), .val (.ref gxc5218), .val (.ref gxc5261), .val (.int (1 : Int32)), .unset] [(.ref t10)])
                  refine own_st (fun t k => XS.iload X5285.here hx rfl (hb hby at_127) rfl (XS.aload X5285.here hx rfl (hb hby at_129) rfl rfl k)) ?_
                  have f5286 := ((Fc5218_0_0.keep Kq5261).keep Kq5285)
                  have f5288 := (f5283.keep Kq5285)
                  refine own_cV (a := t10) X5285 hx hZ hown (own_w hw 68 rfl) (own_w hw 69 rfl) (own_w hw 71 rfl) (own_w hw 70 rfl) (own_w hw 2 rfl) (own_w hw 72 rfl) [(.int n12), (.ref gxc5218)] [] f5288 (own_rm13_124 l Z a0 hw [] t10 n12 gxc5218 b3x13_97c5285 k3x13_97c5285 n11 gxc5137 T5285.heap n0 Z5285 Fc5285_0_0 Fc5285_0_2 OFc5285_0_2 hr12 f5286 g_b3x13_97c5285) 0 (hb hby at_131) (by rw [hml]; rfl) (lenOf own_pd6 rfl) rfl rfl rfl (by show 2 * 0 + _ ≤ _; exact Nat.le_of_eq rfl) (by decide) (by decide) (by decide) (by decide) (by decide) fun v5287 T5287 L5287 X5287 hQ5287 => ?_
                  obtain ⟨N5287q, Kq5287, hL5287⟩ := hQ5287
                  have N5287 := Fr.app N5285 N5287q
                  have K5287 : Keep h0 T5287.heap [t10] := K5285.trans Kq5287 (allS (Or.inr sz_b3x13_97c5285) all0)
                  have Z5287 := Nat.le_trans Z5285 Kq5287.1
                  rcases hL5287 with ⟨k3x13_97c5226c5287, rfl, Fc5287_0_0, OFc5287_0_0, -⟩
                  · skip
                    show own_Go _ _ _ _ T5287 (mkF m 134 #[.val (.long jp0), .second, .val (.long jp1), .second, .val (.int ip2), .val (.int ip3), .val (.int ip4), .val (.int ip5), .val (.long j8), .second, .val (.ref t10), .val (.int n11), .val (.int n12), .val (.ref gxc5137), .val (.ref gxc5218), .val (.ref gxc5261), .val (.int (1 : Int32)), .unset] [])
                    refine own_st (fun t k => XS.iload X5287.here hx rfl (hb hby at_134) rfl (XS.ifNo X5287.here hx rfl (hb hby at_136) rfl ((if0 _ _).trans (feq (by decide : ¬ ((1 : Int32) = (0 : Int32)))).1) (XS.aload X5287.here hx rfl (hb hby at_139) rfl rfl k))) ?_
                    show own_Go _ _ _ _ T5287 (mkF m 141 #[.val (.long jp0), .second, .val (.long jp1), .second, .val (.int ip2), .val (.int ip3), .val (.int ip4), .val (.int ip5), .val (.long j8), .second, .val (.ref t10), .val (.int n11), .val (.int n12), .val (.ref gxc5137), .val (.ref gxc5218), .val (.ref gxc5261), .val (.int (1 : Int32)), .unset] [(.ref t10)])
                    refine own_st (fun t k => XS.iload X5287.here hx rfl (hb hby at_141) rfl (XS.aload X5287.here hx rfl (hb hby at_143) rfl rfl k)) ?_
                    have ne5289 : t10 ≠ b3x13_97c5285 := Nat.ne_of_lt (Nat.lt_of_lt_of_le P0.lt sz_b3x13_97c5285)
                    have f5290 := (Fc5285_0_0.keep Kq5287 (ninS ne5289 nin0))
                    have f5291 := ((Fc5261_0_0.keep Kq5285).keep Kq5287)
                    have f5293 := (f5288.keep Kq5287)
                    refine own_cV (a := t10) X5287 hx hZ hown (own_w hw 68 rfl) (own_w hw 69 rfl) (own_w hw 71 rfl) (own_w hw 70 rfl) (own_w hw 2 rfl) (own_w hw 72 rfl) [(.int n11), (.ref gxc5261)] [] f5293 (own_rm13_132 l Z a0 hw [] t10 n11 gxc5261 b3x13_97c5285 k3x13_97c5226c5287 n12 gxc5218 gxc5137 T5287.heap n0 Z5287 f5290 Fc5287_0_0 OFc5287_0_0 hr11 f5291 g_b3x13_97c5285) 0 (hb hby at_145) (by rw [hml]; rfl) (lenOf own_pd6 rfl) rfl rfl rfl (by show 2 * 0 + _ ≤ _; exact Nat.le_of_eq rfl) (by decide) (by decide) (by decide) (by decide) (by decide) fun v5292 T5292 L5292 X5292 hQ5292 => ?_
                    obtain ⟨N5292q, Kq5292, hL5292⟩ := hQ5292
                    have N5292 := Fr.app N5287 N5292q
                    have K5292 : Keep h0 T5292.heap [t10] := K5287.trans Kq5292 (allS (Or.inr sz_b3x13_97c5285) all0)
                    have Z5292 := Nat.le_trans Z5287 Kq5292.1
                    rcases hL5292 with ⟨k3x13_97c5226c5287c5292, rfl, Fc5292_0_0, OFc5292_0_0, -⟩
                    · skip
                      show own_Go _ _ _ _ T5292 (mkF m 148 #[.val (.long jp0), .second, .val (.long jp1), .second, .val (.int ip2), .val (.int ip3), .val (.int ip4), .val (.int ip5), .val (.long j8), .second, .val (.ref t10), .val (.int n11), .val (.int n12), .val (.ref gxc5137), .val (.ref gxc5218), .val (.ref gxc5261), .val (.int (1 : Int32)), .unset] [])
                      refine own_st (fun t k => XS.iload X5292.here hx rfl (hb hby at_148) rfl (XS.ifNo X5292.here hx rfl (hb hby at_150) rfl ((if0 _ _).trans (feq (by decide : ¬ ((1 : Int32) = (0 : Int32)))).1) (XS.aload X5292.here hx rfl (hb hby at_153) rfl rfl k))) ?_
                      show own_Go _ _ _ _ T5292 (mkF m 155 #[.val (.long jp0), .second, .val (.long jp1), .second, .val (.int ip2), .val (.int ip3), .val (.int ip4), .val (.int ip5), .val (.long j8), .second, .val (.ref t10), .val (.int n11), .val (.int n12), .val (.ref gxc5137), .val (.ref gxc5218), .val (.ref gxc5261), .val (.int (1 : Int32)), .unset] [(.ref gxc5261)])
                      refine own_st (fun t k => XS.goto X5292.here hx rfl (pc0 := 155) (pc' := 160) rfl (hb hby at_155) (by decide) (by decide) (XS.astore X5292.here hx rfl (hb hby at_160) rfl rfl (l' := #[.val (.long jp0), .second, .val (.long jp1), .second, .val (.int ip2), .val (.int ip3), .val (.int ip4), .val (.int ip5), .val (.long j8), .second, .val (.ref t10), .val (.int n11), .val (.int n12), .val (.ref gxc5137), .val (.ref gxc5218), .val (.ref gxc5261), .val (.int (1 : Int32)), .val (.ref gxc5261)]) rfl (XS.iload X5292.here hx rfl (hb hby at_162) rfl k))) ?_
                      show own_Go _ _ _ _ T5292 (mkF m 164 #[.val (.long jp0), .second, .val (.long jp1), .second, .val (.int ip2), .val (.int ip3), .val (.int ip4), .val (.int ip5), .val (.long j8), .second, .val (.ref t10), .val (.int n11), .val (.int n12), .val (.ref gxc5137), .val (.ref gxc5218), .val (.ref gxc5261), .val (.int (1 : Int32)), .val (.ref gxc5261)] [(.int n11)])
                      refine own_st (fun t k => XS.iload X5292.here hx rfl (hb hby at_164) rfl (XS.icmpNo X5292.here hx rfl (hb hby at_166) rfl (feq hne).1 (XS.aload X5292.here hx rfl (hb hby at_169) rfl rfl k))) ?_
                      show own_Go _ _ _ _ T5292 (mkF m 171 #[.val (.long jp0), .second, .val (.long jp1), .second, .val (.int ip2), .val (.int ip3), .val (.int ip4), .val (.int ip5), .val (.long j8), .second, .val (.ref t10), .val (.int n11), .val (.int n12), .val (.ref gxc5137), .val (.ref gxc5218), .val (.ref gxc5261), .val (.int (1 : Int32)), .val (.ref gxc5261)] [(.ref t10)])
                      refine own_st (fun t k => XS.iload X5292.here hx rfl (hb hby at_171) rfl k) ?_
                      have f5294 := (f5290.keep Kq5292 (ninS ne5289 nin0))
                      have f5296 := (f5293.keep Kq5292)
                      refine own_cV (a := t10) X5292 hx hZ hown (own_w hw 76 rfl) (own_w hw 77 rfl) (own_w hw 79 rfl) (own_w hw 78 rfl) (own_w hw 2 rfl) (own_w hw 80 rfl) [(.int n11)] [] f5296 (own_rm14_133 l Z a0 hw [] t10 n11 b3x13_97c5285 k3x13_97c5226c5287c5292 gxc5261 n12 gxc5218 gxc5137 T5292.heap n0 Z5292 f5294 Fc5292_0_0 OFc5292_0_0 hr11) 0 (hb hby at_173) (by rw [hml]; rfl) (lenOf own_pd7 rfl) rfl rfl rfl (by show 2 * 0 + _ ≤ _; exact Nat.le_of_eq rfl) (by decide) (by decide) (by decide) (by decide) (by decide) fun v5295 T5295 L5295 X5295 hQ5295 => ?_
                      obtain ⟨N5295q, Kq5295, hL5295⟩ := hQ5295
                      have N5295 := Fr.app N5292 N5295q
                      have K5295 : Keep h0 T5295.heap [t10] := K5292.trans Kq5295 all0
                      have Z5295 := Nat.le_trans Z5292 Kq5295.1
                      rcases hL5295 with ⟨rfl, -⟩
                      · skip
                        refine own_st (fun t k => XS.aload X5295.here hx rfl (hb hby at_176) rfl rfl k) ?_
                        show own_Go _ _ _ _ T5295 (mkF m 178 #[.val (.long jp0), .second, .val (.long jp1), .second, .val (.int ip2), .val (.int ip3), .val (.int ip4), .val (.int ip5), .val (.long j8), .second, .val (.ref t10), .val (.int n11), .val (.int n12), .val (.ref gxc5137), .val (.ref gxc5218), .val (.ref gxc5261), .val (.int (1 : Int32)), .val (.ref gxc5261)] [(.ref gxc5261), (.ref gxc5261)])
                        refine own_st (fun t k => Jvm.RoadKit.acmp (g := (mkF m 178 #[.val (.long jp0), .second, .val (.long jp1), .second, .val (.int ip2), .val (.int ip3), .val (.int ip4), .val (.int ip5), .val (.long j8), .second, .val (.ref t10), .val (.int n11), .val (.int n12), .val (.ref gxc5137), .val (.ref gxc5218), .val (.ref gxc5261), .val (.int (1 : Int32)), .val (.ref gxc5261)] [(.ref gxc5261), (.ref gxc5261)])) X5295 hx rfl rfl rfl (pc0 := 178) (pc' := 181) (same := true) rfl (hb hby at_178) rfl (decide_eq_true (congrArg Value.ref (rfl : gxc5261 = gxc5261))) (by decide) (by decide) (XS.aload X5295.here hx rfl (hb hby at_181) rfl rfl (XS.iload X5295.here hx rfl (hb hby at_183) rfl k))) ?_
                        show own_Go _ _ _ _ T5295 (mkF m 185 #[.val (.long jp0), .second, .val (.long jp1), .second, .val (.int ip2), .val (.int ip3), .val (.int ip4), .val (.int ip5), .val (.long j8), .second, .val (.ref t10), .val (.int n11), .val (.int n12), .val (.ref gxc5137), .val (.ref gxc5218), .val (.ref gxc5261), .val (.int (1 : Int32)), .val (.ref gxc5261)] [(.int n12), (.ref t10)])
                        have f5297 := (f5294.keep Kq5295 nin0)
                        have f5298 := (Fc5292_0_0.keep Kq5295 nin0)
                        have f5300 := (f5296.keep Kq5295)
                        refine own_cV (a := t10) X5295 hx hZ hown (own_w hw 76 rfl) (own_w hw 77 rfl) (own_w hw 79 rfl) (own_w hw 78 rfl) (own_w hw 2 rfl) (own_w hw 80 rfl) [(.int n12)] [] f5300 (own_rm14_134 l Z a0 hw [] t10 n12 b3x13_97c5285 k3x13_97c5226c5287c5292 n11 gxc5261 gxc5218 gxc5137 T5295.heap n0 Z5295 f5297 f5298 OFc5292_0_0 hr12 hr11) 0 (hb hby at_185) (by rw [hml]; rfl) (lenOf own_pd7 rfl) rfl rfl rfl (by show 2 * 0 + _ ≤ _; exact Nat.le_of_eq rfl) (by decide) (by decide) (by decide) (by decide) (by decide) fun v5299 T5299 L5299 X5299 hQ5299 => ?_
                        obtain ⟨N5299q, Kq5299, hL5299⟩ := hQ5299
                        have N5299 := Fr.app N5295 N5299q
                        have K5299 : Keep h0 T5299.heap [t10] := K5295.trans Kq5299 all0
                        have Z5299 := Nat.le_trans Z5295 Kq5299.1
                        rcases hL5299 with ⟨rfl, hq5299_0_0, -⟩ | ⟨rfl, hq5299_1_0, -⟩
                        · skip
                          exact absurd hq5299_0_0 (Ne.symm hne)
                        · skip
                          refine own_st (fun t k => XS.aload X5299.here hx rfl (hb hby at_188) rfl rfl (Jvm.RoadKit.acmp (g := (mkF m 190 #[.val (.long jp0), .second, .val (.long jp1), .second, .val (.int ip2), .val (.int ip3), .val (.int ip4), .val (.int ip5), .val (.long j8), .second, .val (.ref t10), .val (.int n11), .val (.int n12), .val (.ref gxc5137), .val (.ref gxc5218), .val (.ref gxc5261), .val (.int (1 : Int32)), .val (.ref gxc5261)] [(.ref gxc5218), (.ref gxc5218)])) X5299 hx rfl rfl rfl (pc0 := 190) (pc' := 193) (same := true) rfl (hb hby at_190) rfl (decide_eq_true (congrArg Value.ref (rfl : gxc5218 = gxc5218))) (by decide) (by decide) k)) ?_
                          show own_Go _ _ _ _ T5299 (mkF m 193 #[.val (.long jp0), .second, .val (.long jp1), .second, .val (.int ip2), .val (.int ip3), .val (.int ip4), .val (.int ip5), .val (.long j8), .second, .val (.ref t10), .val (.int n11), .val (.int n12), .val (.ref gxc5137), .val (.ref gxc5218), .val (.ref gxc5261), .val (.int (1 : Int32)), .val (.ref gxc5261)] [])
                          refine own_st (fun t k => XS.iconst X5299.here hx rfl (hb hby at_193) (XS.goto X5299.here hx rfl (pc0 := 194) (pc' := 198) rfl (hb hby at_194) (by decide) (by decide) k)) ?_
                          exact own_retZ X5299 hx hlk (t := .boolean) hret (by simp) (hb hby at_198) (by decide) (by decide) rfl ⟨rfl, N5299⟩
set_option maxRecDepth 65536 in
set_option maxHeartbeats 40000000 in
theorem own_cut15 {p : Program} {l : Launch} {e : Env} {s : State} {m : MethodId} {args : Array Value} {below : List Frame} {meth : Method} {c : Code} {T0 : State} {locs : List Loc} {Z : State} {a0 : Array Value} {h0 : Heap} {n0 : Nat} (jp0 : Int64) (jp1 : Int64) (ip2 : Int32) (ip3 : Int32) (ip4 : Int32) (ip5 : Int32) (j8 : Int64) (w_cache : Addr)
    (X0 : Stand p l e room_1 s m args below meth c T0 locs 0 0) (hx : p.tables.exec = Jvm.exec) (hZ : Z.Warmed39 s.vm) (hw : ∀ d ∈ tables_1, d.before a0 Z = true) (hby : c.code = code) (hml : c.maxLocals = 18) (hown : s.vm.findClass "com/example/backchannel/backchannel/server/LongTableSetValuePinLaw" = some m.cls) (hlk : meth.locks = false) (hret : meth.sig.returnType = ret) (N0 : Fr n0 locs) (Z0 : n0 ≤ h0.size) (e0 : T0.heap = h0) (P0 : Sta Z h0 "java/lang/Integer$IntegerCache" "cache" "[Ljava/lang/Integer;" (.ref w_cache)) (P1 : Exa Z h0 w_cache "[Ljava/lang/Integer;") (P2 : Sta Z h0 "java/lang/Integer$IntegerCache" "high" "I" (.int (127 : Int32))) (P3 : own_Ca Z h0 w_cache) (hk : ¬ ((lcmpW jp0 j8) = (0 : Int32))) :
    own_Go p.tables e below (own_End s below (own_Q0 n0) room_1.cells room_1.slots) T0 (mkF m 15 #[.val (.long jp0), .second, .val (.long jp1), .second, .val (.int ip2), .val (.int ip3), .val (.int ip4), .val (.int ip5), .val (.long j8), .second, .unset, .unset, .unset, .unset, .unset, .unset, .unset, .unset] []) := by
  obtain ⟨T5001, h5001, X5001, e5001, E5001, A5001, D5001, -, st5001⟩ := newO X0 hx hZ hown (own_w hw 0 rfl) (own_w hw 1 rfl) (own_w hw 2 rfl) e0 (g := (mkF m 15 #[.val (.long jp0), .second, .val (.long jp1), .second, .val (.int ip2), .val (.int ip3), .val (.int ip4), .val (.int ip5), .val (.long j8), .second, .unset, .unset, .unset, .unset, .unset, .unset, .unset, .unset] [])) rfl (hb hby at_15) (by decide) (by decide)
  obtain ⟨b5001, g5001⟩ : ∃ z, z = h0.size := ⟨_, rfl⟩
  rw [← g5001] at A5001 D5001 st5001
  have g_b5001 : n0 ≤ b5001 := Nat.le_trans Z0 (Nat.le_of_eq g5001.symm)
  have sz_b5001 : h0.size ≤ b5001 := Nat.le_trans (Keep.refl h0 []).1 (Nat.le_of_eq g5001.symm)
  refine own_st st5001 ?_
  have K5001 : Keep h0 h5001 [] := (Keep.refl h0 []).ext E5001
  have Z5001 := Nat.le_trans Z0 E5001.1
  have F5001_10 : Fld Z h5001 b5001 own_s0 "width" "I" (.int (0 : Int32)) := D5001 (Or.inr (own_w hw 10 rfl)) (ty := .int) (by decide)
  have F5001_21 : Fld Z h5001 b5001 own_s0 "rows" "[J" .null := D5001 (Or.inl (own_w hw 21 rfl)) (ty := (.array .long)) (by decide)
  have F5001_24 : Fld Z h5001 b5001 own_s0 "used" "[Z" .null := D5001 (Or.inl (own_w hw 24 rfl)) (ty := (.array .boolean)) (by decide)
  have F5001_26 : Fld Z h5001 b5001 own_s0 "values" own_s2 .null := D5001 (Or.inl (own_w hw 26 rfl)) (ty := (.array (.object own_s1))) (by decide)
  have F5001_33 : Fld Z h5001 b5001 own_s0 "shift" "I" (.int (0 : Int32)) := D5001 (Or.inl (own_w hw 33 rfl)) (ty := .int) (by decide)
  have F5001_50 : Fld Z h5001 b5001 own_s0 "size" "I" (.int (0 : Int32)) := D5001 (Or.inl (own_w hw 50 rfl)) (ty := .int) (by decide)
  refine own_st (fun t k => XS.dup X5001.here hx rfl (hb hby at_18) rfl rfl k) ?_
  show own_Go _ _ _ _ T5001 (mkF m 19 #[.val (.long jp0), .second, .val (.long jp1), .second, .val (.int ip2), .val (.int ip3), .val (.int ip4), .val (.int ip5), .val (.long j8), .second, .unset, .unset, .unset, .unset, .unset, .unset, .unset, .unset] [(.ref b5001), (.ref b5001)])
  refine own_st (fun t k => XS.iload X5001.here hx rfl (hb hby at_19) rfl (XS.iconst X5001.here hx rfl (hb hby at_21) (XS.iushr X5001.here hx rfl (hb hby at_22) rfl k))) ?_
  show own_Go _ _ _ _ T5001 (mkF m 23 #[.val (.long jp0), .second, .val (.long jp1), .second, .val (.int ip2), .val (.int ip3), .val (.int ip4), .val (.int ip5), .val (.long j8), .second, .unset, .unset, .unset, .unset, .unset, .unset, .unset, .unset] [(.int ((ip5.toUInt32 >>> ((4 : Int32) &&& 31).toUInt32).toInt32)), (.ref b5001), (.ref b5001)])
  refine own_st (fun t k => XS.iconst X5001.here hx rfl (hb hby at_23) (XS.iand X5001.here hx rfl (hb hby at_24) rfl k)) ?_
  show own_Go _ _ _ _ T5001 (mkF m 25 #[.val (.long jp0), .second, .val (.long jp1), .second, .val (.int ip2), .val (.int ip3), .val (.int ip4), .val (.int ip5), .val (.long j8), .second, .unset, .unset, .unset, .unset, .unset, .unset, .unset, .unset] [(.int (((ip5.toUInt32 >>> ((4 : Int32) &&& 31).toUInt32).toInt32) &&& (3 : Int32))), (.ref b5001), (.ref b5001)])
  obtain ⟨fv0, hfv0⟩ : ∃ q, q = (((ip5.toUInt32 >>> ((4 : Int32) &&& 31).toUInt32).toInt32) &&& (3 : Int32)) := ⟨_, rfl⟩
  rw [← hfv0]
  have Rfv0 : fv0 = (0 : Int32) ∨ fv0 = (1 : Int32) ∨ fv0 = (2 : Int32) ∨ fv0 = (3 : Int32) := by rw [hfv0]; exact own_and3 _
  show own_Go _ _ _ _ T5001 (mkF m 25 #[.val (.long jp0), .second, .val (.long jp1), .second, .val (.int ip2), .val (.int ip3), .val (.int ip4), .val (.int ip5), .val (.long j8), .second, .unset, .unset, .unset, .unset, .unset, .unset, .unset, .unset] [(.int fv0), (.ref b5001), (.ref b5001)])
  refine own_cI (a := b5001) X5001 hx hZ hown (own_w hw 3 rfl) (own_w hw 4 rfl) (own_w hw 2 rfl) (own_w hw 5 rfl) [(.int fv0)] [(.ref b5001)] (own_rm1_8 l Z a0 hw [] b5001 fv0 h5001 n0 Z5001 A5001 F5001_10 g_b5001 Rfv0 F5001_21 F5001_24 F5001_26 F5001_33 F5001_50) 1 (hb hby at_25) (by rw [hml]; rfl) (lenOf own_pd2 rfl) e5001 rfl rfl (by show 2 * 0 + _ ≤ _; exact Nat.le_of_eq rfl) (by decide) (by decide) (by decide) rfl (by decide) (by decide) fun v5002 T5002 L5002 X5002 hQ5002 => ?_
  obtain ⟨N5002q, Kq5002, hL5002⟩ := hQ5002
  have N5002 := Fr.app N0 N5002q
  have K5002 : Keep h0 T5002.heap [] := K5001.trans Kq5002 (allS (Or.inr sz_b5001) all0)
  have Z5002 := Nat.le_trans Z5001 Kq5002.1
  rcases hL5002 with ⟨b3x3_12c9c5002, b7x3_12c9c5002, k3x3_12c9c5002, k7x3_12c9c5002, rfl, sq_b3x3_12c9c5002, sq_b7x3_12c9c5002, Fc5002_0_0, Fc5002_0_1, Fc5002_0_2, Fc5002_0_3, Fc5002_0_4, Fc5002_0_5, Fc5002_0_6, Fc5002_0_7, Fc5002_0_8, Fc5002_0_9, -⟩
  · skip
    have g_b3x3_12c9c5002 : n0 ≤ b3x3_12c9c5002 := Nat.le_trans Z5001 sq_b3x3_12c9c5002
    have sz_b3x3_12c9c5002 : h0.size ≤ b3x3_12c9c5002 := Nat.le_trans K5001.1 sq_b3x3_12c9c5002
    have g_b7x3_12c9c5002 : n0 ≤ b7x3_12c9c5002 := Nat.le_trans Z5001 sq_b7x3_12c9c5002
    have sz_b7x3_12c9c5002 : h0.size ≤ b7x3_12c9c5002 := Nat.le_trans K5001.1 sq_b7x3_12c9c5002
    refine own_st (fun t k => XS.astore X5002.here hx rfl (hb hby at_28) rfl rfl (l' := #[.val (.long jp0), .second, .val (.long jp1), .second, .val (.int ip2), .val (.int ip3), .val (.int ip4), .val (.int ip5), .val (.long j8), .second, .val (.ref b5001), .unset, .unset, .unset, .unset, .unset, .unset, .unset]) rfl (XS.aload X5002.here hx rfl (hb hby at_30) rfl rfl k)) ?_
    show own_Go _ _ _ _ T5002 (mkF m 32 #[.val (.long jp0), .second, .val (.long jp1), .second, .val (.int ip2), .val (.int ip3), .val (.int ip4), .val (.int ip5), .val (.long j8), .second, .val (.ref b5001), .unset, .unset, .unset, .unset, .unset, .unset, .unset] [(.ref b5001)])
    refine own_st (fun t k => XS.lloadN X5002.here hx rfl (hb hby at_32) rfl k) ?_
    have f5003 := (A5001.keep Kq5002)
    refine own_cV (a := b5001) X5002 hx hZ hown (own_w hw 34 rfl) (own_w hw 35 rfl) (own_w hw 37 rfl) (own_w hw 36 rfl) (own_w hw 2 rfl) (own_w hw 38 rfl) [(.long jp0)] [] f5003 (own_rm6_22 l Z a0 hw [] b5001 jp0 b7x3_12c9c5002 k7x3_12c9c5002 b3x3_12c9c5002 fv0 k3x3_12c9c5002 T5002.heap n0 Z5002 Fc5002_0_2 Fc5002_0_8 Fc5002_0_4 f5003 Fc5002_0_5 g_b7x3_12c9c5002 Fc5002_0_1 Fc5002_0_9 Fc5002_0_0 Fc5002_0_6 Fc5002_0_7 Rfv0 g_b3x3_12c9c5002 g_b5001 Fc5002_0_3) 0 (hb hby at_33) (by rw [hml]; rfl) (lenOf own_pd3 rfl) rfl rfl rfl (by show 2 * 0 + _ ≤ _; exact Nat.le_of_eq rfl) (by decide) (by decide) (by decide) (by decide) (by decide) fun v5004 T5004 L5004 X5004 hQ5004 => ?_
    obtain ⟨N5004q, Kq5004, hL5004⟩ := hQ5004
    have N5004 := Fr.app N5002 N5004q
    have K5004 : Keep h0 T5004.heap [] := K5002.trans Kq5004 (allS (Or.inr sz_b7x3_12c9c5002) (allS (Or.inr sz_b3x3_12c9c5002) (allS (Or.inr sz_b5001) all0)))
    have Z5004 := Nat.le_trans Z5002 Kq5004.1
    rcases hL5004 with ⟨k7x3_12c9c5002c5004, k3x3_12c9c5002c25c5004, rfl, Fc5004_0_0, Fc5004_0_1, Fc5004_0_2, Fc5004_0_3, Fc5004_0_4, Fc5004_0_5, Fc5004_0_6, Fc5004_0_7, -⟩
    · skip
      refine own_st (fun t k => XS.istore X5004.here hx rfl (hb hby at_36) rfl (l' := #[.val (.long jp0), .second, .val (.long jp1), .second, .val (.int ip2), .val (.int ip3), .val (.int ip4), .val (.int ip5), .val (.long j8), .second, .val (.ref b5001), .val (.int (own_home jp0)), .unset, .unset, .unset, .unset, .unset, .unset]) rfl k) ?_
      show own_Go _ _ _ _ T5004 (mkF m 38 #[.val (.long jp0), .second, .val (.long jp1), .second, .val (.int ip2), .val (.int ip3), .val (.int ip4), .val (.int ip5), .val (.long j8), .second, .val (.ref b5001), .val (.int (own_home jp0)), .unset, .unset, .unset, .unset, .unset, .unset] [])
      refine own_st (fun t k => XS.aload X5004.here hx rfl (hb hby at_38) rfl rfl (XS.lload X5004.here hx rfl (hb hby at_40) rfl k)) ?_
      have f5005 := (f5003.keep Kq5004)
      have f5006 := (Fc5002_0_9.keep Kq5004)
      have f5007 := (Fc5002_0_7.keep Kq5004)
      refine own_cV (a := b5001) X5004 hx hZ hown (own_w hw 34 rfl) (own_w hw 35 rfl) (own_w hw 37 rfl) (own_w hw 36 rfl) (own_w hw 2 rfl) (own_w hw 38 rfl) [(.long j8)] [] f5005 (own_rm6_34 l Z a0 hw [] b5001 j8 b7x3_12c9c5002 k7x3_12c9c5002c5004 jp0 b3x3_12c9c5002 fv0 k3x3_12c9c5002c25c5004 T5004.heap n0 Z5004 Fc5004_0_2 Fc5004_0_0 Fc5004_0_3 f5005 Fc5004_0_5 Fc5004_0_6 Fc5004_0_1 Rfv0 Fc5004_0_7 Fc5004_0_4 g_b7x3_12c9c5002 f5006 f5007 g_b3x3_12c9c5002 g_b5001) 0 (hb hby at_42) (by rw [hml]; rfl) (lenOf own_pd3 rfl) rfl rfl rfl (by show 2 * 0 + _ ≤ _; exact Nat.le_of_eq rfl) (by decide) (by decide) (by decide) (by decide) (by decide) fun v5008 T5008 L5008 X5008 hQ5008 => ?_
      obtain ⟨N5008q, Kq5008, hL5008⟩ := hQ5008
      have N5008 := Fr.app N5004 N5008q
      have K5008 : Keep h0 T5008.heap [] := K5004.trans Kq5008 (allS (Or.inr sz_b7x3_12c9c5002) (allS (Or.inr sz_b3x3_12c9c5002) (allS (Or.inr sz_b5001) all0)))
      have Z5008 := Nat.le_trans Z5004 Kq5008.1
      rcases hL5008 with ⟨k7x3_12c9c5002c5004c5008, k3x3_12c9c5002c25c5004c5008, rfl, hq5008_0_0, hq5008_0_1, Fc5008_0_0, Fc5008_0_1, Fc5008_0_2, Fc5008_0_3, Fc5008_0_4, Fc5008_0_5, Fc5008_0_6, Fc5008_0_7, -⟩ | ⟨k7x3_12c9c5002c5004c5008, k3x3_12c9c5002c25c5004c33c5008, rfl, hq5008_1_0, hq5008_1_1, hq5008_1_2, Fc5008_1_0, Fc5008_1_1, Fc5008_1_2, Fc5008_1_3, Fc5008_1_4, Fc5008_1_5, Fc5008_1_6, Fc5008_1_7, -⟩ | ⟨k7x3_12c9c5002c5004c5008, k3x3_12c9c5002c25c5004c68c5008, rfl, hq5008_2_0, hq5008_2_1, Fc5008_2_0, Fc5008_2_1, Fc5008_2_2, Fc5008_2_3, Fc5008_2_4, Fc5008_2_5, Fc5008_2_6, Fc5008_2_7, -⟩
      · skip
        exact absurd hq5008_0_1 hk
      · skip
        show own_Go _ _ _ _ T5008 (mkF m 45 #[.val (.long jp0), .second, .val (.long jp1), .second, .val (.int ip2), .val (.int ip3), .val (.int ip4), .val (.int ip5), .val (.long j8), .second, .val (.ref b5001), .val (.int (own_home jp0)), .unset, .unset, .unset, .unset, .unset, .unset] [(.int (((own_home j8) + (1 : Int32)) &&& ((8 : Int32) - (1 : Int32))))])
        refine own_st (fun t k => XS.istore X5008.here hx rfl (hb hby at_45) rfl (l' := #[.val (.long jp0), .second, .val (.long jp1), .second, .val (.int ip2), .val (.int ip3), .val (.int ip4), .val (.int ip5), .val (.long j8), .second, .val (.ref b5001), .val (.int (own_home jp0)), .val (.int (((own_home j8) + (1 : Int32)) &&& ((8 : Int32) - (1 : Int32)))), .unset, .unset, .unset, .unset, .unset]) rfl k) ?_
        have f5009 := own_Al.of Fc5008_1_0
        show own_Go _ _ _ _ T5008 (mkF m 47 #[.val (.long jp0), .second, .val (.long jp1), .second, .val (.int ip2), .val (.int ip3), .val (.int ip4), .val (.int ip5), .val (.long j8), .second, .val (.ref b5001), .val (.int (own_home jp0)), .val (.int (((own_home j8) + (1 : Int32)) &&& ((8 : Int32) - (1 : Int32)))), .unset, .unset, .unset, .unset, .unset] [])
        have f5010 := (f5005.keep Kq5008)
        have f5011 := (own_stak P0 K5008 all0)
        have f5012 := (own_stak P2 K5008 all0)
        have f5013 := (P3.keep K5008 nin0)
        exact own_cut47 jp0 jp1 ip2 ip3 ip4 ip5 j8 b5001 (own_home jp0) (((own_home j8) + (1 : Int32)) &&& ((8 : Int32) - (1 : Int32))) b7x3_12c9c5002 w_cache X5008 hx hZ hw hby hml hown hlk hret N5008 Z5008 rfl f5010 Fc5008_1_7 Fc5008_1_2 f5009 f5011 f5012 f5013 g_b5001 ((by decide +kernel : ∀ x ∈ own_D8, (x = (0 : Int32) ∨ x = (1 : Int32) ∨ x = (2 : Int32) ∨ x = (3 : Int32) ∨ x = (4 : Int32) ∨ x = (5 : Int32) ∨ x = (6 : Int32) ∨ x = (7 : Int32))) _ (own_m8 (own_home_r jp0)) ) ((by decide +kernel : ∀ x ∈ own_D8, (((x + (1 : Int32)) &&& ((8 : Int32) - (1 : Int32))) = (0 : Int32) ∨ ((x + (1 : Int32)) &&& ((8 : Int32) - (1 : Int32))) = (1 : Int32) ∨ ((x + (1 : Int32)) &&& ((8 : Int32) - (1 : Int32))) = (2 : Int32) ∨ ((x + (1 : Int32)) &&& ((8 : Int32) - (1 : Int32))) = (3 : Int32) ∨ ((x + (1 : Int32)) &&& ((8 : Int32) - (1 : Int32))) = (4 : Int32) ∨ ((x + (1 : Int32)) &&& ((8 : Int32) - (1 : Int32))) = (5 : Int32) ∨ ((x + (1 : Int32)) &&& ((8 : Int32) - (1 : Int32))) = (6 : Int32) ∨ ((x + (1 : Int32)) &&& ((8 : Int32) - (1 : Int32))) = (7 : Int32))) _ (own_m8 (own_home_r j8)) ) ((by decide +kernel : ∀ x ∈ own_D8, ∀ y ∈ own_D8, (x = y) → (x = y) → ¬ (y = ((x + (1 : Int32)) &&& ((8 : Int32) - (1 : Int32))))) _ (own_m8 (own_home_r j8)) _ (own_m8 (own_home_r jp0)) hq5008_1_0 hq5008_1_2)
      · skip
        refine own_st (fun t k => XS.istore X5008.here hx rfl (hb hby at_45) rfl (l' := #[.val (.long jp0), .second, .val (.long jp1), .second, .val (.int ip2), .val (.int ip3), .val (.int ip4), .val (.int ip5), .val (.long j8), .second, .val (.ref b5001), .val (.int (own_home jp0)), .val (.int (own_home j8)), .unset, .unset, .unset, .unset, .unset]) rfl k) ?_
        have f5014 := own_Al.of Fc5008_2_0
        show own_Go _ _ _ _ T5008 (mkF m 47 #[.val (.long jp0), .second, .val (.long jp1), .second, .val (.int ip2), .val (.int ip3), .val (.int ip4), .val (.int ip5), .val (.long j8), .second, .val (.ref b5001), .val (.int (own_home jp0)), .val (.int (own_home j8)), .unset, .unset, .unset, .unset, .unset] [])
        have f5015 := (f5005.keep Kq5008)
        have f5016 := (own_stak P0 K5008 all0)
        have f5017 := (own_stak P2 K5008 all0)
        have f5018 := (P3.keep K5008 nin0)
        exact own_cut47 jp0 jp1 ip2 ip3 ip4 ip5 j8 b5001 (own_home jp0) (own_home j8) b7x3_12c9c5002 w_cache X5008 hx hZ hw hby hml hown hlk hret N5008 Z5008 rfl f5015 Fc5008_2_7 Fc5008_2_2 f5014 f5016 f5017 f5018 g_b5001 ((by decide +kernel : ∀ x ∈ own_D8, (x = (0 : Int32) ∨ x = (1 : Int32) ∨ x = (2 : Int32) ∨ x = (3 : Int32) ∨ x = (4 : Int32) ∨ x = (5 : Int32) ∨ x = (6 : Int32) ∨ x = (7 : Int32))) _ (own_m8 (own_home_r jp0)) ) ((by decide +kernel : ∀ x ∈ own_D8, (x = (0 : Int32) ∨ x = (1 : Int32) ∨ x = (2 : Int32) ∨ x = (3 : Int32) ∨ x = (4 : Int32) ∨ x = (5 : Int32) ∨ x = (6 : Int32) ∨ x = (7 : Int32))) _ (own_m8 (own_home_r j8)) ) (Ne.symm hq5008_2_0)
theorem own_ef0 (m : MethodId) (x0 : Int64) (x1 : Int64) (x2 : Int32) (x3 : Int32) (x4 : Int32) (x5 : Int32) : entryFrame m #[(.long x0), (.long x1), (.int x2), (.int x3), (.int x4), (.int x5)] maxLocals = mkF m 0 #[.val (.long x0), .second, .val (.long x1), .second, .val (.int x2), .val (.int x3), .val (.int x4), .val (.int x5), .unset, .unset, .unset, .unset, .unset, .unset, .unset, .unset, .unset, .unset] [] := by first | (simp [entryFrame, mkF, argsToLocals, Value.category, maxLocals]; done) | rfl
theorem own_pn4 : plainName "com/example/backchannel/backchannel/server/LongTableSetValuePinLaw" = true := by first | (simp [plainName, overriddenIn]; done) | decide +kernel
set_option maxRecDepth 65536 in
set_option maxHeartbeats 40000000 in
theorem own_rm0 (l : Launch) (Z : State) (a0 : Array Value) (hw : ∀ d ∈ tables_1, d.before a0 Z = true) (ws : List Jvm.Cond) (jp0 : Int64) (jp1 : Int64) (ip2 : Int32) (ip3 : Int32) (ip4 : Int32) (ip5 : Int32) (w_cache : Addr) (h0 : Heap) (n0 : Nat) (Z0 : n0 ≤ h0.size) (S_cache : Sta Z h0 "java/lang/Integer$IntegerCache" "cache" "[Ljava/lang/Integer;" (.ref w_cache)) (E_w_cache : Exa Z h0 w_cache "[Ljava/lang/Integer;") (S_high : Sta Z h0 "java/lang/Integer$IntegerCache" "high" "I" (.int (127 : Int32))) (C_w_cache : own_Ca Z h0 w_cache) :
    MetFree l x (head1 (Jvm.Cond.code x code maxLocals ret :: ws) room_1) (fun a U => a = #[(.long jp0), (.long jp1), (.int ip2), (.int ip3), (.int ip4), (.int ip5)] ∧ Z.Warmed39 U.vm ∧ U.heap = h0) (fun _ _ _ _ _ => True) (fun _ U o U' => ∃ v L, o = .returned v ∧ own_Q0 n0 v U'.heap L ∧ FrameEnd U o U' L room_1.cells room_1.slots) := by
  refine MetFree.of_bodySF (plainFor_of_name own_pn4) hisR ?_
  intro p e s m args below meth c s₁ Bd hml0 hP hK
  obtain ⟨rfl, hZ, hh⟩ := hP
  have hx := Bd.exec
  have hlk := Bd.notSynchronized
  have hret := Bd.returns
  have hby := Bd.bytes
  have hml : c.maxLocals = 18 := hml0
  have hown : s.vm.findClass "com/example/backchannel/backchannel/server/LongTableSetValuePinLaw" = some m.cls := findClass_of_methodNamed Bd.named
  have hnm := (name_of_methodNamed Bd.named Bd.method).1
  have X0 : Stand p l e room_1 s m #[(.long jp0), (.long jp1), (.int ip2), (.int ip3), (.int ip4), (.int ip5)] below meth c s₁ [] 0 0 := Stand.of_body Bd
  have e0 : s₁.heap = h0 := by rw [← hh, Bd.state]; rfl
  have N0 := Fr.nil n0
  refine own_open (Q := own_Q0 n0) (own_ef0 m jp0 jp1 ip2 ip3 ip4 ip5) ?_
  refine own_st (fun t k => XS.lloadN X0.here hx rfl (hb hby at_0) rfl (XS.lloadN X0.here hx rfl (hb hby at_1) rfl k)) ?_
  show own_Go _ _ _ _ s₁ (mkF m 2 #[.val (.long jp0), .second, .val (.long jp1), .second, .val (.int ip2), .val (.int ip3), .val (.int ip4), .val (.int ip5), .unset, .unset, .unset, .unset, .unset, .unset, .unset, .unset, .unset, .unset] [(.long jp0), (.long jp1)])
  refine own_st (fun t k => XS.lcmp X0.here hx rfl (hb hby at_2) rfl k) ?_
  by_cases hc1 : (lcmpW jp1 jp0) = (0 : Int32)
  · skip
    refine own_st (fun t k => XS.ifNo X0.here hx rfl (hb hby at_3) rfl ((if0 _ _).trans (teq hc1).2) (XS.lloadN X0.here hx rfl (hb hby at_6) rfl k)) ?_
    show own_Go _ _ _ _ s₁ (mkF m 7 #[.val (.long jp0), .second, .val (.long jp1), .second, .val (.int ip2), .val (.int ip3), .val (.int ip4), .val (.int ip5), .unset, .unset, .unset, .unset, .unset, .unset, .unset, .unset, .unset, .unset] [(.long jp0)])
    refine own_st (fun t k => XS.lconst X0.here hx rfl (hb hby at_7) (XS.ladd X0.here hx rfl (hb hby at_8) rfl (XS.goto X0.here hx rfl (pc0 := 9) (pc' := 13) rfl (hb hby at_9) (by decide) (by decide) k))) ?_
    show own_Go _ _ _ _ s₁ (mkF m 13 #[.val (.long jp0), .second, .val (.long jp1), .second, .val (.int ip2), .val (.int ip3), .val (.int ip4), .val (.int ip5), .unset, .unset, .unset, .unset, .unset, .unset, .unset, .unset, .unset, .unset] [(.long (jp0 + (1 : Int64)))])
    refine own_st (fun t k => XS.lstore X0.here hx rfl (hb hby at_13) rfl (l' := #[.val (.long jp0), .second, .val (.long jp1), .second, .val (.int ip2), .val (.int ip3), .val (.int ip4), .val (.int ip5), .val (.long (jp0 + (1 : Int64))), .second, .unset, .unset, .unset, .unset, .unset, .unset, .unset, .unset]) rfl k) ?_
    show own_Go _ _ _ _ s₁ (mkF m 15 #[.val (.long jp0), .second, .val (.long jp1), .second, .val (.int ip2), .val (.int ip3), .val (.int ip4), .val (.int ip5), .val (.long (jp0 + (1 : Int64))), .second, .unset, .unset, .unset, .unset, .unset, .unset, .unset, .unset] [])
    exact own_cut15 jp0 jp1 ip2 ip3 ip4 ip5 (jp0 + (1 : Int64)) w_cache X0 hx hZ hw hby hml hown hlk hret N0 Z0 e0 S_cache E_w_cache S_high C_w_cache (own_lcS _)
  · skip
    refine own_st (fun t k => XS.ifYes X0.here hx rfl (pc0 := 3) (pc' := 12) rfl (hb hby at_3) rfl ((if0 _ _).trans (feq hc1).2) (by decide) (by decide) (XS.lloadN X0.here hx rfl (hb hby at_12) rfl k)) ?_
    show own_Go _ _ _ _ s₁ (mkF m 13 #[.val (.long jp0), .second, .val (.long jp1), .second, .val (.int ip2), .val (.int ip3), .val (.int ip4), .val (.int ip5), .unset, .unset, .unset, .unset, .unset, .unset, .unset, .unset, .unset, .unset] [(.long jp1)])
    refine own_st (fun t k => XS.lstore X0.here hx rfl (hb hby at_13) rfl (l' := #[.val (.long jp0), .second, .val (.long jp1), .second, .val (.int ip2), .val (.int ip3), .val (.int ip4), .val (.int ip5), .val (.long jp1), .second, .unset, .unset, .unset, .unset, .unset, .unset, .unset, .unset]) rfl k) ?_
    show own_Go _ _ _ _ s₁ (mkF m 15 #[.val (.long jp0), .second, .val (.long jp1), .second, .val (.int ip2), .val (.int ip3), .val (.int ip4), .val (.int ip5), .val (.long jp1), .second, .unset, .unset, .unset, .unset, .unset, .unset, .unset, .unset] [])
    exact own_cut15 jp0 jp1 ip2 ip3 ip4 ip5 jp1 w_cache X0 hx hZ hw hby hml hown hlk hret N0 Z0 e0 S_cache E_w_cache S_high C_w_cache (own_lcC hc1)
set_option maxRecDepth 65536 in
set_option maxHeartbeats 40000000 in
theorem own_comes {Post : Tables → Env → Array Value → State → Outcome → State → Prop} (hpost : ∀ tb e args s v u, (limb_1_1.after args s (.returned v) u = true ∧ limb_1_2.after args s (.returned v) u = true ∧ True) → FrameEnd s (.returned v) u (Jvm.fieldLocs frame_1_writes args s ++ Jvm.arrayLocs frame_1_arrays args s ++ Jvm.staticLocs frame_1_statics s) 24 192 → Post tb e args s (.returned v) u) :
    ArmFor flags0 classFile x code maxLocals ret World_1 tables_1 room_1 Calls_1 rest_1 Pre_1 Post := by
  intro l hfl _ _ p e ha hc hk s m args below hf hA hF happ hP
  obtain ⟨hcalls, hrest, hpre⟩ := hP
  obtain ⟨-, -, -, hnamed, -, -, -, hat⟩ := (Spec.applies_iff hf).mp happ
  obtain ⟨hg, hn⟩ := and_e (Cond.before_iff.mp (show (Jvm.Cond.and given_1 narrow_1).before args s = true from hpre))
  obtain ⟨g1, g2⟩ := and_e hg
  obtain ⟨g3, g4⟩ := and_e g2
  obtain ⟨g5, g6⟩ := and_e g4
  obtain ⟨g7, g8⟩ := and_e g6
  obtain ⟨g9, g10⟩ := and_e g8
  obtain ⟨g11, g12⟩ := and_e g10
  obtain ⟨w0, w1, w2, w3, w4, w5, rfl⟩ : ∃ w0 w1 w2 w3 w4 w5 : Value, args = #[w0, w1, w2, w3, w4, w5] := by
    have hs : args.size = 6 := by simpa [Cond.value, given_1] using g1
    obtain ⟨L⟩ := args
    match L, hs with
    | [w0, w1, w2, w3, w4, w5], _ => exact ⟨w0, w1, w2, w3, w4, w5, rfl⟩
  have hw := fun d (hd : d ∈ tables_1) => atoms_spec (ws := Jvm.Cond.code x code maxLocals ret :: tables_1) hat d (List.mem_cons_of_mem _ hd)
  obtain ⟨i0, ei0⟩ := isL_v g3
  obtain rfl : w0 = (.long i0) := Option.some.inj ei0
  obtain ⟨i1, ei1⟩ := isL_v g5
  obtain rfl : w1 = (.long i1) := Option.some.inj ei1
  obtain ⟨i2, ei2⟩ := is_v g7
  obtain rfl : w2 = (.int i2) := Option.some.inj ei2
  obtain ⟨i3, ei3⟩ := is_v g9
  obtain rfl : w3 = (.int i3) := Option.some.inj ei3
  obtain ⟨i4, ei4⟩ := is_v g11
  obtain rfl : w4 = (.int i4) := Option.some.inj ei4
  obtain ⟨i5, ei5⟩ := is_v g12
  obtain rfl : w5 = (.int i5) := Option.some.inj ei5
  have hfit : Fit s := fun {y c} hc i hi => by
    obtain ⟨ha, rfl⟩ := Array.getElem?_eq_some_iff.mp hc
    have q := List.all_eq_true.mp ((Array.all_eq_true_iff_forall_mem.mp hF) _ (Array.getElem_mem ha)) i (List.mem_range.mpr hi)
    simpa [Array.getElem?_eq_getElem hi] using q
  obtain ⟨hsets, hown0⟩ := atoms_of _ (rest_1_c_eq ▸ (show rest_1_c.before _ s = true from hrest))
  obtain ⟨w_cache, ev_w_cache⟩ := arr_v (Cond.before_iff.mp (hsets _ (List.mem_of_getElem? (i := 4) rfl)))
  have S_cache := Sta.start ev_w_cache (Or.inr ⟨(own_w hw 66 rfl), hsets _ (List.mem_of_getElem? (i := 2) rfl)⟩)
  obtain ⟨cl_w_cache, Ar_w_cache⟩ := Arr.start ev_w_cache (Cond.before_iff.mp (hsets _ (List.mem_of_getElem? (i := 4) rfl)))
  have E_w_cache := Exa.start ev_w_cache (Cond.before_iff.mp (hsets _ (List.mem_of_getElem? (i := 5) rfl)))
  have S_high := Sta.start (own_eqI (Cond.before_iff.mp (hsets _ (List.mem_of_getElem? (i := 3) rfl))) (Term.int_eval _)) (Or.inl (hsets _ (List.mem_of_getElem? (i := 1) rfl)))
  have C_w_cache : own_Ca s s.heap w_cache := own_cast (fun idx => by simpa [Term.eval] using ev_w_cache) Ar_w_cache (Cond.before_iff.mp (hsets _ (List.mem_of_getElem? (i := 6) rfl))) (Cond.before_iff.mp (hsets _ (List.mem_of_getElem? (i := 7) rfl)))
  obtain ⟨n, o, h1, h2, h3, _, L, rfl, ⟨rfl, N⟩, hq⟩ := own_rm0 l s _ hw tables_1 i0 i1 i2 i3 i4 i5 w_cache s.heap s.heap.size (Nat.le_refl _) S_cache E_w_cache S_high C_w_cache p e ha hc hk s m _ below hf ((Spec.applies_iff_loose hf).mp happ).1 ⟨rfl, State.Warmed39.refl s, rfl⟩ trivial
  exact ⟨n, _, h1, h2, h3, hpost _ _ _ _ _ _ ⟨Cond.after_iff.mpr rfl, Cond.after_iff.mpr (eq_i res_at (Term.int_eval (1)) rfl), trivial⟩ ⟨hq.1, hq.2.1, (hq.2.2.sift fun y hy => Or.inr (N y hy)).mono (by decide) (by decide)⟩⟩
theorem main_1_1 : Claimed_1_1 := own_comes fun _ _ _ _ _ _ h hF => ⟨h.1, hF⟩
theorem main_1_2 : Claimed_1_2 := own_comes fun _ _ _ _ _ _ h hF => ⟨h.2.1, hF⟩
end Jvm.Pilot.@@N@@
namespace Jvm.Pilot.@@N@@
open Jvm Jvm.ClassFile Sem Op Lib Jvm.Free Jvm.Stand Jvm.Pilot.@@N@@.Jvm.D
/-! MADE BY PROGRAM (witnessworld.py) out of the Statement's table words and the real class files: 23 classes; the members and pool entries that the words name. The judged class is class 1, her method 1. -/
namespace start1
open Jvm.ClassFile
def u (s : String) : CpInfo := .utf8 (stringToUtf16 s)
/-- a pool by its gaps: so many unusable entries, then the entry; so many at the end -/
def gap : Nat → List CpInfo → List CpInfo
  | 0, r => r
  | n + 1, r => .unusable :: gap n r
def poolList (es : List (Nat × CpInfo)) (last : Nat) : List CpInfo := es.foldr (fun e r => gap e.1 (e.2 :: r)) (gap last [])
def pool (es : List (Nat × CpInfo)) (last : Nat) : Array CpInfo := ⟨poolList es last⟩
def fileOf (pool : Array CpInfo) (this : Nat) (attrs : Array Attribute := #[]) (ms : Array MethodInfo := #[]) (fl : Nat := 33) (sup : Nat := 0) (ifs : Array Nat := #[]) (fds : Array FieldInfo := #[]) : ClassFile where
  minorVersion := 0
  majorVersion := 65
  constantPool := pool
  accessFlags := fl
  thisClass := this
  superClass := sup
  interfaces := ifs
  fields := fds
  methods := ms
  attributes := attrs
def plain (name : String) (sup : Option ClassId) : Class where
  name := name
  kind := .ordinary
  loader := none
  accessFlags := 33
  super := sup
  interfaces := #[]
  cf := none
  fields := #[]
  methods := #[]
  instanceTypes := #[]
  staticTypes := #[]
  resolved := #[]
  callSites := []
  init := .initialized
  statics := none
  mirror := none

def pool0 : Array CpInfo := pool [(5, u "<init>"), (0, u "()V"), (1, .class_ 10), (1, u "java/lang/Object")] 113

def k0c0 : Code := { maxStack := 0, maxLocals := 1, code := object_method_1_code, exceptionTable := #[], attributes := #[] }
def k0m0 : Method := { name := "<init>", desc := "()V", sig := { parameters := [], returnType := none }, accessFlags := 1, code := some k0c0 }
/-- java/lang/Object -/
def k0 : Class := { plain "java/lang/Object" none with
  accessFlags := 33
  interfaces := #[]
  cf := some (fileOf pool0 8 #[] #[{ accessFlags := 1, nameIndex := 5, descriptorIndex := 6, attributes := #[] }] 33 0 #[] #[])
  fields := #[]
  methods := #[k0m0]
  instanceTypes := #[]
  staticTypes := #[]
  resolved := Array.replicate 124 none
  statics := none }

def pool1 : Array CpInfo := pool [(2, .class_ 4), (1, u "java/lang/Object"), (0, u "<init>"), (0, u "()V"), (0, .class_ 8), (0, u "com/example/backchannel/backchannel/server/LongTable"), (0, .methodref 7 10), (0, .nameAndType 5 11), (0, u "(I)V"), (0, .methodref 7 13), (0, .nameAndType 14 15), (0, u "add"), (0, u "(J)I"), (0, .methodref 17 18), (0, .class_ 19), (0, .nameAndType 20 21), (0, u "java/lang/Integer"), (0, u "valueOf"), (0, u "(I)Ljava/lang/Integer;"), (0, .methodref 7 23), (0, .nameAndType 24 25), (0, u "setValue"), (0, u "(ILjava/lang/Object;)V"), (0, .methodref 7 27), (0, .nameAndType 28 29), (0, u "value"), (0, u "(I)Ljava/lang/Object;"), (0, .class_ 31), (0, u "com/example/backchannel/backchannel/server/LongTableSetValuePinLaw"), (2, u "law"), (0, u "(JJIIII)Z")] 3

def k1m0 : Method := { name := "<init>", desc := "()V", sig := { parameters := [], returnType := none }, accessFlags := 1, code := none }
def k1c1 : Code := { maxStack := 4, maxLocals := 18, code := code, exceptionTable := #[], attributes := #[] }
def k1m1 : Method := { name := "law", desc := "(JJIIII)Z", sig := { parameters := [.long, .long, .int, .int, .int, .int], returnType := some .boolean }, accessFlags := 9, code := some k1c1 }
/-- com/example/backchannel/backchannel/server/LongTableSetValuePinLaw -/
def k1 : Class := { plain "com/example/backchannel/backchannel/server/LongTableSetValuePinLaw" (some 0) with
  accessFlags := 49
  interfaces := #[]
  cf := some (fileOf pool1 30 #[] #[{ accessFlags := 1, nameIndex := 5, descriptorIndex := 6, attributes := #[] }, { accessFlags := 9, nameIndex := 34, descriptorIndex := 35, attributes := #[] }] 49 2 #[] #[])
  fields := #[]
  methods := #[k1m0, k1m1]
  instanceTypes := #[]
  staticTypes := #[]
  resolved := Array.replicate 39 none
  statics := none }

def pool2 : Array CpInfo := pool [(1, .methodref 2 3), (0, .class_ 4), (0, .nameAndType 5 6), (0, u "java/lang/Object"), (0, u "<init>"), (0, u "()V"), (0, .fieldref 8 9), (0, .class_ 10), (0, .nameAndType 11 12), (0, u "com/example/backchannel/backchannel/server/LongTable"), (0, u "width"), (0, u "I"), (0, .methodref 8 14), (0, .nameAndType 15 16), (0, u "allocate"), (0, u "(I)V"), (0, .fieldref 8 18), (0, .nameAndType 19 12), (0, u "size"), (0, .fieldref 8 21), (0, .nameAndType 22 23), (0, u "used"), (0, u "[Z"), (0, .methodref 8 25), (0, .nameAndType 26 27), (0, u "home"), (0, u "(J)I"), (0, .fieldref 8 29), (0, .nameAndType 30 31), (0, u "rows"), (0, u "[J"), (0, .methodref 8 33), (0, .nameAndType 34 27), (0, u "find"), (3, .methodref 8 39), (0, .nameAndType 40 27), (0, u "freeSlot"), (0, .methodref 42 43), (0, .class_ 44), (0, .nameAndType 45 46), (0, u "java/util/Arrays"), (0, u "fill"), (0, u "([JIIJ)V"), (0, .fieldref 8 48), (0, .nameAndType 49 50), (0, u "values"), (0, u "[Ljava/lang/Object;"), (17, .class_ 70), (1, u "java/lang/Math"), (11, .long 11400714819323198485), (1, .fieldref 8 85), (0, .nameAndType 86 12), (0, u "shift"), (0, .methodref 68 88), (0, .nameAndType 89 90), (0, u "multiplyExact"), (0, u "(II)I"), (0, .methodref 92 93), (0, .class_ 94), (0, .nameAndType 95 96), (0, u "java/lang/Integer"), (0, u "numberOfTrailingZeros"), (0, u "(I)I"), (0, u "NONE"), (2, u "FIRST_CAPACITY"), (1, u "SPREAD"), (0, u "J"), (6, u "add"), (5, u "value"), (0, u "(I)Ljava/lang/Object;"), (2, u "setValue"), (0, u "(ILjava/lang/Object;)V")] 10

def k2c0 : Code := { maxStack := 3, maxLocals := 2, code := prog_69_method_1_code, exceptionTable := #[], attributes := #[] }
def k2m0 : Method := { name := "<init>", desc := "(I)V", sig := { parameters := [.int], returnType := none }, accessFlags := 0, code := some k2c0 }
def k2c1 : Code := { maxStack := 4, maxLocals := 5, code := prog_69_method_4_code, exceptionTable := #[], attributes := #[] }
def k2m1 : Method := { name := "find", desc := "(J)I", sig := { parameters := [.long], returnType := some .int }, accessFlags := 0, code := some k2c1 }
def k2c2 : Code := { maxStack := 5, maxLocals := 4, code := prog_69_method_5_code, exceptionTable := #[], attributes := #[] }
def k2m2 : Method := { name := "add", desc := "(J)I", sig := { parameters := [.long], returnType := some .int }, accessFlags := 0, code := some k2c2 }
def k2c3 : Code := { maxStack := 2, maxLocals := 2, code := prog_69_method_9_code, exceptionTable := #[], attributes := #[] }
def k2m3 : Method := { name := "value", desc := "(I)Ljava/lang/Object;", sig := { parameters := [.int], returnType := some (.object "java/lang/Object") }, accessFlags := 0, code := some k2c3 }
def k2c4 : Code := { maxStack := 3, maxLocals := 3, code := prog_69_method_10_code, exceptionTable := #[], attributes := #[] }
def k2m4 : Method := { name := "setValue", desc := "(ILjava/lang/Object;)V", sig := { parameters := [.int, (.object "java/lang/Object")], returnType := none }, accessFlags := 0, code := some k2c4 }
def k2c5 : Code := { maxStack := 4, maxLocals := 3, code := prog_69_method_14_code, exceptionTable := #[], attributes := #[] }
def k2m5 : Method := { name := "home", desc := "(J)I", sig := { parameters := [.long], returnType := some .int }, accessFlags := 2, code := some k2c5 }
def k2c6 : Code := { maxStack := 3, maxLocals := 5, code := prog_69_method_15_code, exceptionTable := #[], attributes := #[] }
def k2m6 : Method := { name := "freeSlot", desc := "(J)I", sig := { parameters := [.long], returnType := some .int }, accessFlags := 2, code := some k2c6 }
def k2c7 : Code := { maxStack := 3, maxLocals := 2, code := prog_69_method_17_code, exceptionTable := #[], attributes := #[] }
def k2m7 : Method := { name := "allocate", desc := "(I)V", sig := { parameters := [.int], returnType := none }, accessFlags := 2, code := some k2c7 }
/-- com/example/backchannel/backchannel/server/LongTable -/
def k2 : Class := { plain "com/example/backchannel/backchannel/server/LongTable" (some 0) with
  accessFlags := 48
  interfaces := #[]
  cf := some (fileOf pool2 8 #[] #[{ accessFlags := 0, nameIndex := 5, descriptorIndex := 16, attributes := #[] }, { accessFlags := 0, nameIndex := 34, descriptorIndex := 27, attributes := #[] }, { accessFlags := 0, nameIndex := 110, descriptorIndex := 27, attributes := #[] }, { accessFlags := 0, nameIndex := 116, descriptorIndex := 117, attributes := #[] }, { accessFlags := 0, nameIndex := 120, descriptorIndex := 121, attributes := #[] }, { accessFlags := 2, nameIndex := 26, descriptorIndex := 27, attributes := #[] }, { accessFlags := 2, nameIndex := 40, descriptorIndex := 27, attributes := #[] }, { accessFlags := 2, nameIndex := 15, descriptorIndex := 16, attributes := #[] }] 48 2 #[] #[{ accessFlags := 24, nameIndex := 97, descriptorIndex := 12, attributes := #[] }, { accessFlags := 26, nameIndex := 100, descriptorIndex := 12, attributes := #[] }, { accessFlags := 26, nameIndex := 102, descriptorIndex := 103, attributes := #[] }, { accessFlags := 18, nameIndex := 11, descriptorIndex := 12, attributes := #[] }, { accessFlags := 2, nameIndex := 30, descriptorIndex := 31, attributes := #[] }, { accessFlags := 2, nameIndex := 22, descriptorIndex := 23, attributes := #[] }, { accessFlags := 2, nameIndex := 49, descriptorIndex := 50, attributes := #[] }, { accessFlags := 2, nameIndex := 19, descriptorIndex := 12, attributes := #[] }, { accessFlags := 2, nameIndex := 86, descriptorIndex := 12, attributes := #[] }])
  fields := #[{ name := "NONE", type := .int, accessFlags := 24, slot := 0, constantValue := 0 }, { name := "FIRST_CAPACITY", type := .int, accessFlags := 26, slot := 1, constantValue := 0 }, { name := "SPREAD", type := .long, accessFlags := 26, slot := 2, constantValue := 0 }, { name := "width", type := .int, accessFlags := 18, slot := 0, constantValue := 0 }, { name := "rows", type := (.array .long), accessFlags := 2, slot := 1, constantValue := 0 }, { name := "used", type := (.array .boolean), accessFlags := 2, slot := 2, constantValue := 0 }, { name := "values", type := (.array (.object "java/lang/Object")), accessFlags := 2, slot := 3, constantValue := 0 }, { name := "size", type := .int, accessFlags := 2, slot := 4, constantValue := 0 }, { name := "shift", type := .int, accessFlags := 2, slot := 5, constantValue := 0 }]
  methods := #[k2m0, k2m1, k2m2, k2m3, k2m4, k2m5, k2m6, k2m7]
  instanceTypes := #[.int, (.array .long), (.array .boolean), (.array (.object "java/lang/Object")), .int, .int]
  staticTypes := #[.int, .int, .long]
  resolved := Array.replicate 132 none
  statics := none }

def pool3 : Array CpInfo := pool [(1, .class_ 2), (0, u "java/lang/Math"), (1, .class_ 6), (1, u "java/lang/Object"), (0, u "<init>"), (0, u "()V"), (89, .class_ 100), (1, u "java/lang/Math$RandomNumberGeneratorHolder"), (19, u "multiplyExact"), (51, u "negativeZeroFloatBits"), (0, u "J"), (2, u "negativeZeroDoubleBits"), (68, u "$assertionsDisabled"), (0, u "Z"), (88, u "(II)I"), (2, u "twoToTheDoubleScaleDown"), (0, u "D"), (4, u "twoToTheDoubleScaleUp"), (9, u "E"), (3, u "PI"), (2, u "TAU"), (2, u "DEGREES_TO_RADIANS"), (0, u "RADIANS_TO_DEGREES")] 94

def k3m0 : Method := { name := "<init>", desc := "()V", sig := { parameters := [], returnType := none }, accessFlags := 2, code := none }
def k3c1 : Code := { maxStack := 4, maxLocals := 4, code := jdk_29_method_28_code, exceptionTable := #[], attributes := #[] }
def k3m1 : Method := { name := "multiplyExact", desc := "(II)I", sig := { parameters := [.int, .int], returnType := some .int }, accessFlags := 9, code := some k3c1 }
/-- java/lang/Math -/
def k3 : Class := { plain "java/lang/Math" (some 0) with
  accessFlags := 49
  interfaces := #[]
  cf := some (fileOf pool3 1 #[.nestMembers #[98]] #[{ accessFlags := 2, nameIndex := 7, descriptorIndex := 8, attributes := #[] }, { accessFlags := 9, nameIndex := 120, descriptorIndex := 335, attributes := #[] }] 49 4 #[] #[{ accessFlags := 25, nameIndex := 354, descriptorIndex := 339, attributes := #[] }, { accessFlags := 25, nameIndex := 358, descriptorIndex := 339, attributes := #[] }, { accessFlags := 25, nameIndex := 361, descriptorIndex := 339, attributes := #[] }, { accessFlags := 26, nameIndex := 364, descriptorIndex := 339, attributes := #[] }, { accessFlags := 26, nameIndex := 365, descriptorIndex := 339, attributes := #[] }, { accessFlags := 26, nameIndex := 172, descriptorIndex := 173, attributes := #[] }, { accessFlags := 26, nameIndex := 176, descriptorIndex := 173, attributes := #[] }, { accessFlags := 8, nameIndex := 344, descriptorIndex := 339, attributes := #[] }, { accessFlags := 8, nameIndex := 338, descriptorIndex := 339, attributes := #[] }, { accessFlags := 4120, nameIndex := 245, descriptorIndex := 246, attributes := #[] }])
  fields := #[{ name := "E", type := .double, accessFlags := 25, slot := 0, constantValue := 0 }, { name := "PI", type := .double, accessFlags := 25, slot := 1, constantValue := 0 }, { name := "TAU", type := .double, accessFlags := 25, slot := 2, constantValue := 0 }, { name := "DEGREES_TO_RADIANS", type := .double, accessFlags := 26, slot := 3, constantValue := 0 }, { name := "RADIANS_TO_DEGREES", type := .double, accessFlags := 26, slot := 4, constantValue := 0 }, { name := "negativeZeroFloatBits", type := .long, accessFlags := 26, slot := 5, constantValue := 0 }, { name := "negativeZeroDoubleBits", type := .long, accessFlags := 26, slot := 6, constantValue := 0 }, { name := "twoToTheDoubleScaleUp", type := .double, accessFlags := 8, slot := 7, constantValue := 0 }, { name := "twoToTheDoubleScaleDown", type := .double, accessFlags := 8, slot := 8, constantValue := 0 }, { name := "$assertionsDisabled", type := .boolean, accessFlags := 4120, slot := 9, constantValue := 0 }]
  methods := #[k3m0, k3m1]
  instanceTypes := #[]
  staticTypes := #[.double, .double, .double, .double, .double, .long, .long, .double, .double, .boolean]
  resolved := Array.replicate 460 none
  statics := none }

def pool4 : Array CpInfo := pool [(1, .class_ 2), (0, u "java/io/Serializable"), (0, .class_ 4), (0, u "java/lang/Object")] 2

/-- java/io/Serializable -/
def k4 : Class := { plain "java/io/Serializable" (some 0) with
  accessFlags := 1537
  interfaces := #[]
  cf := some (fileOf pool4 1 #[] #[] 1537 3 #[] #[])
  fields := #[]
  methods := #[]
  instanceTypes := #[]
  staticTypes := #[]
  resolved := Array.replicate 7 none
  statics := none }

def pool5 : Array CpInfo := pool [(1, .methodref 2 3), (0, .class_ 4), (0, .nameAndType 5 6), (0, u "java/lang/Object"), (0, u "<init>"), (0, u "()V"), (1, .class_ 10), (1, u "java/lang/Number"), (2, .class_ 14), (0, u "java/io/Serializable"), (0, u "serialVersionUID"), (0, u "J")] 20

def k5c0 : Code := { maxStack := 1, maxLocals := 1, code := jdk_18_method_1_code, exceptionTable := #[], attributes := #[] }
def k5m0 : Method := { name := "<init>", desc := "()V", sig := { parameters := [], returnType := none }, accessFlags := 1, code := some k5c0 }
/-- java/lang/Number -/
def k5 : Class := { plain "java/lang/Number" (some 0) with
  accessFlags := 1057
  interfaces := #[4]
  cf := some (fileOf pool5 8 #[] #[{ accessFlags := 1, nameIndex := 5, descriptorIndex := 6, attributes := #[] }] 1057 2 #[13] #[{ accessFlags := 26, nameIndex := 15, descriptorIndex := 16, attributes := #[] }])
  fields := #[{ name := "serialVersionUID", type := .long, accessFlags := 26, slot := 0, constantValue := 0 }]
  methods := #[k5m0]
  instanceTypes := #[]
  staticTypes := #[.long]
  resolved := Array.replicate 37 none
  statics := none }

def pool6 : Array CpInfo := pool [(1, .class_ 2), (0, u "java/lang/Comparable"), (0, .class_ 4), (0, u "java/lang/Object")] 7

/-- java/lang/Comparable -/
def k6 : Class := { plain "java/lang/Comparable" (some 0) with
  accessFlags := 1537
  interfaces := #[]
  cf := some (fileOf pool6 1 #[] #[] 1537 3 #[] #[])
  fields := #[]
  methods := #[]
  instanceTypes := #[]
  staticTypes := #[]
  resolved := Array.replicate 12 none
  statics := none }

def pool7 : Array CpInfo := pool [(1, .class_ 2), (0, u "java/lang/constant/Constable"), (0, .class_ 4), (0, u "java/lang/Object")] 6

/-- java/lang/constant/Constable -/
def k7 : Class := { plain "java/lang/constant/Constable" (some 0) with
  accessFlags := 1537
  interfaces := #[]
  cf := some (fileOf pool7 1 #[] #[] 1537 3 #[] #[])
  fields := #[]
  methods := #[]
  instanceTypes := #[]
  staticTypes := #[]
  resolved := Array.replicate 11 none
  statics := none }

def pool8 : Array CpInfo := pool [(1, .class_ 2), (0, u "java/lang/constant/ConstantDesc"), (0, .class_ 4), (0, u "java/lang/Object")] 32

/-- java/lang/constant/ConstantDesc -/
def k8 : Class := { plain "java/lang/constant/ConstantDesc" (some 0) with
  accessFlags := 1537
  interfaces := #[]
  cf := some (fileOf pool8 1 #[] #[] 1537 3 #[] #[])
  fields := #[]
  methods := #[]
  instanceTypes := #[]
  staticTypes := #[]
  resolved := Array.replicate 37 none
  statics := none }

def pool9 : Array CpInfo := pool [(1, .class_ 2), (0, u "java/lang/Integer"), (16, u "digits"), (0, u "[C"), (33, u "(I)I"), (12, u "<init>"), (17, u "DigitOnes"), (0, u "[B"), (2, u "DigitTens"), (10, .nameAndType 67 101), (0, u "()V"), (85, u "valueOf"), (0, u "(I)Ljava/lang/Integer;"), (0, .class_ 190), (0, u "java/lang/Integer$IntegerCache"), (0, .fieldref 189 192), (0, .nameAndType 193 194), (0, u "high"), (0, u "I"), (0, .fieldref 189 196), (0, .nameAndType 197 198), (0, u "cache"), (0, u "[Ljava/lang/Integer;"), (0, .methodref 1 200), (0, .nameAndType 67 201), (0, u "(I)V"), (0, .methodref 203 100), (0, .class_ 204), (0, u "java/lang/Number"), (0, .fieldref 1 206), (0, .nameAndType 207 194), (0, u "value"), (56, .integer 65536), (37, u "TYPE"), (0, u "Ljava/lang/Class;"), (0, .class_ 305), (0, u "java/lang/Comparable"), (0, .class_ 307), (0, u "java/lang/constant/Constable"), (0, .class_ 309), (0, u "java/lang/constant/ConstantDesc"), (0, u "MIN_VALUE"), (1, u "MAX_VALUE"), (3, u "SIZE"), (1, u "BYTES"), (1, u "serialVersionUID"), (0, u "J"), (84, u "numberOfTrailingZeros")] 46

def k9c0 : Code := { maxStack := 3, maxLocals := 1, code := jdk_33_method_22_code, exceptionTable := #[], attributes := #[] }
def k9m0 : Method := { name := "valueOf", desc := "(I)Ljava/lang/Integer;", sig := { parameters := [.int], returnType := some (.object "java/lang/Integer") }, accessFlags := 9, code := some k9c0 }
def k9c1 : Code := { maxStack := 2, maxLocals := 2, code := jdk_33_method_23_code, exceptionTable := #[], attributes := #[] }
def k9m1 : Method := { name := "<init>", desc := "(I)V", sig := { parameters := [.int], returnType := none }, accessFlags := 1, code := some k9c1 }
def k9c2 : Code := { maxStack := 3, maxLocals := 2, code := jdk_33_method_48_code, exceptionTable := #[], attributes := #[] }
def k9m2 : Method := { name := "numberOfTrailingZeros", desc := "(I)I", sig := { parameters := [.int], returnType := some .int }, accessFlags := 9, code := some k9c2 }
/-- java/lang/Integer -/
def k9 : Class := { plain "java/lang/Integer" (some 5) with
  accessFlags := 49
  interfaces := #[6, 7, 8]
  cf := some (fileOf pool9 1 #[.nestMembers #[189]] #[{ accessFlags := 9, nameIndex := 187, descriptorIndex := 188, attributes := #[] }, { accessFlags := 1, nameIndex := 67, descriptorIndex := 201, attributes := #[] }, { accessFlags := 9, nameIndex := 406, descriptorIndex := 54, attributes := #[] }] 49 203 #[304, 306, 308] #[{ accessFlags := 25, nameIndex := 310, descriptorIndex := 194, attributes := #[] }, { accessFlags := 25, nameIndex := 312, descriptorIndex := 194, attributes := #[] }, { accessFlags := 25, nameIndex := 302, descriptorIndex := 303, attributes := #[] }, { accessFlags := 24, nameIndex := 19, descriptorIndex := 20, attributes := #[] }, { accessFlags := 24, nameIndex := 89, descriptorIndex := 86, attributes := #[] }, { accessFlags := 24, nameIndex := 85, descriptorIndex := 86, attributes := #[] }, { accessFlags := 18, nameIndex := 207, descriptorIndex := 194, attributes := #[] }, { accessFlags := 25, nameIndex := 316, descriptorIndex := 194, attributes := #[] }, { accessFlags := 25, nameIndex := 318, descriptorIndex := 194, attributes := #[] }, { accessFlags := 26, nameIndex := 320, descriptorIndex := 321, attributes := #[] }])
  fields := #[{ name := "MIN_VALUE", type := .int, accessFlags := 25, slot := 0, constantValue := 0 }, { name := "MAX_VALUE", type := .int, accessFlags := 25, slot := 1, constantValue := 0 }, { name := "TYPE", type := (.object "java/lang/Class"), accessFlags := 25, slot := 2, constantValue := 0 }, { name := "digits", type := (.array .char), accessFlags := 24, slot := 3, constantValue := 0 }, { name := "DigitTens", type := (.array .byte), accessFlags := 24, slot := 4, constantValue := 0 }, { name := "DigitOnes", type := (.array .byte), accessFlags := 24, slot := 5, constantValue := 0 }, { name := "value", type := .int, accessFlags := 18, slot := 0, constantValue := 0 }, { name := "SIZE", type := .int, accessFlags := 25, slot := 6, constantValue := 0 }, { name := "BYTES", type := .int, accessFlags := 25, slot := 7, constantValue := 0 }, { name := "serialVersionUID", type := .long, accessFlags := 26, slot := 8, constantValue := 0 }]
  methods := #[k9m0, k9m1, k9m2]
  instanceTypes := #[.int]
  staticTypes := #[.int, .int, (.object "java/lang/Class"), (.array .char), (.array .byte), (.array .byte), .int, .int, .long]
  resolved := Array.replicate 453 none
  statics := none }

def pool10 : Array CpInfo := pool [(2, .class_ 4), (1, u "java/lang/Object"), (0, u "<init>"), (0, u "()V"), (6, .methodref 14 15), (0, .class_ 16), (0, .nameAndType 17 18), (0, u "java/util/Arrays"), (0, u "rangeCheck"), (0, u "(III)V"), (55, .class_ 76), (1, u "java/util/Arrays$NaturalOrder"), (36, .class_ 115), (1, u "java/util/Arrays$LegacyMergeSort"), (1, u "Z"), (257, .class_ 376), (0, u "java/util/Arrays$ArrayList"), (68, u "$assertionsDisabled"), (269, u "MIN_ARRAY_SORT_GRAN"), (0, u "I"), (2, u "INSERTIONSORT_THRESHOLD"), (120, u "fill"), (3, u "([JIIJ)V"), (130, .class_ 976), (0, u "java/util/Arrays$ArrayItr")] 52

def k10m0 : Method := { name := "<init>", desc := "()V", sig := { parameters := [], returnType := none }, accessFlags := 2, code := none }
def k10c1 : Code := { maxStack := 4, maxLocals := 3, code := jdk_65_method_30_code, exceptionTable := #[], attributes := #[] }
def k10m1 : Method := { name := "rangeCheck", desc := "(III)V", sig := { parameters := [.int, .int, .int], returnType := none }, accessFlags := 8, code := some k10c1 }
def k10c2 : Code := { maxStack := 4, maxLocals := 6, code := jdk_65_method_102_code, exceptionTable := #[], attributes := #[] }
def k10m2 : Method := { name := "fill", desc := "([JIIJ)V", sig := { parameters := [(.array .long), .int, .int, .long], returnType := none }, accessFlags := 9, code := some k10c2 }
/-- java/util/Arrays -/
def k10 : Class := { plain "java/util/Arrays" (some 0) with
  accessFlags := 49
  interfaces := #[]
  cf := some (fileOf pool10 14 #[.nestMembers #[975, 375, 113, 74]] #[{ accessFlags := 2, nameIndex := 5, descriptorIndex := 6, attributes := #[] }, { accessFlags := 8, nameIndex := 17, descriptorIndex := 18, attributes := #[] }, { accessFlags := 9, nameIndex := 840, descriptorIndex := 844, attributes := #[] }] 49 2 #[] #[{ accessFlags := 26, nameIndex := 715, descriptorIndex := 716, attributes := #[] }, { accessFlags := 26, nameIndex := 719, descriptorIndex := 716, attributes := #[] }, { accessFlags := 4120, nameIndex := 445, descriptorIndex := 117, attributes := #[] }])
  fields := #[{ name := "MIN_ARRAY_SORT_GRAN", type := .int, accessFlags := 26, slot := 0, constantValue := 0 }, { name := "INSERTIONSORT_THRESHOLD", type := .int, accessFlags := 26, slot := 1, constantValue := 0 }, { name := "$assertionsDisabled", type := .boolean, accessFlags := 4120, slot := 2, constantValue := 0 }]
  methods := #[k10m0, k10m1, k10m2]
  instanceTypes := #[]
  staticTypes := #[.int, .int, .boolean]
  resolved := Array.replicate 1029 none
  statics := none }

def pool11 : Array CpInfo := pool [(2, .class_ 4), (1, u "java/lang/Object"), (0, u "<init>"), (0, u "()V"), (0, .class_ 8), (0, u "java/lang/Integer"), (7, .class_ 18), (1, u "java/lang/Integer$IntegerCache"), (0, u "$assertionsDisabled"), (0, u "Z"), (26, u "high"), (0, u "I"), (8, u "archivedCache"), (0, u "[Ljava/lang/Integer;"), (12, u "cache"), (0, u "low")] 27

def k11m0 : Method := { name := "<init>", desc := "()V", sig := { parameters := [], returnType := none }, accessFlags := 2, code := none }
/-- java/lang/Integer$IntegerCache -/
def k11 : Class := { plain "java/lang/Integer$IntegerCache" (some 0) with
  accessFlags := 48
  interfaces := #[]
  cf := some (fileOf pool11 16 #[.nestHost 7] #[{ accessFlags := 2, nameIndex := 5, descriptorIndex := 6, attributes := #[] }] 48 2 #[] #[{ accessFlags := 24, nameIndex := 72, descriptorIndex := 48, attributes := #[] }, { accessFlags := 24, nameIndex := 47, descriptorIndex := 48, attributes := #[] }, { accessFlags := 24, nameIndex := 71, descriptorIndex := 58, attributes := #[] }, { accessFlags := 8, nameIndex := 57, descriptorIndex := 58, attributes := #[] }, { accessFlags := 4120, nameIndex := 19, descriptorIndex := 20, attributes := #[] }])
  fields := #[{ name := "low", type := .int, accessFlags := 24, slot := 0, constantValue := 0 }, { name := "high", type := .int, accessFlags := 24, slot := 1, constantValue := 0 }, { name := "cache", type := (.array (.object "java/lang/Integer")), accessFlags := 24, slot := 2, constantValue := 0 }, { name := "archivedCache", type := (.array (.object "java/lang/Integer")), accessFlags := 8, slot := 3, constantValue := 0 }, { name := "$assertionsDisabled", type := .boolean, accessFlags := 4120, slot := 4, constantValue := 0 }]
  methods := #[k11m0]
  instanceTypes := #[]
  staticTypes := #[.int, .int, (.array (.object "java/lang/Integer")), (.array (.object "java/lang/Integer")), .boolean]
  resolved := Array.replicate 100 none
  statics := some 0 }

def pool12 : Array CpInfo := pool [(1, u "java/lang/Cloneable"), (0, .class_ 1), (0, u "java/lang/Object"), (0, .class_ 3)] 3

/-- java/lang/Cloneable -/
def k12 : Class := { plain "java/lang/Cloneable" (some 0) with
  accessFlags := 1537
  interfaces := #[]
  cf := some (fileOf pool12 2 #[] #[] 1537 4 #[] #[])
  fields := #[]
  methods := #[]
  instanceTypes := #[]
  staticTypes := #[]
  resolved := Array.replicate 8 none
  statics := none }

/-- the primitive boolean -/
def k13 : Class := { plain "boolean" none with kind := .primitive 'Z', accessFlags := 0x411 }
/-- [Z -/
def k14 : Class := { plain "[Z" (some 0) with kind := .array 13 .boolean, interfaces := #[12, 4], accessFlags := 1041 }

/-- the primitive byte -/
def k15 : Class := { plain "byte" none with kind := .primitive 'B', accessFlags := 0x411 }
/-- [B -/
def k16 : Class := { plain "[B" (some 0) with kind := .array 15 .byte, interfaces := #[12, 4], accessFlags := 1041 }

/-- the primitive int -/
def k17 : Class := { plain "int" none with kind := .primitive 'I', accessFlags := 0x411 }
/-- [I -/
def k18 : Class := { plain "[I" (some 0) with kind := .array 17 .int, interfaces := #[12, 4], accessFlags := 1041 }

/-- the primitive long -/
def k19 : Class := { plain "long" none with kind := .primitive 'J', accessFlags := 0x411 }
/-- [J -/
def k20 : Class := { plain "[J" (some 0) with kind := .array 19 .long, interfaces := #[12, 4], accessFlags := 1041 }

/-- [Ljava/lang/Integer; -/
def k21 : Class := { plain "[Ljava/lang/Integer;" (some 0) with kind := .array 9 (.object "java/lang/Integer"), interfaces := #[12, 4], accessFlags := 1041 }

/-- [Ljava/lang/Object; -/
def k22 : Class := { plain "[Ljava/lang/Object;" (some 0) with kind := .array 0 (.object "java/lang/Object"), interfaces := #[12, 4], accessFlags := 1041 }

def heap : Heap := #[{ cls := 11, slots := #[.int 0, .int 127, .ref 1, .null, .int 0], vm := .statics 11 },
  { cls := 21, slots := #[.ref 2, .ref 3, .ref 4, .ref 5, .ref 6, .ref 7, .ref 8, .ref 9, .ref 10, .ref 11, .ref 12, .ref 13, .ref 14, .ref 15, .ref 16, .ref 17, .ref 18, .ref 19, .ref 20, .ref 21, .ref 22, .ref 23, .ref 24, .ref 25, .ref 26, .ref 27, .ref 28, .ref 29, .ref 30, .ref 31, .ref 32, .ref 33, .ref 34, .ref 35, .ref 36, .ref 37, .ref 38, .ref 39, .ref 40, .ref 41, .ref 42, .ref 43, .ref 44, .ref 45, .ref 46, .ref 47, .ref 48, .ref 49, .ref 50, .ref 51, .ref 52, .ref 53, .ref 54, .ref 55, .ref 56, .ref 57, .ref 58, .ref 59, .ref 60, .ref 61, .ref 62, .ref 63, .ref 64, .ref 65, .ref 66, .ref 67, .ref 68, .ref 69, .ref 70, .ref 71, .ref 72, .ref 73, .ref 74, .ref 75, .ref 76, .ref 77, .ref 78, .ref 79, .ref 80, .ref 81, .ref 82, .ref 83, .ref 84, .ref 85, .ref 86, .ref 87, .ref 88, .ref 89, .ref 90, .ref 91, .ref 92, .ref 93, .ref 94, .ref 95, .ref 96, .ref 97, .ref 98, .ref 99, .ref 100, .ref 101, .ref 102, .ref 103, .ref 104, .ref 105, .ref 106, .ref 107, .ref 108, .ref 109, .ref 110, .ref 111, .ref 112, .ref 113, .ref 114, .ref 115, .ref 116, .ref 117, .ref 118, .ref 119, .ref 120, .ref 121, .ref 122, .ref 123, .ref 124, .ref 125, .ref 126, .ref 127, .ref 128, .ref 129, .ref 130, .ref 131, .ref 132, .ref 133, .ref 134, .ref 135, .ref 136, .ref 137, .ref 138, .ref 139, .ref 140, .ref 141, .ref 142, .ref 143, .ref 144, .ref 145, .ref 146, .ref 147, .ref 148, .ref 149, .ref 150, .ref 151, .ref 152, .ref 153, .ref 154, .ref 155, .ref 156, .ref 157, .ref 158, .ref 159, .ref 160, .ref 161, .ref 162, .ref 163, .ref 164, .ref 165, .ref 166, .ref 167, .ref 168, .ref 169, .ref 170, .ref 171, .ref 172, .ref 173, .ref 174, .ref 175, .ref 176, .ref 177, .ref 178, .ref 179, .ref 180, .ref 181, .ref 182, .ref 183, .ref 184, .ref 185, .ref 186, .ref 187, .ref 188, .ref 189, .ref 190, .ref 191, .ref 192, .ref 193, .ref 194, .ref 195, .ref 196, .ref 197, .ref 198, .ref 199, .ref 200, .ref 201, .ref 202, .ref 203, .ref 204, .ref 205, .ref 206, .ref 207, .ref 208, .ref 209, .ref 210, .ref 211, .ref 212, .ref 213, .ref 214, .ref 215, .ref 216, .ref 217, .ref 218, .ref 219, .ref 220, .ref 221, .ref 222, .ref 223, .ref 224, .ref 225, .ref 226, .ref 227, .ref 228, .ref 229, .ref 230, .ref 231, .ref 232, .ref 233, .ref 234, .ref 235, .ref 236, .ref 237, .ref 238, .ref 239, .ref 240, .ref 241, .ref 242, .ref 243, .ref 244, .ref 245, .ref 246, .ref 247, .ref 248, .ref 249, .ref 250, .ref 251, .ref 252, .ref 253, .ref 254, .ref 255, .ref 256, .ref 257], vm := .none },
  { cls := 9, slots := #[.int (-128)], vm := .none },
  { cls := 9, slots := #[.int (-127)], vm := .none },
  { cls := 9, slots := #[.int (-126)], vm := .none },
  { cls := 9, slots := #[.int (-125)], vm := .none },
  { cls := 9, slots := #[.int (-124)], vm := .none },
  { cls := 9, slots := #[.int (-123)], vm := .none },
  { cls := 9, slots := #[.int (-122)], vm := .none },
  { cls := 9, slots := #[.int (-121)], vm := .none },
  { cls := 9, slots := #[.int (-120)], vm := .none },
  { cls := 9, slots := #[.int (-119)], vm := .none },
  { cls := 9, slots := #[.int (-118)], vm := .none },
  { cls := 9, slots := #[.int (-117)], vm := .none },
  { cls := 9, slots := #[.int (-116)], vm := .none },
  { cls := 9, slots := #[.int (-115)], vm := .none },
  { cls := 9, slots := #[.int (-114)], vm := .none },
  { cls := 9, slots := #[.int (-113)], vm := .none },
  { cls := 9, slots := #[.int (-112)], vm := .none },
  { cls := 9, slots := #[.int (-111)], vm := .none },
  { cls := 9, slots := #[.int (-110)], vm := .none },
  { cls := 9, slots := #[.int (-109)], vm := .none },
  { cls := 9, slots := #[.int (-108)], vm := .none },
  { cls := 9, slots := #[.int (-107)], vm := .none },
  { cls := 9, slots := #[.int (-106)], vm := .none },
  { cls := 9, slots := #[.int (-105)], vm := .none },
  { cls := 9, slots := #[.int (-104)], vm := .none },
  { cls := 9, slots := #[.int (-103)], vm := .none },
  { cls := 9, slots := #[.int (-102)], vm := .none },
  { cls := 9, slots := #[.int (-101)], vm := .none },
  { cls := 9, slots := #[.int (-100)], vm := .none },
  { cls := 9, slots := #[.int (-99)], vm := .none },
  { cls := 9, slots := #[.int (-98)], vm := .none },
  { cls := 9, slots := #[.int (-97)], vm := .none },
  { cls := 9, slots := #[.int (-96)], vm := .none },
  { cls := 9, slots := #[.int (-95)], vm := .none },
  { cls := 9, slots := #[.int (-94)], vm := .none },
  { cls := 9, slots := #[.int (-93)], vm := .none },
  { cls := 9, slots := #[.int (-92)], vm := .none },
  { cls := 9, slots := #[.int (-91)], vm := .none },
  { cls := 9, slots := #[.int (-90)], vm := .none },
  { cls := 9, slots := #[.int (-89)], vm := .none },
  { cls := 9, slots := #[.int (-88)], vm := .none },
  { cls := 9, slots := #[.int (-87)], vm := .none },
  { cls := 9, slots := #[.int (-86)], vm := .none },
  { cls := 9, slots := #[.int (-85)], vm := .none },
  { cls := 9, slots := #[.int (-84)], vm := .none },
  { cls := 9, slots := #[.int (-83)], vm := .none },
  { cls := 9, slots := #[.int (-82)], vm := .none },
  { cls := 9, slots := #[.int (-81)], vm := .none },
  { cls := 9, slots := #[.int (-80)], vm := .none },
  { cls := 9, slots := #[.int (-79)], vm := .none },
  { cls := 9, slots := #[.int (-78)], vm := .none },
  { cls := 9, slots := #[.int (-77)], vm := .none },
  { cls := 9, slots := #[.int (-76)], vm := .none },
  { cls := 9, slots := #[.int (-75)], vm := .none },
  { cls := 9, slots := #[.int (-74)], vm := .none },
  { cls := 9, slots := #[.int (-73)], vm := .none },
  { cls := 9, slots := #[.int (-72)], vm := .none },
  { cls := 9, slots := #[.int (-71)], vm := .none },
  { cls := 9, slots := #[.int (-70)], vm := .none },
  { cls := 9, slots := #[.int (-69)], vm := .none },
  { cls := 9, slots := #[.int (-68)], vm := .none },
  { cls := 9, slots := #[.int (-67)], vm := .none },
  { cls := 9, slots := #[.int (-66)], vm := .none },
  { cls := 9, slots := #[.int (-65)], vm := .none },
  { cls := 9, slots := #[.int (-64)], vm := .none },
  { cls := 9, slots := #[.int (-63)], vm := .none },
  { cls := 9, slots := #[.int (-62)], vm := .none },
  { cls := 9, slots := #[.int (-61)], vm := .none },
  { cls := 9, slots := #[.int (-60)], vm := .none },
  { cls := 9, slots := #[.int (-59)], vm := .none },
  { cls := 9, slots := #[.int (-58)], vm := .none },
  { cls := 9, slots := #[.int (-57)], vm := .none },
  { cls := 9, slots := #[.int (-56)], vm := .none },
  { cls := 9, slots := #[.int (-55)], vm := .none },
  { cls := 9, slots := #[.int (-54)], vm := .none },
  { cls := 9, slots := #[.int (-53)], vm := .none },
  { cls := 9, slots := #[.int (-52)], vm := .none },
  { cls := 9, slots := #[.int (-51)], vm := .none },
  { cls := 9, slots := #[.int (-50)], vm := .none },
  { cls := 9, slots := #[.int (-49)], vm := .none },
  { cls := 9, slots := #[.int (-48)], vm := .none },
  { cls := 9, slots := #[.int (-47)], vm := .none },
  { cls := 9, slots := #[.int (-46)], vm := .none },
  { cls := 9, slots := #[.int (-45)], vm := .none },
  { cls := 9, slots := #[.int (-44)], vm := .none },
  { cls := 9, slots := #[.int (-43)], vm := .none },
  { cls := 9, slots := #[.int (-42)], vm := .none },
  { cls := 9, slots := #[.int (-41)], vm := .none },
  { cls := 9, slots := #[.int (-40)], vm := .none },
  { cls := 9, slots := #[.int (-39)], vm := .none },
  { cls := 9, slots := #[.int (-38)], vm := .none },
  { cls := 9, slots := #[.int (-37)], vm := .none },
  { cls := 9, slots := #[.int (-36)], vm := .none },
  { cls := 9, slots := #[.int (-35)], vm := .none },
  { cls := 9, slots := #[.int (-34)], vm := .none },
  { cls := 9, slots := #[.int (-33)], vm := .none },
  { cls := 9, slots := #[.int (-32)], vm := .none },
  { cls := 9, slots := #[.int (-31)], vm := .none },
  { cls := 9, slots := #[.int (-30)], vm := .none },
  { cls := 9, slots := #[.int (-29)], vm := .none },
  { cls := 9, slots := #[.int (-28)], vm := .none },
  { cls := 9, slots := #[.int (-27)], vm := .none },
  { cls := 9, slots := #[.int (-26)], vm := .none },
  { cls := 9, slots := #[.int (-25)], vm := .none },
  { cls := 9, slots := #[.int (-24)], vm := .none },
  { cls := 9, slots := #[.int (-23)], vm := .none },
  { cls := 9, slots := #[.int (-22)], vm := .none },
  { cls := 9, slots := #[.int (-21)], vm := .none },
  { cls := 9, slots := #[.int (-20)], vm := .none },
  { cls := 9, slots := #[.int (-19)], vm := .none },
  { cls := 9, slots := #[.int (-18)], vm := .none },
  { cls := 9, slots := #[.int (-17)], vm := .none },
  { cls := 9, slots := #[.int (-16)], vm := .none },
  { cls := 9, slots := #[.int (-15)], vm := .none },
  { cls := 9, slots := #[.int (-14)], vm := .none },
  { cls := 9, slots := #[.int (-13)], vm := .none },
  { cls := 9, slots := #[.int (-12)], vm := .none },
  { cls := 9, slots := #[.int (-11)], vm := .none },
  { cls := 9, slots := #[.int (-10)], vm := .none },
  { cls := 9, slots := #[.int (-9)], vm := .none },
  { cls := 9, slots := #[.int (-8)], vm := .none },
  { cls := 9, slots := #[.int (-7)], vm := .none },
  { cls := 9, slots := #[.int (-6)], vm := .none },
  { cls := 9, slots := #[.int (-5)], vm := .none },
  { cls := 9, slots := #[.int (-4)], vm := .none },
  { cls := 9, slots := #[.int (-3)], vm := .none },
  { cls := 9, slots := #[.int (-2)], vm := .none },
  { cls := 9, slots := #[.int (-1)], vm := .none },
  { cls := 9, slots := #[.int 0], vm := .none },
  { cls := 9, slots := #[.int 1], vm := .none },
  { cls := 9, slots := #[.int 2], vm := .none },
  { cls := 9, slots := #[.int 3], vm := .none },
  { cls := 9, slots := #[.int 4], vm := .none },
  { cls := 9, slots := #[.int 5], vm := .none },
  { cls := 9, slots := #[.int 6], vm := .none },
  { cls := 9, slots := #[.int 7], vm := .none },
  { cls := 9, slots := #[.int 8], vm := .none },
  { cls := 9, slots := #[.int 9], vm := .none },
  { cls := 9, slots := #[.int 10], vm := .none },
  { cls := 9, slots := #[.int 11], vm := .none },
  { cls := 9, slots := #[.int 12], vm := .none },
  { cls := 9, slots := #[.int 13], vm := .none },
  { cls := 9, slots := #[.int 14], vm := .none },
  { cls := 9, slots := #[.int 15], vm := .none },
  { cls := 9, slots := #[.int 16], vm := .none },
  { cls := 9, slots := #[.int 17], vm := .none },
  { cls := 9, slots := #[.int 18], vm := .none },
  { cls := 9, slots := #[.int 19], vm := .none },
  { cls := 9, slots := #[.int 20], vm := .none },
  { cls := 9, slots := #[.int 21], vm := .none },
  { cls := 9, slots := #[.int 22], vm := .none },
  { cls := 9, slots := #[.int 23], vm := .none },
  { cls := 9, slots := #[.int 24], vm := .none },
  { cls := 9, slots := #[.int 25], vm := .none },
  { cls := 9, slots := #[.int 26], vm := .none },
  { cls := 9, slots := #[.int 27], vm := .none },
  { cls := 9, slots := #[.int 28], vm := .none },
  { cls := 9, slots := #[.int 29], vm := .none },
  { cls := 9, slots := #[.int 30], vm := .none },
  { cls := 9, slots := #[.int 31], vm := .none },
  { cls := 9, slots := #[.int 32], vm := .none },
  { cls := 9, slots := #[.int 33], vm := .none },
  { cls := 9, slots := #[.int 34], vm := .none },
  { cls := 9, slots := #[.int 35], vm := .none },
  { cls := 9, slots := #[.int 36], vm := .none },
  { cls := 9, slots := #[.int 37], vm := .none },
  { cls := 9, slots := #[.int 38], vm := .none },
  { cls := 9, slots := #[.int 39], vm := .none },
  { cls := 9, slots := #[.int 40], vm := .none },
  { cls := 9, slots := #[.int 41], vm := .none },
  { cls := 9, slots := #[.int 42], vm := .none },
  { cls := 9, slots := #[.int 43], vm := .none },
  { cls := 9, slots := #[.int 44], vm := .none },
  { cls := 9, slots := #[.int 45], vm := .none },
  { cls := 9, slots := #[.int 46], vm := .none },
  { cls := 9, slots := #[.int 47], vm := .none },
  { cls := 9, slots := #[.int 48], vm := .none },
  { cls := 9, slots := #[.int 49], vm := .none },
  { cls := 9, slots := #[.int 50], vm := .none },
  { cls := 9, slots := #[.int 51], vm := .none },
  { cls := 9, slots := #[.int 52], vm := .none },
  { cls := 9, slots := #[.int 53], vm := .none },
  { cls := 9, slots := #[.int 54], vm := .none },
  { cls := 9, slots := #[.int 55], vm := .none },
  { cls := 9, slots := #[.int 56], vm := .none },
  { cls := 9, slots := #[.int 57], vm := .none },
  { cls := 9, slots := #[.int 58], vm := .none },
  { cls := 9, slots := #[.int 59], vm := .none },
  { cls := 9, slots := #[.int 60], vm := .none },
  { cls := 9, slots := #[.int 61], vm := .none },
  { cls := 9, slots := #[.int 62], vm := .none },
  { cls := 9, slots := #[.int 63], vm := .none },
  { cls := 9, slots := #[.int 64], vm := .none },
  { cls := 9, slots := #[.int 65], vm := .none },
  { cls := 9, slots := #[.int 66], vm := .none },
  { cls := 9, slots := #[.int 67], vm := .none },
  { cls := 9, slots := #[.int 68], vm := .none },
  { cls := 9, slots := #[.int 69], vm := .none },
  { cls := 9, slots := #[.int 70], vm := .none },
  { cls := 9, slots := #[.int 71], vm := .none },
  { cls := 9, slots := #[.int 72], vm := .none },
  { cls := 9, slots := #[.int 73], vm := .none },
  { cls := 9, slots := #[.int 74], vm := .none },
  { cls := 9, slots := #[.int 75], vm := .none },
  { cls := 9, slots := #[.int 76], vm := .none },
  { cls := 9, slots := #[.int 77], vm := .none },
  { cls := 9, slots := #[.int 78], vm := .none },
  { cls := 9, slots := #[.int 79], vm := .none },
  { cls := 9, slots := #[.int 80], vm := .none },
  { cls := 9, slots := #[.int 81], vm := .none },
  { cls := 9, slots := #[.int 82], vm := .none },
  { cls := 9, slots := #[.int 83], vm := .none },
  { cls := 9, slots := #[.int 84], vm := .none },
  { cls := 9, slots := #[.int 85], vm := .none },
  { cls := 9, slots := #[.int 86], vm := .none },
  { cls := 9, slots := #[.int 87], vm := .none },
  { cls := 9, slots := #[.int 88], vm := .none },
  { cls := 9, slots := #[.int 89], vm := .none },
  { cls := 9, slots := #[.int 90], vm := .none },
  { cls := 9, slots := #[.int 91], vm := .none },
  { cls := 9, slots := #[.int 92], vm := .none },
  { cls := 9, slots := #[.int 93], vm := .none },
  { cls := 9, slots := #[.int 94], vm := .none },
  { cls := 9, slots := #[.int 95], vm := .none },
  { cls := 9, slots := #[.int 96], vm := .none },
  { cls := 9, slots := #[.int 97], vm := .none },
  { cls := 9, slots := #[.int 98], vm := .none },
  { cls := 9, slots := #[.int 99], vm := .none },
  { cls := 9, slots := #[.int 100], vm := .none },
  { cls := 9, slots := #[.int 101], vm := .none },
  { cls := 9, slots := #[.int 102], vm := .none },
  { cls := 9, slots := #[.int 103], vm := .none },
  { cls := 9, slots := #[.int 104], vm := .none },
  { cls := 9, slots := #[.int 105], vm := .none },
  { cls := 9, slots := #[.int 106], vm := .none },
  { cls := 9, slots := #[.int 107], vm := .none },
  { cls := 9, slots := #[.int 108], vm := .none },
  { cls := 9, slots := #[.int 109], vm := .none },
  { cls := 9, slots := #[.int 110], vm := .none },
  { cls := 9, slots := #[.int 111], vm := .none },
  { cls := 9, slots := #[.int 112], vm := .none },
  { cls := 9, slots := #[.int 113], vm := .none },
  { cls := 9, slots := #[.int 114], vm := .none },
  { cls := 9, slots := #[.int 115], vm := .none },
  { cls := 9, slots := #[.int 116], vm := .none },
  { cls := 9, slots := #[.int 117], vm := .none },
  { cls := 9, slots := #[.int 118], vm := .none },
  { cls := 9, slots := #[.int 119], vm := .none },
  { cls := 9, slots := #[.int 120], vm := .none },
  { cls := 9, slots := #[.int 121], vm := .none },
  { cls := 9, slots := #[.int 122], vm := .none },
  { cls := 9, slots := #[.int 123], vm := .none },
  { cls := 9, slots := #[.int 124], vm := .none },
  { cls := 9, slots := #[.int 125], vm := .none },
  { cls := 9, slots := #[.int 126], vm := .none },
  { cls := 9, slots := #[.int 127], vm := .none }]
def classes : Array Class := #[k0, k1, k2, k3, k4, k5, k6, k7, k8, k9, k10, k11, k12, k13, k14, k15, k16, k17, k18, k19, k20, k21, k22]
def interned : List (Array UInt16 × Addr) := []
def slotsUsed : Nat := 517
def theMethod : MethodId := ⟨1, 1⟩
def args0 : Array Value := #[.long 1, .long 2, .int 3, .int 4, .int 5, .int 6]
def aboutOver (below : List Frame) : State where
  vm := { classes := classes, interned := interned.toArray }
  heap := heap
  slotsUsed := slotsUsed
  threads := #[{ frames := .invoking theMethod args0 :: below }]
def below0 : List Frame := [.native { method := ⟨0, 0⟩, args := #[] }]
def about1 : State := aboutOver below0
def p0 : Program := .bare "" "" ""
def e0 : Env := launch0.env 0 0 0
theorem w_frames : about1.frames = Frame.invoking theMethod args0 :: below0 := rfl
set_option maxRecDepth 65536 in
theorem w_args : argsFit about1.vm theMethod args0 = true := by decide +kernel
set_option maxRecDepth 65536 in
theorem w_heap : heapFits about1 = true := by decide +kernel
set_option maxRecDepth 65536 in
theorem w_runnable : about1.curStatus? = some .runnable := by decide +kernel
set_option maxRecDepth 65536 in
theorem w_alone : about1.alone = true := by decide +kernel
set_option maxRecDepth 65536 in
theorem w_named : about1.methodNamed? x = some theMethod := by decide +kernel
set_option maxRecDepth 65536 in
theorem w_hears : about1.hears theMethod below0 = true := by decide +kernel
set_option maxRecDepth 65536 in
theorem w_ripe : about1.ripe theMethod args0 below0 = true := by decide +kernel
theorem w_running : about1.status = .running := rfl
set_option maxRecDepth 65536 in
theorem w_room : about1.hasRoom e0.platform room_1 = true :=
  launch0.hasRoom_least _ room_1 (by decide +kernel) (by decide +kernel) (by decide +kernel) (by decide +kernel) (by decide +kernel) (by decide +kernel)
theorem allAtoms_all (ts : List Jvm.Cond) (a : Array Jvm.Value) (st : Jvm.State) : (allAtoms ts).before a st = ts.all (fun c => c.before a st) := by
  induction ts with
  | nil => rfl
  | cons c t ih =>
    show (Jvm.Cond.and c (allAtoms t)).before a st = _
    rw [Jvm.Cond.before_and, ih, List.all_cons]
def words1 : List Jvm.Cond := Jvm.Cond.code x code maxLocals ret :: tables_1
/-- a 'code' word, met by the world's own term for the bytes: nothing is compared byte by byte -/
theorem code_word {y : MethodName} {bytes : ByteArray} {mx : Nat} {rt : Option FieldType} {a : Array Value} {s : State} {m : MethodId} {meth : Method} {c : Code} (h1 : s.methodNamed? y = some m) (h2 : s.vm.method? m = some meth) (h3 : meth.code = some c) (h4 : c.code = bytes)
    (h5 : (c.maxLocals == mx && c.exceptionTable.isEmpty && decide (c.maxStack ≤ mostOperands) && decide (meth.sig.returnType = rt) && !meth.locks && decide (parseMethodDescriptor y.desc = some meth.sig)) = true) : (Jvm.Cond.code y bytes mx rt).before a s = true := by
  simp only [Bool.and_eq_true, beq_iff_eq, Bool.not_eq_true', decide_eq_true_eq] at h5
  obtain ⟨⟨⟨⟨⟨g1, g2⟩, g3⟩, g4⟩, g5⟩, g6⟩ := h5
  simp [Cond.before, Cond.holds, Cond.value, h1, h2, h3, h4, g1, g2, g3, g4, g5, g6]
def isCode : Jvm.Cond → Bool
  | .code _ _ _ _ => true
  | _ => false
theorem all_split {L : List Jvm.Cond} {P : Jvm.Cond → Bool} (h1 : L.all (fun c => isCode c || P c) = true) (h2 : ∀ c ∈ L.filter isCode, P c = true) : L.all P = true := by
  refine List.all_eq_true.mpr fun c hc => ?_
  have h := List.all_eq_true.mp h1 c hc
  rcases Bool.eq_false_or_eq_true (isCode c) with hi | hi
  · exact h2 c (List.mem_filter.mpr ⟨hc, hi⟩)
  · simpa [hi] using h
set_option maxRecDepth 65536 in
theorem w_c0 : (Jvm.Cond.code x code maxLocals ret).before args0 about1 = true := code_word (m := ⟨1, 1⟩) (meth := k1m1) (c := k1c1) (by decide +kernel) rfl rfl rfl (by decide +kernel)
set_option maxRecDepth 65536 in
theorem w_c1 : (Jvm.Cond.code ({ cls := "com/example/backchannel/backchannel/server/LongTable", name := "<init>", desc := "(I)V" } : Jvm.MethodName) prog_69_method_1_code (2 : Nat) (Option.none : Option Jvm.ClassFile.FieldType)).before args0 about1 = true := code_word (m := ⟨2, 0⟩) (meth := k2m0) (c := k2c0) (by decide +kernel) rfl rfl rfl (by decide +kernel)
set_option maxRecDepth 65536 in
theorem w_c2 : (Jvm.Cond.code ({ cls := "java/lang/Object", name := "<init>", desc := "()V" } : Jvm.MethodName) object_method_1_code (1 : Nat) (Option.none : Option Jvm.ClassFile.FieldType)).before args0 about1 = true := code_word (m := ⟨0, 0⟩) (meth := k0m0) (c := k0c0) (by decide +kernel) rfl rfl rfl (by decide +kernel)
set_option maxRecDepth 65536 in
theorem w_c3 : (Jvm.Cond.code ({ cls := "com/example/backchannel/backchannel/server/LongTable", name := "allocate", desc := "(I)V" } : Jvm.MethodName) prog_69_method_17_code (2 : Nat) (Option.none : Option Jvm.ClassFile.FieldType)).before args0 about1 = true := code_word (m := ⟨2, 7⟩) (meth := k2m7) (c := k2c7) (by decide +kernel) rfl rfl rfl (by decide +kernel)
set_option maxRecDepth 65536 in
theorem w_c4 : (Jvm.Cond.code ({ cls := "java/lang/Math", name := "multiplyExact", desc := "(II)I" } : Jvm.MethodName) jdk_29_method_28_code (4 : Nat) (Option.some Jvm.ClassFile.FieldType.int)).before args0 about1 = true := code_word (m := ⟨3, 1⟩) (meth := k3m1) (c := k3c1) (by decide +kernel) rfl rfl rfl (by decide +kernel)
set_option maxRecDepth 65536 in
theorem w_c5 : (Jvm.Cond.code ({ cls := "java/lang/Integer", name := "numberOfTrailingZeros", desc := "(I)I" } : Jvm.MethodName) jdk_33_method_48_code (2 : Nat) (Option.some Jvm.ClassFile.FieldType.int)).before args0 about1 = true := code_word (m := ⟨9, 2⟩) (meth := k9m2) (c := k9c2) (by decide +kernel) rfl rfl rfl (by decide +kernel)
set_option maxRecDepth 65536 in
theorem w_c6 : (Jvm.Cond.code ({ cls := "com/example/backchannel/backchannel/server/LongTable", name := "add", desc := "(J)I" } : Jvm.MethodName) prog_69_method_5_code (4 : Nat) (Option.some Jvm.ClassFile.FieldType.int)).before args0 about1 = true := code_word (m := ⟨2, 2⟩) (meth := k2m2) (c := k2c2) (by decide +kernel) rfl rfl rfl (by decide +kernel)
set_option maxRecDepth 65536 in
theorem w_c7 : (Jvm.Cond.code ({ cls := "com/example/backchannel/backchannel/server/LongTable", name := "find", desc := "(J)I" } : Jvm.MethodName) prog_69_method_4_code (5 : Nat) (Option.some Jvm.ClassFile.FieldType.int)).before args0 about1 = true := code_word (m := ⟨2, 1⟩) (meth := k2m1) (c := k2c1) (by decide +kernel) rfl rfl rfl (by decide +kernel)
set_option maxRecDepth 65536 in
theorem w_c8 : (Jvm.Cond.code ({ cls := "com/example/backchannel/backchannel/server/LongTable", name := "home", desc := "(J)I" } : Jvm.MethodName) prog_69_method_14_code (3 : Nat) (Option.some Jvm.ClassFile.FieldType.int)).before args0 about1 = true := code_word (m := ⟨2, 5⟩) (meth := k2m5) (c := k2c5) (by decide +kernel) rfl rfl rfl (by decide +kernel)
set_option maxRecDepth 65536 in
theorem w_c9 : (Jvm.Cond.code ({ cls := "com/example/backchannel/backchannel/server/LongTable", name := "freeSlot", desc := "(J)I" } : Jvm.MethodName) prog_69_method_15_code (5 : Nat) (Option.some Jvm.ClassFile.FieldType.int)).before args0 about1 = true := code_word (m := ⟨2, 6⟩) (meth := k2m6) (c := k2c6) (by decide +kernel) rfl rfl rfl (by decide +kernel)
set_option maxRecDepth 65536 in
theorem w_c10 : (Jvm.Cond.code ({ cls := "java/util/Arrays", name := "fill", desc := "([JIIJ)V" } : Jvm.MethodName) jdk_65_method_102_code (6 : Nat) (Option.none : Option Jvm.ClassFile.FieldType)).before args0 about1 = true := code_word (m := ⟨10, 2⟩) (meth := k10m2) (c := k10c2) (by decide +kernel) rfl rfl rfl (by decide +kernel)
set_option maxRecDepth 65536 in
theorem w_c11 : (Jvm.Cond.code ({ cls := "java/util/Arrays", name := "rangeCheck", desc := "(III)V" } : Jvm.MethodName) jdk_65_method_30_code (3 : Nat) (Option.none : Option Jvm.ClassFile.FieldType)).before args0 about1 = true := code_word (m := ⟨10, 1⟩) (meth := k10m1) (c := k10c1) (by decide +kernel) rfl rfl rfl (by decide +kernel)
set_option maxRecDepth 65536 in
theorem w_c12 : (Jvm.Cond.code ({ cls := "java/lang/Integer", name := "valueOf", desc := "(I)Ljava/lang/Integer;" } : Jvm.MethodName) jdk_33_method_22_code (1 : Nat) (Option.some (Jvm.ClassFile.FieldType.object "java/lang/Integer"))).before args0 about1 = true := code_word (m := ⟨9, 0⟩) (meth := k9m0) (c := k9c0) (by decide +kernel) rfl rfl rfl (by decide +kernel)
set_option maxRecDepth 65536 in
theorem w_c13 : (Jvm.Cond.code ({ cls := "com/example/backchannel/backchannel/server/LongTable", name := "setValue", desc := "(ILjava/lang/Object;)V" } : Jvm.MethodName) prog_69_method_10_code (3 : Nat) (Option.none : Option Jvm.ClassFile.FieldType)).before args0 about1 = true := code_word (m := ⟨2, 4⟩) (meth := k2m4) (c := k2c4) (by decide +kernel) rfl rfl rfl (by decide +kernel)
set_option maxRecDepth 65536 in
theorem w_c14 : (Jvm.Cond.code ({ cls := "com/example/backchannel/backchannel/server/LongTable", name := "value", desc := "(I)Ljava/lang/Object;" } : Jvm.MethodName) prog_69_method_9_code (2 : Nat) (Option.some (Jvm.ClassFile.FieldType.object "java/lang/Object"))).before args0 about1 = true := code_word (m := ⟨2, 3⟩) (meth := k2m3) (c := k2c3) (by decide +kernel) rfl rfl rfl (by decide +kernel)
set_option maxRecDepth 65536 in
theorem w_c15 : (Jvm.Cond.code ({ cls := "java/lang/Integer", name := "<init>", desc := "(I)V" } : Jvm.MethodName) jdk_33_method_23_code (2 : Nat) (Option.none : Option Jvm.ClassFile.FieldType)).before args0 about1 = true := code_word (m := ⟨9, 1⟩) (meth := k9m1) (c := k9c1) (by decide +kernel) rfl rfl rfl (by decide +kernel)
set_option maxRecDepth 65536 in
theorem w_c16 : (Jvm.Cond.code ({ cls := "java/lang/Number", name := "<init>", desc := "()V" } : Jvm.MethodName) jdk_18_method_1_code (1 : Nat) (Option.none : Option Jvm.ClassFile.FieldType)).before args0 about1 = true := code_word (m := ⟨5, 0⟩) (meth := k5m0) (c := k5c0) (by decide +kernel) rfl rfl rfl (by decide +kernel)
def codes1 : List Jvm.Cond := [Jvm.Cond.code x code maxLocals ret, Jvm.Cond.code ({ cls := "com/example/backchannel/backchannel/server/LongTable", name := "<init>", desc := "(I)V" } : Jvm.MethodName) prog_69_method_1_code (2 : Nat) (Option.none : Option Jvm.ClassFile.FieldType), Jvm.Cond.code ({ cls := "java/lang/Object", name := "<init>", desc := "()V" } : Jvm.MethodName) object_method_1_code (1 : Nat) (Option.none : Option Jvm.ClassFile.FieldType), Jvm.Cond.code ({ cls := "com/example/backchannel/backchannel/server/LongTable", name := "allocate", desc := "(I)V" } : Jvm.MethodName) prog_69_method_17_code (2 : Nat) (Option.none : Option Jvm.ClassFile.FieldType), Jvm.Cond.code ({ cls := "java/lang/Math", name := "multiplyExact", desc := "(II)I" } : Jvm.MethodName) jdk_29_method_28_code (4 : Nat) (Option.some Jvm.ClassFile.FieldType.int), Jvm.Cond.code ({ cls := "java/lang/Integer", name := "numberOfTrailingZeros", desc := "(I)I" } : Jvm.MethodName) jdk_33_method_48_code (2 : Nat) (Option.some Jvm.ClassFile.FieldType.int), Jvm.Cond.code ({ cls := "com/example/backchannel/backchannel/server/LongTable", name := "add", desc := "(J)I" } : Jvm.MethodName) prog_69_method_5_code (4 : Nat) (Option.some Jvm.ClassFile.FieldType.int), Jvm.Cond.code ({ cls := "com/example/backchannel/backchannel/server/LongTable", name := "find", desc := "(J)I" } : Jvm.MethodName) prog_69_method_4_code (5 : Nat) (Option.some Jvm.ClassFile.FieldType.int), Jvm.Cond.code ({ cls := "com/example/backchannel/backchannel/server/LongTable", name := "home", desc := "(J)I" } : Jvm.MethodName) prog_69_method_14_code (3 : Nat) (Option.some Jvm.ClassFile.FieldType.int), Jvm.Cond.code ({ cls := "com/example/backchannel/backchannel/server/LongTable", name := "freeSlot", desc := "(J)I" } : Jvm.MethodName) prog_69_method_15_code (5 : Nat) (Option.some Jvm.ClassFile.FieldType.int), Jvm.Cond.code ({ cls := "java/util/Arrays", name := "fill", desc := "([JIIJ)V" } : Jvm.MethodName) jdk_65_method_102_code (6 : Nat) (Option.none : Option Jvm.ClassFile.FieldType), Jvm.Cond.code ({ cls := "java/util/Arrays", name := "rangeCheck", desc := "(III)V" } : Jvm.MethodName) jdk_65_method_30_code (3 : Nat) (Option.none : Option Jvm.ClassFile.FieldType), Jvm.Cond.code ({ cls := "java/lang/Integer", name := "valueOf", desc := "(I)Ljava/lang/Integer;" } : Jvm.MethodName) jdk_33_method_22_code (1 : Nat) (Option.some (Jvm.ClassFile.FieldType.object "java/lang/Integer")), Jvm.Cond.code ({ cls := "com/example/backchannel/backchannel/server/LongTable", name := "setValue", desc := "(ILjava/lang/Object;)V" } : Jvm.MethodName) prog_69_method_10_code (3 : Nat) (Option.none : Option Jvm.ClassFile.FieldType), Jvm.Cond.code ({ cls := "com/example/backchannel/backchannel/server/LongTable", name := "value", desc := "(I)Ljava/lang/Object;" } : Jvm.MethodName) prog_69_method_9_code (2 : Nat) (Option.some (Jvm.ClassFile.FieldType.object "java/lang/Object")), Jvm.Cond.code ({ cls := "java/lang/Integer", name := "<init>", desc := "(I)V" } : Jvm.MethodName) jdk_33_method_23_code (2 : Nat) (Option.none : Option Jvm.ClassFile.FieldType), Jvm.Cond.code ({ cls := "java/lang/Number", name := "<init>", desc := "()V" } : Jvm.MethodName) jdk_18_method_1_code (1 : Nat) (Option.none : Option Jvm.ClassFile.FieldType)]
set_option maxRecDepth 65536 in
theorem codes_eq : words1.filter isCode = codes1 := rfl
theorem w_codes : ∀ c ∈ words1.filter isCode, c.before args0 about1 = true := by
  rw [codes_eq]
  intro c hc
  simp only [codes1, List.mem_cons, List.not_mem_nil, or_false] at hc
  rcases hc with rfl | rfl | rfl | rfl | rfl | rfl | rfl | rfl | rfl | rfl | rfl | rfl | rfl | rfl | rfl | rfl | rfl
  · exact w_c0
  · exact w_c1
  · exact w_c2
  · exact w_c3
  · exact w_c4
  · exact w_c5
  · exact w_c6
  · exact w_c7
  · exact w_c8
  · exact w_c9
  · exact w_c10
  · exact w_c11
  · exact w_c12
  · exact w_c13
  · exact w_c14
  · exact w_c15
  · exact w_c16
set_option maxRecDepth 65536 in
theorem w_t1 : (words1.take 24).all (fun c => isCode c || c.before args0 about1) = true := by decide +kernel
set_option maxRecDepth 65536 in
theorem w_t2 : ((words1.drop 24).take 24).all (fun c => isCode c || c.before args0 about1) = true := by decide +kernel
set_option maxRecDepth 65536 in
theorem w_t3 : (((words1.drop 24).drop 24).take 24).all (fun c => isCode c || c.before args0 about1) = true := by decide +kernel
set_option maxRecDepth 65536 in
theorem w_t4 : ((((words1.drop 24).drop 24).drop 24).take 24).all (fun c => isCode c || c.before args0 about1) = true := by decide +kernel
set_option maxRecDepth 65536 in
theorem w_t5 : ((((words1.drop 24).drop 24).drop 24).drop 24).all (fun c => isCode c || c.before args0 about1) = true := by decide +kernel
theorem w_tables : (allAtoms (Jvm.Cond.code x code maxLocals ret :: tables_1)).before args0 about1 = true := by
  rw [allAtoms_all]
  show words1.all (fun c => c.before args0 about1) = true
  refine all_split ?_ w_codes
  rw [← List.take_append_drop 24 words1, List.all_append, w_t1, ← List.take_append_drop 24 (words1.drop 24), List.all_append, w_t2, ← List.take_append_drop 24 ((words1.drop 24).drop 24), List.all_append, w_t3, ← List.take_append_drop 24 (((words1.drop 24).drop 24).drop 24), List.all_append, w_t4, w_t5]
  rfl
set_option maxRecDepth 65536 in
theorem w_rest : rest_1_c.before args0 about1 = true := by decide +kernel
set_option maxRecDepth 65536 in
theorem w_case : (Jvm.Cond.and given_1 narrow_1).before args0 about1 = true := by decide +kernel
theorem w_applies : (headSpec (Jvm.Cond.code x code maxLocals ret :: tables_1) room_1).applies x e0.platform about1 = true :=
  (Spec.applies_iff w_frames).mpr ⟨w_running, w_runnable, w_alone, w_named, w_hears, w_ripe, w_room, w_tables⟩
theorem atStart : AtStart classFile x code maxLocals ret World_1 tables_1 room_1 Calls_1 rest_1 Pre_1 launch0 p0 e0 about1 theMethod args0 below0 :=
  ⟨lists_1, trivial, launch0.admits_env _ _ _, launch0.least_env, fairChoices_fair.cas, fairChoices_fair.clock, w_frames, w_args, w_heap, w_applies, trivial, w_rest, w_case⟩
end start1
theorem witness_1 : WitnessClaimed_1 := ⟨start1.p0, start1.e0, start1.about1, start1.theMethod, start1.args0, start1.below0, start1.atStart⟩
end Jvm.Pilot.@@N@@
