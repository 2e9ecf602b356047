import JvmDerived
import JvmDerived.Pilot.@@N@@Statement
import JvmDerived.Pilot.@@N@@Code
set_option linter.unusedVariables false
set_option linter.unusedSimpArgs false
@@BLOCK:NumsL.lean.txt@@
namespace Jvm.Pilot.@@N@@
open Jvm Jvm.ClassFile Sem Op Lib Jvm.Free Jvm.Stand Jvm.LawKit Jvm.RoadKit Bundle Jvm.Pilot.@@N@@.Jvm.D
theorem own_w {ws : List Jvm.Cond} {a0 : Array Value} {Z : State} (hw : ∀ d ∈ ws, d.before a0 Z = true) (i : Nat) {d : Jvm.Cond} (h : ws[i]? = some d) : d.before a0 Z = true := hw d (List.mem_of_getElem? h)
/-! the run from a frame comes to an end of which A holds: one walk a body, branches by cases -/
def own_Go (tb : Tables) (e : Env) (below : List Frame) (A : State → Prop) (T : State) (g : JFrame) : Prop := ∃ t, Steps tb e below (T.setTop g) t ∧ A t
theorem own_st {tb : Tables} {e : Env} {below : List Frame} {A : State → Prop} {T T1 : State} {g g1 : JFrame} (k : ∀ t, Steps tb e below (T1.setTop g1) t → Steps tb e below (T.setTop g) t) (h : own_Go tb e below A T1 g1) : own_Go tb e below A T g := by
  obtain ⟨t, a, b⟩ := h
  exact ⟨t, k t a, b⟩
def own_End (s : State) (below : List Frame) (Q : Option Value → Heap → List Loc → Prop) (k n : Nat) (t : State) : Prop := ∃ o, t.status = .running ∧ Ended t below o ∧ ∃ v L, o = .returned v ∧ Q v t.heap L ∧ FrameEnd s o t L k n
theorem own_open {tb : Tables} {e : Env} {below : List Frame} {s₁ s : State} {g g' : JFrame} {Q : Option Value → Heap → List Loc → Prop} {k n : Nat} (hg : g = g') (h : own_Go tb e below (own_End s below Q k n) s₁ g') : ∃ s₂ o, Steps tb e below (s₁.setTop g) s₂ ∧ s₂.status = .running ∧ Ended s₂ below o ∧ ∃ v L, o = .returned v ∧ Q v s₂.heap L ∧ FrameEnd s o s₂ L k n := by
  subst hg
  obtain ⟨t, a, o, b, c, d⟩ := h
  exact ⟨t, o, a, b, c, d⟩
theorem own_nar {t : FieldType} {w : Value} (hw : w.isRef = true) : narrow t w = w := by cases w <;> first | (cases t <;> rfl) | simp [Value.isRef] at hw
section OwnEnds
variable {p : Program} {l : Launch} {e : Env} {R : Room} {s : State} {m : MethodId} {args : Array Value} {below : List Frame} {meth : Method} {c : Code} {T : State} {locs : List Loc} {cells slots : Nat} {Q : Option Value → Heap → List Loc → Prop} {k n : Nat} {h : Heap}
theorem own_end (X : Stand p l e R s m args below meth c T locs cells slots) (hlk : meth.locks = false) (v : Option Value) (hv : meth.sig.returnType = none → v = none) (hk : cells ≤ k) (hn : slots ≤ n) (eT : T.heap = h) (hq : Q v h locs) {g : JFrame}
    (hs : ∀ fs, (∀ (f : JFrame) (acts : List Action), f.method = m → f.locked = none → f.entered = [] → (doReturn e (T.setTop f) acts v).1 = T.setFrames fs) → Steps p.tables e below (T.setTop g) (T.setFrames fs)) : own_Go p.tables e below (own_End s below Q k n) T g := by
  obtain ⟨fs, hr, hrun, hended, hW, hsame⟩ := X.leave (v := v) hv
  exact ⟨_, hs fs hr, _, hrun, hended, v, locs, rfl, (by show Q v T.heap locs; rw [eT]; exact hq), ⟨_, rfl⟩, hW, hsame.mono hk hn⟩
theorem own_retZ (X : Stand p l e R s m args below meth c T locs cells slots) (hx : p.tables.exec = Jvm.exec) (hlk : meth.locks = false) {pc : Nat} {Ls : Array Slot} {z : Int32} {rest : List Value} {t : FieldType} (hret : meth.sig.returnType = some t) (ht : t = .boolean ∨ t = .byte ∨ t = .char ∨ t = .short) (hd : decode c.code pc = .ok (.ireturn, 1)) (hk : cells ≤ k) (hn : slots ≤ n) (eT : T.heap = h) (hq : Q (some (.int (nar t z))) h locs) :
    own_Go p.tables e below (own_End s below Q k n) T (mkF m pc Ls (.int z :: rest)) :=
  own_end X hlk _ (fun q => by rw [hret] at q; cases q) hk hn eT hq (fun fs hr => retN X hx hret ht hd hr)
theorem own_retI (X : Stand p l e R s m args below meth c T locs cells slots) (hx : p.tables.exec = Jvm.exec) (hlk : meth.locks = false) {pc : Nat} {Ls : Array Slot} {z : Int32} {rest : List Value} (hret : meth.sig.returnType = some .int) (hd : decode c.code pc = .ok (.ireturn, 1)) (hk : cells ≤ k) (hn : slots ≤ n) (eT : T.heap = h) (hq : Q (some (.int z)) h locs) :
    own_Go p.tables e below (own_End s below Q k n) T (mkF m pc Ls (.int z :: rest)) :=
  own_end X hlk _ (fun q => by rw [hret] at q; cases q) hk hn eT hq (fun fs hr => retOut X hx hret rfl (Or.inl ⟨rfl, Or.inl rfl, z, rfl⟩) hd hr)
theorem own_retJ (X : Stand p l e R s m args below meth c T locs cells slots) (hx : p.tables.exec = Jvm.exec) (hlk : meth.locks = false) {pc : Nat} {Ls : Array Slot} {z : Int64} {rest : List Value} (hret : meth.sig.returnType = some .long) (hd : decode c.code pc = .ok (.lreturn, 1)) (hk : cells ≤ k) (hn : slots ≤ n) (eT : T.heap = h) (hq : Q (some (.long z)) h locs) :
    own_Go p.tables e below (own_End s below Q k n) T (mkF m pc Ls (.long z :: rest)) :=
  own_end X hlk _ (fun q => by rw [hret] at q; cases q) hk hn eT hq (fun fs hr => retOut X hx hret rfl (Or.inr (Or.inl ⟨rfl, rfl, z, rfl⟩)) hd hr)
theorem own_retA (X : Stand p l e R s m args below meth c T locs cells slots) (hx : p.tables.exec = Jvm.exec) (hlk : meth.locks = false) {pc : Nat} {Ls : Array Slot} {w : Value} {rest : List Value} {t : FieldType} (hret : meth.sig.returnType = some t) (ht : t.isReference = true) (hw : w.isRef = true) (hd : decode c.code pc = .ok (.areturn, 1)) (hk : cells ≤ k) (hn : slots ≤ n) (eT : T.heap = h) (hq : Q (some w) h locs) :
    own_Go p.tables e below (own_End s below Q k n) T (mkF m pc Ls (w :: rest)) :=
  own_end X hlk _ (fun q => by rw [hret] at q; cases q) hk hn eT hq (fun fs hr => retOut X hx hret (own_nar hw) (Or.inr (Or.inr (Or.inr (Or.inr ⟨rfl, ht, hw⟩)))) hd hr)
theorem own_retV (X : Stand p l e R s m args below meth c T locs cells slots) (hx : p.tables.exec = Jvm.exec) (hlk : meth.locks = false) {pc : Nat} {Ls : Array Slot} (hret : meth.sig.returnType = none) (hd : decode c.code pc = .ok (.return_, 1)) (hk : cells ≤ k) (hn : slots ≤ n) (eT : T.heap = h) (hq : Q none h locs) :
    own_Go p.tables e below (own_End s below Q k n) T (mkF m pc Ls []) :=
  own_end X hlk _ (fun _ => rfl) hk hn eT hq (fun fs hr => X.returnOut hx hret hd hr)
end OwnEnds
section OwnWords
variable {args : Array Value} {first s : State} {o : Option Outcome} {idx : List Nat} {a b : Jvm.Term}
theorem own_eqI {k : Int32} (h : (Jvm.Cond.eq a b).value args first o s idx = some true) (hb : b.eval args first o idx s = some (.int k)) : a.eval args first o idx s = some (.int k) := by
  cases ha : a.eval args first o idx s with
  | none => simp [Cond.value, ha] at h
  | some x => cases x <;> simp [Cond.value, ha, hb] at h ⊢; exact h
theorem own_eqR {y : Addr} (h : (Jvm.Cond.eq a b).value args first o s idx = some true) (hb : b.eval args first o idx s = some (.ref y)) : a.eval args first o idx s = some (.ref y) := by
  cases ha : a.eval args first o idx s with
  | none => simp [Cond.value, ha] at h
  | some x => cases x <;> simp [Cond.value, ha, hb] at h ⊢; exact h
end OwnWords
theorem own_nei {i j : Int32} (h : i ≠ j) : Value.int i ≠ Value.int j := fun q => h (Value.int.inj q)
theorem own_plE {Z : State} {h : Heap} {a : Addr} {C : String} (F : Exa Z h a C) : ∃ c : Cell, h[a]? = some c ∧ c.vm.isStatics = false := by
  obtain ⟨c, -, h1, -, -, h2, -⟩ := F
  exact ⟨c, h1, h2⟩
theorem own_plV {Z : State} {h : Heap} {a : Addr} {k : ClassId} {ty : FieldType} {n : Int32} {vs : List Value} {d : Value} (F : Arv Z h a k ty n vs d) : ∃ c : Cell, h[a]? = some c ∧ c.vm.isStatics = false := by
  obtain ⟨c, A, -⟩ := F
  exact ⟨c, A.1, A.plain⟩
theorem own_stak {Z : State} {h h' : Heap} {C n d : String} {v : Value} {ws : List Addr} (F : Sta Z h C n d v) (K : Keep h h' ws) (q : ∀ x ∈ ws, ∃ c : Cell, h[x]? = some c ∧ c.vm.isStatics = false) : Sta Z h' C n d v := by
  obtain ⟨cf, i, k, f, st, cell, h1, h2, h3, h4, h5, h6, h7⟩ := F
  refine ⟨cf, i, k, f, st, cell, h1, h2, h3, h4, K.2.1 _ _ h5 (fun m => ?_), h6, h7⟩
  obtain ⟨c, e1, e2⟩ := q _ m
  cases h5.symm.trans e1
  rw [h6] at e2; cases e2
theorem own_nev {Z : State} {h : Heap} {a b : Addr} {C : String} {k : ClassId} {ty : FieldType} {n : Int32} {vs : List Value} {d : Value} {a0 : Array Value} {kk : Nat} (F : Exa Z h a C) (wi : (Jvm.Cond.instantiable C kk).before a0 Z = true) (G : Arv Z h b k ty n vs d) : a ≠ b := by
  obtain ⟨c, A, -⟩ := G
  exact ne_arr F wi A
section OwnArrays
variable {p : Program} {l : Launch} {e : Env} {R : Room} {s : State} {m : MethodId} {args : Array Value} {below : List Frame} {meth : Method} {c : Code} {T : State} {locs : List Loc} {cells slots : Nat} {Z : State} {h : Heap} {a : Addr} {k : ClassId} {ty : FieldType} {n j : Int32} {vs : List Value} {d v : Value} {rest : List Value}
theorem own_aaload (X : Stand p l e R s m args below meth c T locs cells slots) (hx : p.tables.exec = Jvm.exec) (hZ : Z.Warmed39 s.vm) (eT : T.heap = h) (F : Arv Z h a k ty n vs d) (hty : ty.isReference = true) (hj : ¬ j < 0 ∧ j < n) (hv : vs.getD j.toNatClampNeg d = v) {g : JFrame} (hg : g.method = m) (hs : g.stack = .int j :: .ref a :: rest) (hd : decode c.code g.pc = .ok (.aaload, 1)) :
    ∀ target, Steps p.tables e below (T.setTop { g with pc := g.pc + 1, stack := v :: rest }) target → Steps p.tables e below (T.setTop g) target := by
  obtain ⟨cl, A, -, S, -, H, -⟩ := F
  exact X.aaload hx (by rw [eT]; exact A.1) (State.isArrayOf_alike hZ.alike A.2.1) hty A.2.2 (inb_of S hj) (H.at (inb_of S hj) hv) hg hs hd
theorem own_iaload (X : Stand p l e R s m args below meth c T locs cells slots) (hx : p.tables.exec = Jvm.exec) (hZ : Z.Warmed39 s.vm) (eT : T.heap = h) (F : Arv Z h a k .int n vs d) (hj : ¬ j < 0 ∧ j < n) (hv : vs.getD j.toNatClampNeg d = v) {g : JFrame} (hg : g.method = m) (hs : g.stack = .int j :: .ref a :: rest) (hd : decode c.code g.pc = .ok (.iaload, 1)) :
    ∀ target, Steps p.tables e below (T.setTop { g with pc := g.pc + 1, stack := v :: rest }) target → Steps p.tables e below (T.setTop g) target := by
  obtain ⟨cl, A, -, S, -, H, -⟩ := F
  exact X.iaload hx (by rw [eT]; exact A.1) (State.isArrayOf_alike hZ.alike A.2.1) A.2.2 (inb_of S hj) (H.at (inb_of S hj) hv) hg hs hd
theorem own_laload (X : Stand p l e R s m args below meth c T locs cells slots) (hx : p.tables.exec = Jvm.exec) (hZ : Z.Warmed39 s.vm) (eT : T.heap = h) (F : Arv Z h a k .long n vs d) (hj : ¬ j < 0 ∧ j < n) (hv : vs.getD j.toNatClampNeg d = v) {g : JFrame} (hg : g.method = m) (hs : g.stack = .int j :: .ref a :: rest) (hd : decode c.code g.pc = .ok (.laload, 1)) :
    ∀ target, Steps p.tables e below (T.setTop { g with pc := g.pc + 1, stack := v :: rest }) target → Steps p.tables e below (T.setTop g) target := by
  obtain ⟨cl, A, -, S, -, H, -⟩ := F
  exact X.laload hx (by rw [eT]; exact A.1) (State.isArrayOf_alike hZ.alike A.2.1) A.2.2 (inb_of S hj) (H.at (inb_of S hj) hv) hg hs hd
theorem own_baloadB (X : Stand p l e R s m args below meth c T locs cells slots) (hx : p.tables.exec = Jvm.exec) (hZ : Z.Warmed39 s.vm) (eT : T.heap = h) (F : Arv Z h a k .byte n vs d) (hj : ¬ j < 0 ∧ j < n) (hv : vs.getD j.toNatClampNeg d = v) {g : JFrame} (hg : g.method = m) (hs : g.stack = .int j :: .ref a :: rest) (hd : decode c.code g.pc = .ok (.baload, 1)) :
    ∀ target, Steps p.tables e below (T.setTop { g with pc := g.pc + 1, stack := v :: rest }) target → Steps p.tables e below (T.setTop g) target := by
  obtain ⟨cl, A, -, S, -, H, -⟩ := F
  exact X.baloadBytes hx (by rw [eT]; exact A.1) (State.isArrayOf_alike hZ.alike A.2.1) A.2.2 (inb_of S hj) (H.at (inb_of S hj) hv) hg hs hd
theorem own_baloadZ (X : Stand p l e R s m args below meth c T locs cells slots) (hx : p.tables.exec = Jvm.exec) (hZ : Z.Warmed39 s.vm) (eT : T.heap = h) (F : Arv Z h a k .boolean n vs d) (hj : ¬ j < 0 ∧ j < n) (hv : vs.getD j.toNatClampNeg d = v) {g : JFrame} (hg : g.method = m) (hs : g.stack = .int j :: .ref a :: rest) (hd : decode c.code g.pc = .ok (.baload, 1)) :
    ∀ target, Steps p.tables e below (T.setTop { g with pc := g.pc + 1, stack := v :: rest }) target → Steps p.tables e below (T.setTop g) target := by
  obtain ⟨cl, A, -, S, -, H, -⟩ := F
  exact X.baloadBooleans hx (by rw [eT]; exact A.1) (State.isArrayOf_alike hZ.alike A.2.1) A.2.2 (inb_of S hj) (H.at (inb_of S hj) hv) hg hs hd
theorem own_alen (X : Stand p l e R s m args below meth c T locs cells slots) (hx : p.tables.exec = Jvm.exec) (hZ : Z.Warmed39 s.vm) (eT : T.heap = h) (F : Arv Z h a k ty n vs d) {g : JFrame} (hg : g.method = m) (hs : g.stack = .ref a :: rest) (hd : decode c.code g.pc = .ok (.arraylength, 1)) :
    ∀ target, Steps p.tables e below (T.setTop { g with pc := g.pc + 1, stack := .int n :: rest }) target → Steps p.tables e below (T.setTop g) target := by
  obtain ⟨cl, A, -, S, N, -, -⟩ := F
  have q := X.arraylength hx (by rw [eT]; exact A.1) (State.isArrayOf_alike hZ.alike A.2.1) hg hs hd
  rw [len_of S N] at q
  exact q
end OwnArrays
theorem own_psel {Z s : State} {a0 args : Array Value} {y : MethodName} {n : Nat} (hZ : Z.Warmed39 s.vm) (wi : (Jvm.Cond.instantiable y.cls n).before a0 Z = true) (wp : (Jvm.Cond.privateMethod y).before a0 Z = true) (wm : (Jvm.Cond.instanceMethod y).before a0 Z = true) (hy : y.cls ≠ "java/lang/invoke/MethodHandle" ∧ y.cls ≠ "java/lang/invoke/VarHandle") : (Jvm.Cond.selects y.cls y y).before args s = true := by
  have wi' : (Jvm.Cond.instantiable y.cls n).before args s = true := mvT hZ wi
  obtain ⟨c2, k2, i1, i2, -, i4, -⟩ := Cond.instantiable_spec wi'
  simp only [Bool.or_eq_false_iff] at i4
  exact selects_self_of_private i1 i2 i4.1 (Cond.privateMethod_at (mvP hZ wp (args := args))) (mvT hZ wm) hy
section OwnMore
variable {args : Array Value} {s : State} {t u : Jvm.Term} {x y : Addr} {cl : Cell} {ty : FieldType} {n j : Int32}
theorem own_len (h : (Jvm.Cond.eq (Jvm.Term.length t) (Jvm.Term.int n)).value args s none s [] = some true) (ht : t.eval args s none [] s = some (.ref x)) (A : Jvm.RoadKit.Arr s s.heap x cl ty) : cl.slots.size < 2 ^ 31 ∧ cl.slots.size.toInt32 = n := by
  have e := own_eqI h (Term.int_eval _)
  have ha : s.arrayAt? x = some cl := A.fin (Vm.Alike.refl _)
  by_cases hl : cl.slots.size < 2 ^ 31
  · refine ⟨hl, ?_⟩
    rw [len_f ht ha hl] at e
    exact Value.int.inj (Option.some.inj e)
  · simp [Term.eval, ht, ha, hl] at e
theorem own_elem (h : (Jvm.Cond.eq (Jvm.Term.elem t (Jvm.Term.int j)) u).value args s none s [] = some true) (hu : u.eval args s none [] s = some (.ref y)) (ht : t.eval args s none [] s = some (.ref x)) (A : Jvm.RoadKit.Arr s s.heap x cl ty) : cl.slots[j.toNatClampNeg]? = some (.ref y) :=
  (elem_in (own_eqR h hu) ht (Term.int_eval _) A.1).2
end OwnMore
theorem own_sto {Z : State} {h : Heap} {a y : Addr} {k : ClassId} {ty : FieldType} {n : Int32} {vs : List Value} {d : Value} {C : String} (F : Arv Z h a k ty n vs d) (O : Ovr Z k C) (I : Ins Z h y C true) : Sto Z h a (.ref y) := by
  obtain ⟨c, A, q, -⟩ := F
  exact Sto.ofV A q O I
theorem own_cp0 {p : Program} {l : Launch} {e : Env} {R : Room} {s : State} {m : MethodId} {args : Array Value} {below : List Frame} {meth : Method} {c : Code} {T : State} {locs : List Loc} {cells slots : Nat} {Z : State} {h : Heap} {a b : Addr} {k k' : ClassId} {ty ty' : FieldType} {z z' : Int32} {vs vd : List Value} {dv dd : Value}
    (X : Stand p l e R s m args below meth c T locs cells slots) (hx : p.tables.exec = Jvm.exec) (hZ : Z.Warmed39 s.vm) {a0 : Array Value} {own : String} {index : Nat} (hown : s.vm.findClass own = some m.cls)
    (w1 : (Jvm.Cond.methodLink own index Jvm.Stand.acN).before a0 Z = true) (w2 : (Jvm.Cond.native Jvm.Stand.acN).before a0 Z = true) (w3 : (Jvm.Cond.static Jvm.Stand.acN).before a0 Z = true) (w4 : (Jvm.Cond.initialized "java/lang/System").before a0 Z = true) (eT : T.heap = h)
    {sp dp nn : Int32} (A : Arv Z h a k ty z vs dv) (B : Arv Z h b k' ty' z' vd dd) (h0 : nn = 0) (hty : (ty = ty' ∧ refKind ty = false) ∨ (refKind ty = true ∧ refKind ty' = true))
    (h1 : ¬ sp < 0) (h2 : ¬ dp < 0) (h4 : sp.toNatClampNeg ≤ z.toNatClampNeg) (h5 : dp.toNatClampNeg ≤ z'.toNatClampNeg)
    {g : JFrame} (hg : g.method = m) (hsize : g.locals.size = c.maxLocals) {rest : List Value} (hs : g.stack = .int nn :: .int dp :: .ref b :: .int sp :: .ref a :: rest) (hd : decode c.code g.pc = .ok (.invokestatic index, 3))
    (hf : 1 ≤ R.frames) {W : Nat} (hW : 2 * g.monitorRoom + (rest.map fun v => v.category).sum ≤ W) (hlo : W + (nativeFrameWords "java/lang/System" "arraycopy" 5 + 11) ≤ R.locals) :
    ∃ T', Stand p l e R s m args below meth c T' locs cells slots ∧ T'.heap = h ∧ ∀ target, Steps p.tables e below (T'.setTop { g with pc := g.pc + 3, stack := rest }) target → Steps p.tables e below (T.setTop g) target := by
  subst h0
  obtain ⟨cs, As, -, Ss, -, Hs, Gs⟩ := A
  obtain ⟨cd, Ad, qd, Sd, Nd, Hd, Gd⟩ := B
  obtain ⟨os, ks, hks, sc, hsk⟩ := State.isArrayOf_alike hZ.alike As.2.1
  obtain ⟨od, kd, hkd, dc, hdk⟩ := State.isArrayOf_alike hZ.alike Ad.2.1
  have nat : ∀ {x : Int32}, ¬ x < 0 → x.toInt = x.toNatClampNeg := fun {x} q => by
    rw [Int32.lt_iff_toInt_lt] at q; have : (0 : Int32).toInt = 0 := rfl
    simp only [Int32.toNatClampNeg]; omega
  have z0 : (0 : Int32).toInt = 0 := rfl
  obtain ⟨vm₁, hW₁, X', st⟩ := X.arraycopyK (srcPos := sp) (destPos := dp) (n := 0) hx hown (mvT hZ w1) (mvT hZ w2) (mvT hZ w3) (mvT hZ w4) (by rw [eT]; exact As.1) (by rw [eT]; exact Ad.1) os od As.2.2 Ad.2.2 hks hkd hsk hdk
    (by rcases hty with ⟨rfl, r⟩ | ⟨r1, r2⟩; simp [r]; simp [r1, r2]) h1 h2 (by decide) (by rw [nat h1, z0, Ss]; omega) (by rw [nat h2, z0, Sd]; omega) (fun vm₁ hw i hi => absurd hi (Nat.not_lt_zero i)) hg hsize hs hd hf (by omega)
  have ec : copied cs cd sp dp 0 = cd := rfl
  have el : locs ++ copyLocs b dp.toNatClampNeg (0 : Int32).toNatClampNeg = locs := List.append_nil _
  rw [ec] at X' st
  rw [el] at X'
  refine ⟨_, X', ?_, st⟩
  show T.heap.setIfInBounds b cd = h
  rw [eT]
  have hb : b < h.size := Ad.lt
  have hg2 := Ad.1
  apply Array.ext_getElem?
  intro i
  by_cases hi : b = i
  · subst hi; rw [Array.getElem?_setIfInBounds_self_of_lt hb, hg2]
  · rw [Array.getElem?_setIfInBounds_ne hi]
theorem own_nb (x : Int32) : nar .byte (x.toInt8.toInt32) = x.toInt8.toInt32 := by simp [nar]
theorem own_clone {p : Program} {l : Launch} {e : Env} {R : Room} {s : State} {m : MethodId} {args : Array Value} {below : List Frame} {meth : Method} {c : Code} {T : State} {locs : List Loc} {cells slots : Nat} {Z : State} {h : Heap} {a : Addr} {ty : FieldType}
    (X : Stand p l e R s m args below meth c T locs cells slots) (hx : p.tables.exec = Jvm.exec) (hZ : Z.Warmed39 s.vm) {a0 : Array Value} {own ad : String} {index : Nat} (hown : s.vm.findClass own = some m.cls)
    (w1 : (Jvm.Cond.methodLink own index ⟨ad, "clone", "()Ljava/lang/Object;"⟩).before a0 Z = true) (w2 : (Jvm.Cond.sameMethod ad "java/lang/Object" "clone" "()Ljava/lang/Object;").before a0 Z = true) (w3 : (Jvm.Cond.native ⟨"java/lang/Object", "clone", "()Ljava/lang/Object;"⟩).before a0 Z = true)
    (w4 : (Jvm.Cond.instanceMethod ⟨"java/lang/Object", "clone", "()Ljava/lang/Object;"⟩).before a0 Z = true) (w5 : (Jvm.Cond.selects ad ⟨ad, "clone", "()Ljava/lang/Object;"⟩ ⟨"java/lang/Object", "clone", "()Ljava/lang/Object;"⟩).before a0 Z = true) (w6 : (Jvm.Cond.castable ad "java/lang/Cloneable").before a0 Z = true)
    (eT : T.heap = h) {k : ClassId} {z : Int32} {vs : List Value} {dv : Value} (F : Arv Z h a k ty z vs dv) (E : Exa Z h a ad) {g : JFrame} (hg : g.method = m) (hsize : g.locals.size = c.maxLocals) {rest : List Value} (hst : g.stack = .ref a :: rest) (hd : decode c.code g.pc = .ok (.invokevirtual index, 3))
    (hf : 1 ≤ R.frames) {W cap : Nat} (hW : 2 * g.monitorRoom + (rest.map fun v => v.category).sum ≤ W) (hl : W + 14 ≤ R.locals) (hcap : z.toNatClampNeg ≤ cap) (hc : cells + 1 ≤ R.cells) (hsl : slots + cap ≤ R.slots) :
    ∃ T' h', Stand p l e R s m args below meth c T' locs (cells + 1) (slots + cap) ∧ T'.heap = h' ∧ Ext h h' ∧ Arv Z h' h.size k ty z vs dv ∧ Exa Z h' h.size ad ∧
      ∀ target, Steps p.tables e below (T'.setTop { g with pc := g.pc + 3, stack := .ref h.size :: rest }) target → Steps p.tables e below (T.setTop g) target := by
  obtain ⟨cl, A, q1, S, q3, H, G⟩ := F
  have FC : FitC Z cl := fitC_of A fun i hi v hv => by rw [H i hi] at hv; cases hv; exact G i hi
  obtain ⟨T', h', X', e', ex, A', E', st⟩ := cloneA X hx hZ hown w1 w2 w3 w4 w5 w6 eT A E FC hg hsize hst hd hf hW hl (by rw [S]; exact hcap) hc hsl
  exact ⟨T', h', X', e', ex, ⟨cloneOf cl, A', q1, S, q3, H, G⟩, E', st⟩
theorem own_d1_0 : decode prog_47_method_1_code 0 = .ok (.aload_n 0, 1) := by decide +kernel
theorem own_d1_1 : decode prog_47_method_1_code 1 = .ok (.invokespecial 1, 3) := by decide +kernel
theorem own_d1_4 : decode prog_47_method_1_code 4 = .ok (.aload_n 0, 1) := by decide +kernel
theorem own_d1_5 : decode prog_47_method_1_code 5 = .ok (.getstatic 7, 3) := by decide +kernel
theorem own_d1_8 : decode prog_47_method_1_code 8 = .ok (.putfield 13, 3) := by decide +kernel
theorem own_d1_11 : decode prog_47_method_1_code 11 = .ok (.return_, 1) := by decide +kernel
theorem own_ef1 (m : MethodId) (x0 : Addr) : entryFrame m #[(.ref x0)] 1 = mkF m 0 #[.val (.ref x0)] [] := by first | (simp [entryFrame, mkF, argsToLocals, Value.category]; done) | rfl
theorem own_pn0 : plainName "com/example/backchannel/backchannel/server/ByteQueue" = true := by first | (simp [plainName, overriddenIn]; done) | decide +kernel
def own_Q1_2 (Z : State) (b9 : Addr) (w_NONE : Addr) (h0 : Heap) (n0 : Nat) (v : Option Value) (h : Heap) (L : List Loc) : Prop := Fr n0 L ∧ Keep h0 h [b9] ∧ ((v = none ∧ Fld Z h b9 "com/example/backchannel/backchannel/server/ByteQueue" "bytes" "[B" (.ref w_NONE) ∧ Fld Z h b9 "com/example/backchannel/backchannel/server/ByteQueue" "end" "I" (.int (0 : Int32)) ∧ Fld Z h b9 "com/example/backchannel/backchannel/server/ByteQueue" "start" "I" (.int (0 : Int32)) ∧ True))
set_option maxRecDepth 65536 in
set_option maxHeartbeats 40000000 in
theorem own_rm1_2 (l : Launch) (Z : State) (a0 : Array Value) (hw : ∀ d ∈ tables_1, d.before a0 Z = true) (ws : List Jvm.Cond) (b9 : Addr) (w_NONE : Addr) (h0 : Heap) (n0 : Nat) (Z0 : n0 ≤ h0.size) (P0 : Sta Z h0 "com/example/backchannel/backchannel/server/ByteQueue" "NONE" "[B" (.ref w_NONE)) (P1 : Exa Z h0 b9 "com/example/backchannel/backchannel/server/ByteQueue") (P2 : Fld Z h0 b9 "com/example/backchannel/backchannel/server/ByteQueue" "bytes" "[B" .null) (g_b9 : n0 ≤ b9) (P4 : Fld Z h0 b9 "com/example/backchannel/backchannel/server/ByteQueue" "end" "I" (.int (0 : Int32))) (P5 : Fld Z h0 b9 "com/example/backchannel/backchannel/server/ByteQueue" "start" "I" (.int (0 : Int32))) :
    MetFree l (⟨"com/example/backchannel/backchannel/server/ByteQueue", "<init>", "()V"⟩ : MethodName) (head1 (Jvm.Cond.code (⟨"com/example/backchannel/backchannel/server/ByteQueue", "<init>", "()V"⟩ : MethodName) prog_47_method_1_code 1 none :: ws) ({ frames := 1, cells := 0, slots := 0, locals := 12 } : Room)) (fun a U => a = #[(.ref b9)] ∧ Z.Warmed39 U.vm ∧ U.heap = h0) (fun _ _ _ _ _ => True) (fun _ U o U' => ∃ v L, o = .returned v ∧ own_Q1_2 Z b9 w_NONE h0 n0 v U'.heap L ∧ FrameEnd U o U' L ({ frames := 1, cells := 0, slots := 0, locals := 12 } : Room).cells ({ frames := 1, cells := 0, slots := 0, locals := 12 } : Room).slots) := by
  refine MetFree.of_bodySF (plainFor_of_name own_pn0) hisR ?_
  intro p e s m args below meth c s₁ Bd hml0 hP hK
  obtain ⟨rfl, hZ, hh⟩ := hP
  have hx := Bd.exec
  have hlk := Bd.notSynchronized
  have hret := Bd.returns
  have hby := Bd.bytes
  have hml : c.maxLocals = 1 := hml0
  have hown : s.vm.findClass "com/example/backchannel/backchannel/server/ByteQueue" = some m.cls := findClass_of_methodNamed Bd.named
  have hnm := (name_of_methodNamed Bd.named Bd.method).1
  have X0 : Stand p l e ({ frames := 1, cells := 0, slots := 0, locals := 12 } : Room) s m #[(.ref b9)] below meth c s₁ [] 0 0 := Stand.of_body Bd
  have e0 : s₁.heap = h0 := by rw [← hh, Bd.state]; rfl
  have N0 := Fr.nil n0
  refine own_open (Q := own_Q1_2 Z b9 w_NONE h0 n0) (own_ef1 m b9) ?_
  show own_Go _ _ _ _ s₁ (mkF m 0 #[.val (.ref b9)] [])
  refine own_st (fun t k => XS.aloadN X0.here hx rfl (hb hby own_d1_0) rfl rfl k) ?_
  show own_Go _ _ _ _ s₁ (mkF m 1 #[.val (.ref b9)] [(.ref b9)])
  obtain ⟨T1, X1, e1, st1⟩ := initO X0 hx hZ hown (own_w hw 7 rfl) (own_w hw 8 rfl) (own_w hw 9 rfl) e0 (g := (mkF m 1 #[.val (.ref b9)] [(.ref b9)])) rfl (by rw [hml]; rfl) rfl (hb hby own_d1_1) (by decide) (W := 0) (by show 2 * 0 + _ ≤ _; exact Nat.le_of_eq rfl) (by decide)
  refine own_st st1 ?_
  show own_Go _ _ _ _ T1 (mkF m 4 #[.val (.ref b9)] [])
  refine own_st (fun t k => XS.aloadN X1.here hx rfl (hb hby own_d1_4) rfl rfl k) ?_
  show own_Go _ _ _ _ T1 (mkF m 5 #[.val (.ref b9)] [(.ref b9)])
  obtain ⟨T2, X2, e2, st2⟩ := getS2 X1 hx hZ hown (host := "") (Or.inl (own_w hw 10 rfl)) Via.refl e1 P0 (g := (mkF m 5 #[.val (.ref b9)] [(.ref b9)])) rfl (hb hby own_d1_5)
  refine own_st st2 ?_
  show own_Go _ _ _ _ T2 (mkF m 8 #[.val (.ref b9)] [(.ref w_NONE), (.ref b9)])
  obtain ⟨T3, h3, X3, e3, W3, st3⟩ := putF X2 hx hZ hown (host := "") (Or.inl (own_w hw 12 rfl)) Via.refl e2 P2 P1 (Or.inl (own_w hw 13 rfl)) (own_w hw 2 rfl) (ty := (.array .byte)) (by decide) rfl rfl (g := (mkF m 8 #[.val (.ref b9)] [(.ref w_NONE), (.ref b9)])) rfl rfl (hb hby own_d1_8)
  refine own_st st3 ?_
  have K3 : Keep h0 h3 [b9] := (Keep.refl h0 [b9]).wr W3 (Or.inl (List.mem_of_getElem? (i := 0) rfl))
  have Z3 := Nat.le_trans Z0 (Keep.of_wr W3).1
  have N3 := Fr.snoc X3 N0 g_b9
  have F3 := P2.same W3
  show own_Go _ _ _ _ T3 (mkF m 11 #[.val (.ref b9)] [])
  have f4 := (P4.other W3 (Or.inr (slot_ne (Or.inl (own_w hw 24 rfl)) (Or.inl (own_w hw 13 rfl)) (by decide) (t := .int) (t' := (.array .byte)) (by decide) (by decide))))
  have f5 := (P5.other W3 (Or.inr (slot_ne (Or.inl (own_w hw 31 rfl)) (Or.inl (own_w hw 13 rfl)) (by decide) (t := .int) (t' := (.array .byte)) (by decide) (by decide))))
  exact own_retV X3 hx hlk hret (hb hby own_d1_11) (by decide) (by decide) e3 ⟨N3, K3, ⟨rfl, F3, f4, f5, trivial⟩⟩
theorem own_pd0 : parseMethodDescriptor "()V" = some ⟨[], none⟩ := by decide +kernel
theorem own_d5_0 : decode prog_47_method_2_code 0 = .ok (.aload_n 0, 1) := by decide +kernel
theorem own_d5_1 : decode prog_47_method_2_code 1 = .ok (.getfield 16, 3) := by decide +kernel
theorem own_d5_4 : decode prog_47_method_2_code 4 = .ok (.aload_n 0, 1) := by decide +kernel
theorem own_d5_5 : decode prog_47_method_2_code 5 = .ok (.getfield 20, 3) := by decide +kernel
theorem own_d5_8 : decode prog_47_method_2_code 8 = .ok (.isub, 1) := by decide +kernel
theorem own_d5_9 : decode prog_47_method_2_code 9 = .ok (.ireturn, 1) := by decide +kernel
theorem own_ef5 (m : MethodId) (x0 : Addr) : entryFrame m #[(.ref x0)] 1 = mkF m 0 #[.val (.ref x0)] [] := by first | (simp [entryFrame, mkF, argsToLocals, Value.category]; done) | rfl
def own_Q5 (rp0 : Addr) (u_end_rp0 : Int32) (u_start_rp0 : Int32) (h0 : Heap) (n0 : Nat) (v : Option Value) (h : Heap) (L : List Loc) : Prop := Fr n0 L ∧ h = h0 ∧ ((v = some (.int (u_end_rp0 - u_start_rp0)) ∧ True))
set_option maxRecDepth 65536 in
set_option maxHeartbeats 40000000 in
theorem own_rm5 (l : Launch) (Z : State) (a0 : Array Value) (hw : ∀ d ∈ tables_1, d.before a0 Z = true) (ws : List Jvm.Cond) (rp0 : Addr) (u_end_rp0 : Int32) (u_start_rp0 : Int32) (h0 : Heap) (n0 : Nat) (Z0 : n0 ≤ h0.size) (F_end_rp0 : Fld Z h0 rp0 "com/example/backchannel/backchannel/server/ByteQueue" "end" "I" (.int u_end_rp0)) (F_start_rp0 : Fld Z h0 rp0 "com/example/backchannel/backchannel/server/ByteQueue" "start" "I" (.int u_start_rp0)) :
    MetFree l (⟨"com/example/backchannel/backchannel/server/ByteQueue", "size", "()I"⟩ : MethodName) (head1 (Jvm.Cond.code (⟨"com/example/backchannel/backchannel/server/ByteQueue", "size", "()I"⟩ : MethodName) prog_47_method_2_code 1 (some .int) :: ws) ({ frames := 0, cells := 0, slots := 0, locals := 0 } : Room)) (fun a U => a = #[(.ref rp0)] ∧ Z.Warmed39 U.vm ∧ U.heap = h0) (fun _ _ _ _ _ => True) (fun _ U o U' => ∃ v L, o = .returned v ∧ own_Q5 rp0 u_end_rp0 u_start_rp0 h0 n0 v U'.heap L ∧ FrameEnd U o U' L ({ frames := 0, cells := 0, slots := 0, locals := 0 } : Room).cells ({ frames := 0, cells := 0, slots := 0, locals := 0 } : Room).slots) := by
  refine MetFree.of_bodySF (plainFor_of_name own_pn0) hisR ?_
  intro p e s m args below meth c s₁ Bd hml0 hP hK
  obtain ⟨rfl, hZ, hh⟩ := hP
  have hx := Bd.exec
  have hlk := Bd.notSynchronized
  have hret := Bd.returns
  have hby := Bd.bytes
  have hml : c.maxLocals = 1 := hml0
  have hown : s.vm.findClass "com/example/backchannel/backchannel/server/ByteQueue" = some m.cls := findClass_of_methodNamed Bd.named
  have hnm := (name_of_methodNamed Bd.named Bd.method).1
  have X0 : Stand p l e ({ frames := 0, cells := 0, slots := 0, locals := 0 } : Room) s m #[(.ref rp0)] below meth c s₁ [] 0 0 := Stand.of_body Bd
  have e0 : s₁.heap = h0 := by rw [← hh, Bd.state]; rfl
  have N0 := Fr.nil n0
  refine own_open (Q := own_Q5 rp0 u_end_rp0 u_start_rp0 h0 n0) (own_ef5 m rp0) ?_
  show own_Go _ _ _ _ s₁ (mkF m 0 #[.val (.ref rp0)] [])
  refine own_st (fun t k => XS.aloadN X0.here hx rfl (hb hby own_d5_0) rfl rfl k) ?_
  show own_Go _ _ _ _ s₁ (mkF m 1 #[.val (.ref rp0)] [(.ref rp0)])
  obtain ⟨T1, X1, e1, st1⟩ := getF X0 hx hZ hown (host := "") (Or.inl (own_w hw 23 rfl)) Via.refl e0 F_end_rp0 (g := (mkF m 1 #[.val (.ref rp0)] [(.ref rp0)])) rfl rfl (hb hby own_d5_1)
  refine own_st st1 ?_
  show own_Go _ _ _ _ T1 (mkF m 4 #[.val (.ref rp0)] [(.int u_end_rp0)])
  refine own_st (fun t k => XS.aloadN X1.here hx rfl (hb hby own_d5_4) rfl rfl k) ?_
  show own_Go _ _ _ _ T1 (mkF m 5 #[.val (.ref rp0)] [(.ref rp0), (.int u_end_rp0)])
  obtain ⟨T2, X2, e2, st2⟩ := getF X1 hx hZ hown (host := "") (Or.inl (own_w hw 30 rfl)) Via.refl e1 F_start_rp0 (g := (mkF m 5 #[.val (.ref rp0)] [(.ref rp0), (.int u_end_rp0)])) rfl rfl (hb hby own_d5_5)
  refine own_st st2 ?_
  show own_Go _ _ _ _ T2 (mkF m 8 #[.val (.ref rp0)] [(.int u_start_rp0), (.int u_end_rp0)])
  refine own_st (fun t k => XS.isub X2.here hx rfl (hb hby own_d5_8) rfl k) ?_
  show own_Go _ _ _ _ T2 (mkF m 9 #[.val (.ref rp0)] [(.int (u_end_rp0 - u_start_rp0))])
  exact own_retI X2 hx hlk hret (hb hby own_d5_9) (by decide) (by decide) e2 ⟨N0, rfl, ⟨rfl, trivial⟩⟩
theorem own_pd1 : parseMethodDescriptor "()I" = some ⟨[], some .int⟩ := by decide +kernel
theorem own_d6_0 : decode jdk_29_method_65_code 0 = .ok (.iload_n 0, 1) := by decide +kernel
theorem own_d6_1 : decode jdk_29_method_65_code 1 = .ok (.iload_n 1, 1) := by decide +kernel
theorem own_d6_2 : decode jdk_29_method_65_code 2 = .ok (.if_icmp .lt 7, 3) := by decide +kernel
theorem own_d6_5 : decode jdk_29_method_65_code 5 = .ok (.iload_n 0, 1) := by decide +kernel
theorem own_d6_6 : decode jdk_29_method_65_code 6 = .ok (.goto 4, 3) := by decide +kernel
theorem own_d6_9 : decode jdk_29_method_65_code 9 = .ok (.iload_n 1, 1) := by decide +kernel
theorem own_d6_10 : decode jdk_29_method_65_code 10 = .ok (.ireturn, 1) := by decide +kernel
theorem own_ef6 (m : MethodId) (x0 : Int32) (x1 : Int32) : entryFrame m #[(.int x0), (.int x1)] 2 = mkF m 0 #[.val (.int x0), .val (.int x1)] [] := by first | (simp [entryFrame, mkF, argsToLocals, Value.category]; done) | rfl
def own_Q6 (ip0 : Int32) (ip1 : Int32) (h0 : Heap) (n0 : Nat) (v : Option Value) (h : Heap) (L : List Loc) : Prop := Fr n0 L ∧ h = h0 ∧ ((v = some (.int ip1) ∧ (ip0 < ip1) ∧ True) ∨ (v = some (.int ip0) ∧ (¬ (ip0 < ip1)) ∧ True))
set_option maxRecDepth 65536 in
set_option maxHeartbeats 40000000 in
theorem own_rm6 (l : Launch) (Z : State) (a0 : Array Value) (hw : ∀ d ∈ tables_1, d.before a0 Z = true) (ws : List Jvm.Cond) (ip0 : Int32) (ip1 : Int32) (h0 : Heap) (n0 : Nat) (Z0 : n0 ≤ h0.size) :
    MetFree l (⟨"java/lang/Math", "max", "(II)I"⟩ : MethodName) (head1 (Jvm.Cond.code (⟨"java/lang/Math", "max", "(II)I"⟩ : MethodName) jdk_29_method_65_code 2 (some .int) :: ws) ({ frames := 0, cells := 0, slots := 0, locals := 0 } : Room)) (fun a U => a = #[(.int ip0), (.int ip1)] ∧ Z.Warmed39 U.vm ∧ U.heap = h0) (fun _ _ _ _ _ => True) (fun _ U o U' => ∃ v L, o = .returned v ∧ own_Q6 ip0 ip1 h0 n0 v U'.heap L ∧ FrameEnd U o U' L ({ frames := 0, cells := 0, slots := 0, locals := 0 } : Room).cells ({ frames := 0, cells := 0, slots := 0, locals := 0 } : Room).slots) := by
  refine MetFree.of_bodySF (Jvm.Free.JP.mathPlain rfl (by decide +kernel)) hisR ?_
  intro p e s m args below meth c s₁ Bd hml0 hP hK
  obtain ⟨rfl, hZ, hh⟩ := hP
  have hx := Bd.exec
  have hlk := Bd.notSynchronized
  have hret := Bd.returns
  have hby := Bd.bytes
  have hml : c.maxLocals = 2 := hml0
  have hown : s.vm.findClass "java/lang/Math" = some m.cls := findClass_of_methodNamed Bd.named
  have hnm := (name_of_methodNamed Bd.named Bd.method).1
  have X0 : Stand p l e ({ frames := 0, cells := 0, slots := 0, locals := 0 } : Room) s m #[(.int ip0), (.int ip1)] below meth c s₁ [] 0 0 := Stand.of_body Bd
  have e0 : s₁.heap = h0 := by rw [← hh, Bd.state]; rfl
  have N0 := Fr.nil n0
  refine own_open (Q := own_Q6 ip0 ip1 h0 n0) (own_ef6 m ip0 ip1) ?_
  show own_Go _ _ _ _ s₁ (mkF m 0 #[.val (.int ip0), .val (.int ip1)] [])
  refine own_st (fun t k => XS.iloadN X0.here hx rfl (hb hby own_d6_0) rfl k) ?_
  show own_Go _ _ _ _ s₁ (mkF m 1 #[.val (.int ip0), .val (.int ip1)] [(.int ip0)])
  refine own_st (fun t k => XS.iloadN X0.here hx rfl (hb hby own_d6_1) rfl k) ?_
  show own_Go _ _ _ _ s₁ (mkF m 2 #[.val (.int ip0), .val (.int ip1)] [(.int ip1), (.int ip0)])
  by_cases hc1 : ip0 < ip1
  · skip
    refine own_st (fun t k => XS.icmpYes X0.here hx rfl (pc0 := 2) (pc' := 9) rfl (hb hby own_d6_2) rfl (tlt hc1).1 (by decide) (by decide) k) ?_
    show own_Go _ _ _ _ s₁ (mkF m 9 #[.val (.int ip0), .val (.int ip1)] [])
    refine own_st (fun t k => XS.iloadN X0.here hx rfl (hb hby own_d6_9) rfl k) ?_
    show own_Go _ _ _ _ s₁ (mkF m 10 #[.val (.int ip0), .val (.int ip1)] [(.int ip1)])
    exact own_retI X0 hx hlk hret (hb hby own_d6_10) (by decide) (by decide) e0 ⟨N0, rfl, (Or.inl ⟨rfl, hc1, trivial⟩)⟩
  · skip
    refine own_st (fun t k => XS.icmpNo X0.here hx rfl (hb hby own_d6_2) rfl (flt hc1).1 k) ?_
    show own_Go _ _ _ _ s₁ (mkF m 5 #[.val (.int ip0), .val (.int ip1)] [])
    refine own_st (fun t k => XS.iloadN X0.here hx rfl (hb hby own_d6_5) rfl k) ?_
    show own_Go _ _ _ _ s₁ (mkF m 6 #[.val (.int ip0), .val (.int ip1)] [(.int ip0)])
    refine own_st (fun t k => XS.goto X0.here hx rfl (pc0 := 6) (pc' := 10) rfl (hb hby own_d6_6) (by decide) (by decide) k) ?_
    show own_Go _ _ _ _ s₁ (mkF m 10 #[.val (.int ip0), .val (.int ip1)] [(.int ip0)])
    exact own_retI X0 hx hlk hret (hb hby own_d6_10) (by decide) (by decide) e0 ⟨N0, rfl, (Or.inr ⟨rfl, hc1, trivial⟩)⟩
theorem own_pd2 : parseMethodDescriptor "(II)I" = some ⟨[.int, .int], some .int⟩ := by decide +kernel
theorem own_d4_0 : decode prog_47_method_12_code 0 = .ok (.aload_n 0, 1) := by decide +kernel
theorem own_d4_1 : decode prog_47_method_12_code 1 = .ok (.getfield 13, 3) := by decide +kernel
theorem own_d4_4 : decode prog_47_method_12_code 4 = .ok (.arraylength, 1) := by decide +kernel
theorem own_d4_5 : decode prog_47_method_12_code 5 = .ok (.aload_n 0, 1) := by decide +kernel
theorem own_d4_6 : decode prog_47_method_12_code 6 = .ok (.getfield 16, 3) := by decide +kernel
theorem own_d4_9 : decode prog_47_method_12_code 9 = .ok (.isub, 1) := by decide +kernel
theorem own_d4_10 : decode prog_47_method_12_code 10 = .ok (.iload_n 1, 1) := by decide +kernel
theorem own_d4_11 : decode prog_47_method_12_code 11 = .ok (.if_icmp .lt 4, 3) := by decide +kernel
theorem own_d4_15 : decode prog_47_method_12_code 15 = .ok (.aload_n 0, 1) := by decide +kernel
theorem own_d4_16 : decode prog_47_method_12_code 16 = .ok (.invokevirtual 23, 3) := by decide +kernel
theorem own_d4_19 : decode prog_47_method_12_code 19 = .ok (.istore_n 2, 1) := by decide +kernel
theorem own_d4_20 : decode prog_47_method_12_code 20 = .ok (.iload_n 2, 1) := by decide +kernel
theorem own_d4_21 : decode prog_47_method_12_code 21 = .ok (.iload_n 1, 1) := by decide +kernel
theorem own_d4_22 : decode prog_47_method_12_code 22 = .ok (.iadd, 1) := by decide +kernel
theorem own_d4_23 : decode prog_47_method_12_code 23 = .ok (.istore_n 3, 1) := by decide +kernel
theorem own_d4_24 : decode prog_47_method_12_code 24 = .ok (.aload_n 0, 1) := by decide +kernel
theorem own_d4_25 : decode prog_47_method_12_code 25 = .ok (.getfield 13, 3) := by decide +kernel
theorem own_d4_28 : decode prog_47_method_12_code 28 = .ok (.astore 4, 2) := by decide +kernel
theorem own_d4_30 : decode prog_47_method_12_code 30 = .ok (.aload_n 0, 1) := by decide +kernel
theorem own_d4_31 : decode prog_47_method_12_code 31 = .ok (.getfield 13, 3) := by decide +kernel
theorem own_d4_34 : decode prog_47_method_12_code 34 = .ok (.arraylength, 1) := by decide +kernel
theorem own_d4_35 : decode prog_47_method_12_code 35 = .ok (.iload_n 3, 1) := by decide +kernel
theorem own_d4_36 : decode prog_47_method_12_code 36 = .ok (.if_icmp .ge 37, 3) := by decide +kernel
theorem own_d4_39 : decode prog_47_method_12_code 39 = .ok (.sipush 512, 3) := by decide +kernel
theorem own_d4_42 : decode prog_47_method_12_code 42 = .ok (.aload_n 0, 1) := by decide +kernel
theorem own_d4_43 : decode prog_47_method_12_code 43 = .ok (.getfield 13, 3) := by decide +kernel
theorem own_d4_46 : decode prog_47_method_12_code 46 = .ok (.arraylength, 1) := by decide +kernel
theorem own_d4_47 : decode prog_47_method_12_code 47 = .ok (.invokestatic 78, 3) := by decide +kernel
theorem own_d4_50 : decode prog_47_method_12_code 50 = .ok (.istore 5, 2) := by decide +kernel
theorem own_d4_52 : decode prog_47_method_12_code 52 = .ok (.iload 5, 2) := by decide +kernel
theorem own_d4_54 : decode prog_47_method_12_code 54 = .ok (.iload_n 3, 1) := by decide +kernel
theorem own_d4_55 : decode prog_47_method_12_code 55 = .ok (.if_icmp .ge 12, 3) := by decide +kernel
theorem own_d4_67 : decode prog_47_method_12_code 67 = .ok (.iload 5, 2) := by decide +kernel
theorem own_d4_69 : decode prog_47_method_12_code 69 = .ok (.newarray .byte, 2) := by decide +kernel
theorem own_d4_71 : decode prog_47_method_12_code 71 = .ok (.astore 4, 2) := by decide +kernel
theorem own_d4_73 : decode prog_47_method_12_code 73 = .ok (.aload_n 0, 1) := by decide +kernel
theorem own_d4_74 : decode prog_47_method_12_code 74 = .ok (.getfield 13, 3) := by decide +kernel
theorem own_d4_77 : decode prog_47_method_12_code 77 = .ok (.aload_n 0, 1) := by decide +kernel
theorem own_d4_78 : decode prog_47_method_12_code 78 = .ok (.getfield 20, 3) := by decide +kernel
theorem own_d4_81 : decode prog_47_method_12_code 81 = .ok (.aload 4, 2) := by decide +kernel
theorem own_d4_83 : decode prog_47_method_12_code 83 = .ok (.iconst 0, 1) := by decide +kernel
theorem own_d4_84 : decode prog_47_method_12_code 84 = .ok (.iload_n 2, 1) := by decide +kernel
theorem own_d4_85 : decode prog_47_method_12_code 85 = .ok (.invokestatic 50, 3) := by decide +kernel
theorem own_d4_88 : decode prog_47_method_12_code 88 = .ok (.aload_n 0, 1) := by decide +kernel
theorem own_d4_89 : decode prog_47_method_12_code 89 = .ok (.aload 4, 2) := by decide +kernel
theorem own_d4_91 : decode prog_47_method_12_code 91 = .ok (.putfield 13, 3) := by decide +kernel
theorem own_d4_94 : decode prog_47_method_12_code 94 = .ok (.aload_n 0, 1) := by decide +kernel
theorem own_d4_95 : decode prog_47_method_12_code 95 = .ok (.iconst 0, 1) := by decide +kernel
theorem own_d4_96 : decode prog_47_method_12_code 96 = .ok (.putfield 20, 3) := by decide +kernel
theorem own_d4_99 : decode prog_47_method_12_code 99 = .ok (.aload_n 0, 1) := by decide +kernel
theorem own_d4_100 : decode prog_47_method_12_code 100 = .ok (.iload_n 2, 1) := by decide +kernel
theorem own_d4_101 : decode prog_47_method_12_code 101 = .ok (.putfield 16, 3) := by decide +kernel
theorem own_d4_104 : decode prog_47_method_12_code 104 = .ok (.return_, 1) := by decide +kernel
theorem own_ef4 (m : MethodId) (x0 : Addr) (x1 : Int32) : entryFrame m #[(.ref x0), (.int x1)] 6 = mkF m 0 #[.val (.ref x0), .val (.int x1), .unset, .unset, .unset, .unset] [] := by first | (simp [entryFrame, mkF, argsToLocals, Value.category]; done) | rfl
def own_Q4_8 (Z : State) (b9 : Addr) (w_NONE : Addr) (k_w_NONE : ClassId) (h0 : Heap) (n0 : Nat) (v : Option Value) (h : Heap) (L : List Loc) : Prop := Fr n0 L ∧ Keep h0 h [b9] ∧ ((∃ b8x4_8 : Addr, ∃ k8x4_8 : ClassId, v = none ∧ (¬ ((512 : Int32) < (0 : Int32))) ∧ h0.size ≤ b8x4_8 ∧ Fld Z h b9 "com/example/backchannel/backchannel/server/ByteQueue" "bytes" "[B" (.ref b8x4_8) ∧ Fld Z h b9 "com/example/backchannel/backchannel/server/ByteQueue" "end" "I" (.int ((0 : Int32) - (0 : Int32))) ∧ Fld Z h b9 "com/example/backchannel/backchannel/server/ByteQueue" "start" "I" (.int (0 : Int32)) ∧ Arv Z h b8x4_8 k8x4_8 .byte (512 : Int32) [] (.int (0 : Int32)) ∧ Exa Z h b8x4_8 "[B" ∧ True))
set_option maxRecDepth 65536 in
set_option maxHeartbeats 40000000 in
theorem own_rm4_8 (l : Launch) (Z : State) (a0 : Array Value) (hw : ∀ d ∈ tables_1, d.before a0 Z = true) (ws : List Jvm.Cond) (b9 : Addr) (w_NONE : Addr) (k_w_NONE : ClassId) (h0 : Heap) (n0 : Nat) (Z0 : n0 ≤ h0.size) (P0 : Fld Z h0 b9 "com/example/backchannel/backchannel/server/ByteQueue" "bytes" "[B" (.ref w_NONE)) (P1 : Arv Z h0 w_NONE k_w_NONE .byte (0 : Int32) [] (.int (0 : Int32))) (P2 : Fld Z h0 b9 "com/example/backchannel/backchannel/server/ByteQueue" "end" "I" (.int (0 : Int32))) (P3 : Fld Z h0 b9 "com/example/backchannel/backchannel/server/ByteQueue" "start" "I" (.int (0 : Int32))) (P4 : Exa Z h0 b9 "com/example/backchannel/backchannel/server/ByteQueue") (g_b9 : n0 ≤ b9) :
    MetFree l (⟨"com/example/backchannel/backchannel/server/ByteQueue", "room", "(I)V"⟩ : MethodName) (head1 (Jvm.Cond.code (⟨"com/example/backchannel/backchannel/server/ByteQueue", "room", "(I)V"⟩ : MethodName) prog_47_method_12_code 6 none :: ws) ({ frames := 1, cells := 1, slots := 512, locals := 18 } : Room)) (fun a U => a = #[(.ref b9), (.int (3 : Int32))] ∧ Z.Warmed39 U.vm ∧ U.heap = h0) (fun _ _ _ _ _ => True) (fun _ U o U' => ∃ v L, o = .returned v ∧ own_Q4_8 Z b9 w_NONE k_w_NONE h0 n0 v U'.heap L ∧ FrameEnd U o U' L ({ frames := 1, cells := 1, slots := 512, locals := 18 } : Room).cells ({ frames := 1, cells := 1, slots := 512, locals := 18 } : Room).slots) := by
  refine MetFree.of_bodySF (plainFor_of_name own_pn0) hisR ?_
  intro p e s m args below meth c s₁ Bd hml0 hP hK
  obtain ⟨rfl, hZ, hh⟩ := hP
  have hx := Bd.exec
  have hlk := Bd.notSynchronized
  have hret := Bd.returns
  have hby := Bd.bytes
  have hml : c.maxLocals = 6 := hml0
  have hown : s.vm.findClass "com/example/backchannel/backchannel/server/ByteQueue" = some m.cls := findClass_of_methodNamed Bd.named
  have hnm := (name_of_methodNamed Bd.named Bd.method).1
  have X0 : Stand p l e ({ frames := 1, cells := 1, slots := 512, locals := 18 } : Room) s m #[(.ref b9), (.int (3 : Int32))] below meth c s₁ [] 0 0 := Stand.of_body Bd
  have e0 : s₁.heap = h0 := by rw [← hh, Bd.state]; rfl
  have N0 := Fr.nil n0
  refine own_open (Q := own_Q4_8 Z b9 w_NONE k_w_NONE h0 n0) (own_ef4 m b9 (3 : Int32)) ?_
  show own_Go _ _ _ _ s₁ (mkF m 0 #[.val (.ref b9), .val (.int (3 : Int32)), .unset, .unset, .unset, .unset] [])
  refine own_st (fun t k => XS.aloadN X0.here hx rfl (hb hby own_d4_0) rfl rfl k) ?_
  show own_Go _ _ _ _ s₁ (mkF m 1 #[.val (.ref b9), .val (.int (3 : Int32)), .unset, .unset, .unset, .unset] [(.ref b9)])
  obtain ⟨T1, X1, e1, st1⟩ := getF X0 hx hZ hown (host := "") (Or.inl (own_w hw 12 rfl)) Via.refl e0 P0 (g := (mkF m 1 #[.val (.ref b9), .val (.int (3 : Int32)), .unset, .unset, .unset, .unset] [(.ref b9)])) rfl rfl (hb hby own_d4_1)
  refine own_st st1 ?_
  show own_Go _ _ _ _ T1 (mkF m 4 #[.val (.ref b9), .val (.int (3 : Int32)), .unset, .unset, .unset, .unset] [(.ref w_NONE)])
  refine own_st (own_alen X1 hx hZ e1 P1 (g := (mkF m 4 #[.val (.ref b9), .val (.int (3 : Int32)), .unset, .unset, .unset, .unset] [(.ref w_NONE)])) rfl rfl (hb hby own_d4_4)) ?_
  show own_Go _ _ _ _ T1 (mkF m 5 #[.val (.ref b9), .val (.int (3 : Int32)), .unset, .unset, .unset, .unset] [(.int (0 : Int32))])
  refine own_st (fun t k => XS.aloadN X1.here hx rfl (hb hby own_d4_5) rfl rfl k) ?_
  show own_Go _ _ _ _ T1 (mkF m 6 #[.val (.ref b9), .val (.int (3 : Int32)), .unset, .unset, .unset, .unset] [(.ref b9), (.int (0 : Int32))])
  obtain ⟨T2, X2, e2, st2⟩ := getF X1 hx hZ hown (host := "") (Or.inl (own_w hw 23 rfl)) Via.refl e1 P2 (g := (mkF m 6 #[.val (.ref b9), .val (.int (3 : Int32)), .unset, .unset, .unset, .unset] [(.ref b9), (.int (0 : Int32))])) rfl rfl (hb hby own_d4_6)
  refine own_st st2 ?_
  show own_Go _ _ _ _ T2 (mkF m 9 #[.val (.ref b9), .val (.int (3 : Int32)), .unset, .unset, .unset, .unset] [(.int (0 : Int32)), (.int (0 : Int32))])
  refine own_st (fun t k => XS.isub X2.here hx rfl (hb hby own_d4_9) rfl k) ?_
  show own_Go _ _ _ _ T2 (mkF m 10 #[.val (.ref b9), .val (.int (3 : Int32)), .unset, .unset, .unset, .unset] [(.int ((0 : Int32) - (0 : Int32)))])
  refine own_st (fun t k => XS.iloadN X2.here hx rfl (hb hby own_d4_10) rfl k) ?_
  show own_Go _ _ _ _ T2 (mkF m 11 #[.val (.ref b9), .val (.int (3 : Int32)), .unset, .unset, .unset, .unset] [(.int (3 : Int32)), (.int ((0 : Int32) - (0 : Int32)))])
  refine own_st (fun t k => XS.icmpYes X2.here hx rfl (pc0 := 11) (pc' := 15) rfl (hb hby own_d4_11) rfl (tlt (by decide : ((0 : Int32) - (0 : Int32)) < (3 : Int32))).1 (by decide) (by decide) k) ?_
  show own_Go _ _ _ _ T2 (mkF m 15 #[.val (.ref b9), .val (.int (3 : Int32)), .unset, .unset, .unset, .unset] [])
  refine own_st (fun t k => XS.aloadN X2.here hx rfl (hb hby own_d4_15) rfl rfl k) ?_
  show own_Go _ _ _ _ T2 (mkF m 16 #[.val (.ref b9), .val (.int (3 : Int32)), .unset, .unset, .unset, .unset] [(.ref b9)])
  obtain ⟨cq3, kq3, q3a, q3b, q3c⟩ := isOf hZ e2 P4
  obtain ⟨_, _, ⟨T3, L3, k3, n3⟩, -, X3, ⟨Lc3, hQ3, l3, y3, z3⟩, st3⟩ := X2.virtualBack hx (y := (⟨"com/example/backchannel/backchannel/server/ByteQueue", "size", "()I"⟩ : MethodName)) (z := (⟨"com/example/backchannel/backchannel/server/ByteQueue", "size", "()I"⟩ : MethodName)) hown (mvT hZ (own_w hw 25 rfl)) (mvT hZ (own_w hw 26 rfl)) (notFace_of_selects (args := #[]) (mvT hZ (own_w hw 28 rfl))) (mvT hZ (own_w hw 28 rfl)) (mvT hZ (own_w hw 27 rfl)) (by decide) (backOf (W := 0) (own_rm5 l Z a0 hw [] b9 (0 : Int32) (0 : Int32) h0 n0 Z0 P2 P3) hZ (own_w hw 29 rfl) (own_w hw 3 rfl) (by decide) (by decide)) q3a q3c (g := (mkF m 16 #[.val (.ref b9), .val (.int (3 : Int32)), .unset, .unset, .unset, .unset] [(.ref b9)])) rfl (by rw [hml]; rfl) (Steps.refl _) (argsL := []) (rest := []) (lenOf own_pd1 rfl) rfl (by show 2 * 0 + _ ≤ _; exact Nat.le_of_eq rfl) (hb hby own_d4_16) (fun _ _ => ⟨rfl, e2, (by decide : 0 + 0 ≤ _), (by decide : 0 + 0 ≤ _)⟩)
  dsimp only [Pt.U, Pt.locs, Pt.cells, Pt.slots] at X3 l3 y3 z3 st3 hQ3
  subst l3 y3 z3
  obtain ⟨N3q, e3, hL3⟩ := hQ3
  have N3 := Fr.app N0 N3q
  rcases hL3 with ⟨rfl, -⟩
  · skip
    refine own_st (fun t k => st3.trans k) ?_
    show own_Go _ _ _ _ T3 (mkF m 19 #[.val (.ref b9), .val (.int (3 : Int32)), .unset, .unset, .unset, .unset] [(.int ((0 : Int32) - (0 : Int32)))])
    refine own_st (fun t k => XS.istoreN X3.here hx rfl (hb hby own_d4_19) rfl (l' := #[.val (.ref b9), .val (.int (3 : Int32)), .val (.int ((0 : Int32) - (0 : Int32))), .unset, .unset, .unset]) rfl k) ?_
    show own_Go _ _ _ _ T3 (mkF m 20 #[.val (.ref b9), .val (.int (3 : Int32)), .val (.int ((0 : Int32) - (0 : Int32))), .unset, .unset, .unset] [])
    refine own_st (fun t k => XS.iloadN X3.here hx rfl (hb hby own_d4_20) rfl k) ?_
    show own_Go _ _ _ _ T3 (mkF m 21 #[.val (.ref b9), .val (.int (3 : Int32)), .val (.int ((0 : Int32) - (0 : Int32))), .unset, .unset, .unset] [(.int ((0 : Int32) - (0 : Int32)))])
    refine own_st (fun t k => XS.iloadN X3.here hx rfl (hb hby own_d4_21) rfl k) ?_
    show own_Go _ _ _ _ T3 (mkF m 22 #[.val (.ref b9), .val (.int (3 : Int32)), .val (.int ((0 : Int32) - (0 : Int32))), .unset, .unset, .unset] [(.int (3 : Int32)), (.int ((0 : Int32) - (0 : Int32)))])
    refine own_st (fun t k => XS.iadd X3.here hx rfl (hb hby own_d4_22) rfl k) ?_
    show own_Go _ _ _ _ T3 (mkF m 23 #[.val (.ref b9), .val (.int (3 : Int32)), .val (.int ((0 : Int32) - (0 : Int32))), .unset, .unset, .unset] [(.int (((0 : Int32) - (0 : Int32)) + (3 : Int32)))])
    refine own_st (fun t k => XS.istoreN X3.here hx rfl (hb hby own_d4_23) rfl (l' := #[.val (.ref b9), .val (.int (3 : Int32)), .val (.int ((0 : Int32) - (0 : Int32))), .val (.int (((0 : Int32) - (0 : Int32)) + (3 : Int32))), .unset, .unset]) rfl k) ?_
    show own_Go _ _ _ _ T3 (mkF m 24 #[.val (.ref b9), .val (.int (3 : Int32)), .val (.int ((0 : Int32) - (0 : Int32))), .val (.int (((0 : Int32) - (0 : Int32)) + (3 : Int32))), .unset, .unset] [])
    refine own_st (fun t k => XS.aloadN X3.here hx rfl (hb hby own_d4_24) rfl rfl k) ?_
    show own_Go _ _ _ _ T3 (mkF m 25 #[.val (.ref b9), .val (.int (3 : Int32)), .val (.int ((0 : Int32) - (0 : Int32))), .val (.int (((0 : Int32) - (0 : Int32)) + (3 : Int32))), .unset, .unset] [(.ref b9)])
    obtain ⟨T4, X4, e4, st4⟩ := getF X3 hx hZ hown (host := "") (Or.inl (own_w hw 12 rfl)) Via.refl e3 P0 (g := (mkF m 25 #[.val (.ref b9), .val (.int (3 : Int32)), .val (.int ((0 : Int32) - (0 : Int32))), .val (.int (((0 : Int32) - (0 : Int32)) + (3 : Int32))), .unset, .unset] [(.ref b9)])) rfl rfl (hb hby own_d4_25)
    refine own_st st4 ?_
    show own_Go _ _ _ _ T4 (mkF m 28 #[.val (.ref b9), .val (.int (3 : Int32)), .val (.int ((0 : Int32) - (0 : Int32))), .val (.int (((0 : Int32) - (0 : Int32)) + (3 : Int32))), .unset, .unset] [(.ref w_NONE)])
    refine own_st (fun t k => XS.astore X4.here hx rfl (hb hby own_d4_28) rfl rfl (l' := #[.val (.ref b9), .val (.int (3 : Int32)), .val (.int ((0 : Int32) - (0 : Int32))), .val (.int (((0 : Int32) - (0 : Int32)) + (3 : Int32))), .val (.ref w_NONE), .unset]) rfl k) ?_
    show own_Go _ _ _ _ T4 (mkF m 30 #[.val (.ref b9), .val (.int (3 : Int32)), .val (.int ((0 : Int32) - (0 : Int32))), .val (.int (((0 : Int32) - (0 : Int32)) + (3 : Int32))), .val (.ref w_NONE), .unset] [])
    refine own_st (fun t k => XS.aloadN X4.here hx rfl (hb hby own_d4_30) rfl rfl k) ?_
    show own_Go _ _ _ _ T4 (mkF m 31 #[.val (.ref b9), .val (.int (3 : Int32)), .val (.int ((0 : Int32) - (0 : Int32))), .val (.int (((0 : Int32) - (0 : Int32)) + (3 : Int32))), .val (.ref w_NONE), .unset] [(.ref b9)])
    obtain ⟨T5, X5, e5, st5⟩ := getF X4 hx hZ hown (host := "") (Or.inl (own_w hw 12 rfl)) Via.refl e4 P0 (g := (mkF m 31 #[.val (.ref b9), .val (.int (3 : Int32)), .val (.int ((0 : Int32) - (0 : Int32))), .val (.int (((0 : Int32) - (0 : Int32)) + (3 : Int32))), .val (.ref w_NONE), .unset] [(.ref b9)])) rfl rfl (hb hby own_d4_31)
    refine own_st st5 ?_
    show own_Go _ _ _ _ T5 (mkF m 34 #[.val (.ref b9), .val (.int (3 : Int32)), .val (.int ((0 : Int32) - (0 : Int32))), .val (.int (((0 : Int32) - (0 : Int32)) + (3 : Int32))), .val (.ref w_NONE), .unset] [(.ref w_NONE)])
    refine own_st (own_alen X5 hx hZ e5 P1 (g := (mkF m 34 #[.val (.ref b9), .val (.int (3 : Int32)), .val (.int ((0 : Int32) - (0 : Int32))), .val (.int (((0 : Int32) - (0 : Int32)) + (3 : Int32))), .val (.ref w_NONE), .unset] [(.ref w_NONE)])) rfl rfl (hb hby own_d4_34)) ?_
    show own_Go _ _ _ _ T5 (mkF m 35 #[.val (.ref b9), .val (.int (3 : Int32)), .val (.int ((0 : Int32) - (0 : Int32))), .val (.int (((0 : Int32) - (0 : Int32)) + (3 : Int32))), .val (.ref w_NONE), .unset] [(.int (0 : Int32))])
    refine own_st (fun t k => XS.iloadN X5.here hx rfl (hb hby own_d4_35) rfl k) ?_
    show own_Go _ _ _ _ T5 (mkF m 36 #[.val (.ref b9), .val (.int (3 : Int32)), .val (.int ((0 : Int32) - (0 : Int32))), .val (.int (((0 : Int32) - (0 : Int32)) + (3 : Int32))), .val (.ref w_NONE), .unset] [(.int (((0 : Int32) - (0 : Int32)) + (3 : Int32))), (.int (0 : Int32))])
    refine own_st (fun t k => XS.icmpNo X5.here hx rfl (hb hby own_d4_36) rfl (tlt (by decide : (0 : Int32) < (((0 : Int32) - (0 : Int32)) + (3 : Int32)))).2.1 k) ?_
    show own_Go _ _ _ _ T5 (mkF m 39 #[.val (.ref b9), .val (.int (3 : Int32)), .val (.int ((0 : Int32) - (0 : Int32))), .val (.int (((0 : Int32) - (0 : Int32)) + (3 : Int32))), .val (.ref w_NONE), .unset] [])
    refine own_st (fun t k => XS.sipush X5.here hx rfl (hb hby own_d4_39) k) ?_
    show own_Go _ _ _ _ T5 (mkF m 42 #[.val (.ref b9), .val (.int (3 : Int32)), .val (.int ((0 : Int32) - (0 : Int32))), .val (.int (((0 : Int32) - (0 : Int32)) + (3 : Int32))), .val (.ref w_NONE), .unset] [(.int (512 : Int32))])
    refine own_st (fun t k => XS.aloadN X5.here hx rfl (hb hby own_d4_42) rfl rfl k) ?_
    show own_Go _ _ _ _ T5 (mkF m 43 #[.val (.ref b9), .val (.int (3 : Int32)), .val (.int ((0 : Int32) - (0 : Int32))), .val (.int (((0 : Int32) - (0 : Int32)) + (3 : Int32))), .val (.ref w_NONE), .unset] [(.ref b9), (.int (512 : Int32))])
    obtain ⟨T6, X6, e6, st6⟩ := getF X5 hx hZ hown (host := "") (Or.inl (own_w hw 12 rfl)) Via.refl e5 P0 (g := (mkF m 43 #[.val (.ref b9), .val (.int (3 : Int32)), .val (.int ((0 : Int32) - (0 : Int32))), .val (.int (((0 : Int32) - (0 : Int32)) + (3 : Int32))), .val (.ref w_NONE), .unset] [(.ref b9), (.int (512 : Int32))])) rfl rfl (hb hby own_d4_43)
    refine own_st st6 ?_
    show own_Go _ _ _ _ T6 (mkF m 46 #[.val (.ref b9), .val (.int (3 : Int32)), .val (.int ((0 : Int32) - (0 : Int32))), .val (.int (((0 : Int32) - (0 : Int32)) + (3 : Int32))), .val (.ref w_NONE), .unset] [(.ref w_NONE), (.int (512 : Int32))])
    refine own_st (own_alen X6 hx hZ e6 P1 (g := (mkF m 46 #[.val (.ref b9), .val (.int (3 : Int32)), .val (.int ((0 : Int32) - (0 : Int32))), .val (.int (((0 : Int32) - (0 : Int32)) + (3 : Int32))), .val (.ref w_NONE), .unset] [(.ref w_NONE), (.int (512 : Int32))])) rfl rfl (hb hby own_d4_46)) ?_
    show own_Go _ _ _ _ T6 (mkF m 47 #[.val (.ref b9), .val (.int (3 : Int32)), .val (.int ((0 : Int32) - (0 : Int32))), .val (.int (((0 : Int32) - (0 : Int32)) + (3 : Int32))), .val (.ref w_NONE), .unset] [(.int (0 : Int32)), (.int (512 : Int32))])
    obtain ⟨_, _, ⟨T7, L7, k7, n7⟩, -, X7, ⟨Lc7, hQ7, l7, y7, z7⟩, st7⟩ := Jvm.LawKit.callS X6 hx (y := (⟨"java/lang/Math", "max", "(II)I"⟩ : MethodName)) hown (mvT hZ (own_w hw 32 rfl)) (mvT hZ (own_w hw 33 rfl)) (mvT hZ (own_w hw 34 rfl)) (mvT hZ (own_w hw 35 rfl)) (by decide) (backOf (W := 0) (own_rm6 l Z a0 hw [] (512 : Int32) (0 : Int32) h0 n0 Z0 ) hZ (own_w hw 35 rfl) (own_w hw 34 rfl) (by decide) (by decide)) (g := (mkF m 47 #[.val (.ref b9), .val (.int (3 : Int32)), .val (.int ((0 : Int32) - (0 : Int32))), .val (.int (((0 : Int32) - (0 : Int32)) + (3 : Int32))), .val (.ref w_NONE), .unset] [(.int (0 : Int32)), (.int (512 : Int32))])) rfl (by rw [hml]; rfl) (argsL := [(.int (512 : Int32)), (.int (0 : Int32))]) (rest := []) (lenOf own_pd2 rfl) rfl (by show 2 * 0 + _ ≤ _; exact Nat.le_of_eq rfl) (hb hby own_d4_47) (fun _ _ => ⟨rfl, e6, (by decide : 0 + 0 ≤ _), (by decide : 0 + 0 ≤ _)⟩)
    dsimp only [Pt.U, Pt.locs, Pt.cells, Pt.slots] at X7 l7 y7 z7 st7 hQ7
    subst l7 y7 z7
    obtain ⟨N7q, e7, hL7⟩ := hQ7
    have N7 := Fr.app N3 N7q
    rcases hL7 with ⟨rfl, hq7_0_0, -⟩ | ⟨rfl, hq7_1_0, -⟩
    · skip
      exact absurd hq7_0_0 (by decide : ¬ ((512 : Int32) < (0 : Int32)))
    · skip
      refine own_st st7 ?_
      show own_Go _ _ _ _ T7 (mkF m 50 #[.val (.ref b9), .val (.int (3 : Int32)), .val (.int ((0 : Int32) - (0 : Int32))), .val (.int (((0 : Int32) - (0 : Int32)) + (3 : Int32))), .val (.ref w_NONE), .unset] [(.int (512 : Int32))])
      refine own_st (fun t k => XS.istore X7.here hx rfl (hb hby own_d4_50) rfl (l' := #[.val (.ref b9), .val (.int (3 : Int32)), .val (.int ((0 : Int32) - (0 : Int32))), .val (.int (((0 : Int32) - (0 : Int32)) + (3 : Int32))), .val (.ref w_NONE), .val (.int (512 : Int32))]) rfl k) ?_
      show own_Go _ _ _ _ T7 (mkF m 52 #[.val (.ref b9), .val (.int (3 : Int32)), .val (.int ((0 : Int32) - (0 : Int32))), .val (.int (((0 : Int32) - (0 : Int32)) + (3 : Int32))), .val (.ref w_NONE), .val (.int (512 : Int32))] [])
      refine own_st (fun t k => XS.iload X7.here hx rfl (hb hby own_d4_52) rfl k) ?_
      show own_Go _ _ _ _ T7 (mkF m 54 #[.val (.ref b9), .val (.int (3 : Int32)), .val (.int ((0 : Int32) - (0 : Int32))), .val (.int (((0 : Int32) - (0 : Int32)) + (3 : Int32))), .val (.ref w_NONE), .val (.int (512 : Int32))] [(.int (512 : Int32))])
      refine own_st (fun t k => XS.iloadN X7.here hx rfl (hb hby own_d4_54) rfl k) ?_
      show own_Go _ _ _ _ T7 (mkF m 55 #[.val (.ref b9), .val (.int (3 : Int32)), .val (.int ((0 : Int32) - (0 : Int32))), .val (.int (((0 : Int32) - (0 : Int32)) + (3 : Int32))), .val (.ref w_NONE), .val (.int (512 : Int32))] [(.int (((0 : Int32) - (0 : Int32)) + (3 : Int32))), (.int (512 : Int32))])
      refine own_st (fun t k => XS.icmpYes X7.here hx rfl (pc0 := 55) (pc' := 67) rfl (hb hby own_d4_55) rfl (flt (by decide : ¬ ((512 : Int32) < (((0 : Int32) - (0 : Int32)) + (3 : Int32))))).2.1 (by decide) (by decide) k) ?_
      show own_Go _ _ _ _ T7 (mkF m 67 #[.val (.ref b9), .val (.int (3 : Int32)), .val (.int ((0 : Int32) - (0 : Int32))), .val (.int (((0 : Int32) - (0 : Int32)) + (3 : Int32))), .val (.ref w_NONE), .val (.int (512 : Int32))] [])
      refine own_st (fun t k => XS.iload X7.here hx rfl (hb hby own_d4_67) rfl k) ?_
      show own_Go _ _ _ _ T7 (mkF m 69 #[.val (.ref b9), .val (.int (3 : Int32)), .val (.int ((0 : Int32) - (0 : Int32))), .val (.int (((0 : Int32) - (0 : Int32)) + (3 : Int32))), .val (.ref w_NONE), .val (.int (512 : Int32))] [(.int (512 : Int32))])
      obtain ⟨T8, h8, k8x4_8, X8, e8, E8, A8, Ex8, st8⟩ := newPE X7 hx hZ (own_w hw 0 rfl) e7 (g := (mkF m 69 #[.val (.ref b9), .val (.int (3 : Int32)), .val (.int ((0 : Int32) - (0 : Int32))), .val (.int (((0 : Int32) - (0 : Int32)) + (3 : Int32))), .val (.ref w_NONE), .val (.int (512 : Int32))] [(.int (512 : Int32))])) rfl (hb hby own_d4_69) rfl (by decide) (cap := 512) (by decide) (by decide) (by decide) (by decide) (ad := "[B") (by decide +kernel)
      obtain ⟨b8x4_8, g8⟩ : ∃ z, z = h0.size := ⟨_, rfl⟩
      rw [← g8] at A8 Ex8 st8
      have g_b8x4_8 : n0 ≤ b8x4_8 := Nat.le_trans Z0 (Nat.le_of_eq g8.symm)
      have sz_b8x4_8 : h0.size ≤ b8x4_8 := Nat.le_trans (Keep.refl h0 [b9]).1 (Nat.le_of_eq g8.symm)
      refine own_st st8 ?_
      have K8 : Keep h0 h8 [b9] := (Keep.refl h0 [b9]).ext E8
      have Z8 := Nat.le_trans Z0 E8.1
      have V8 : Arv Z h8 b8x4_8 k8x4_8 .byte (512 : Int32) [] (.int (0 : Int32)) := Arv.new A8 (by decide)
      show own_Go _ _ _ _ T8 (mkF m 71 #[.val (.ref b9), .val (.int (3 : Int32)), .val (.int ((0 : Int32) - (0 : Int32))), .val (.int (((0 : Int32) - (0 : Int32)) + (3 : Int32))), .val (.ref w_NONE), .val (.int (512 : Int32))] [(.ref b8x4_8)])
      refine own_st (fun t k => XS.astore X8.here hx rfl (hb hby own_d4_71) rfl rfl (l' := #[.val (.ref b9), .val (.int (3 : Int32)), .val (.int ((0 : Int32) - (0 : Int32))), .val (.int (((0 : Int32) - (0 : Int32)) + (3 : Int32))), .val (.ref b8x4_8), .val (.int (512 : Int32))]) rfl k) ?_
      show own_Go _ _ _ _ T8 (mkF m 73 #[.val (.ref b9), .val (.int (3 : Int32)), .val (.int ((0 : Int32) - (0 : Int32))), .val (.int (((0 : Int32) - (0 : Int32)) + (3 : Int32))), .val (.ref b8x4_8), .val (.int (512 : Int32))] [])
      refine own_st (fun t k => XS.aloadN X8.here hx rfl (hb hby own_d4_73) rfl rfl k) ?_
      show own_Go _ _ _ _ T8 (mkF m 74 #[.val (.ref b9), .val (.int (3 : Int32)), .val (.int ((0 : Int32) - (0 : Int32))), .val (.int (((0 : Int32) - (0 : Int32)) + (3 : Int32))), .val (.ref b8x4_8), .val (.int (512 : Int32))] [(.ref b9)])
      have f9 := (P0.ext E8)
      obtain ⟨T10, X10, e10, st10⟩ := getF X8 hx hZ hown (host := "") (Or.inl (own_w hw 12 rfl)) Via.refl e8 f9 (g := (mkF m 74 #[.val (.ref b9), .val (.int (3 : Int32)), .val (.int ((0 : Int32) - (0 : Int32))), .val (.int (((0 : Int32) - (0 : Int32)) + (3 : Int32))), .val (.ref b8x4_8), .val (.int (512 : Int32))] [(.ref b9)])) rfl rfl (hb hby own_d4_74)
      refine own_st st10 ?_
      show own_Go _ _ _ _ T10 (mkF m 77 #[.val (.ref b9), .val (.int (3 : Int32)), .val (.int ((0 : Int32) - (0 : Int32))), .val (.int (((0 : Int32) - (0 : Int32)) + (3 : Int32))), .val (.ref b8x4_8), .val (.int (512 : Int32))] [(.ref w_NONE)])
      refine own_st (fun t k => XS.aloadN X10.here hx rfl (hb hby own_d4_77) rfl rfl k) ?_
      show own_Go _ _ _ _ T10 (mkF m 78 #[.val (.ref b9), .val (.int (3 : Int32)), .val (.int ((0 : Int32) - (0 : Int32))), .val (.int (((0 : Int32) - (0 : Int32)) + (3 : Int32))), .val (.ref b8x4_8), .val (.int (512 : Int32))] [(.ref b9), (.ref w_NONE)])
      have f11 := (P3.ext E8)
      obtain ⟨T12, X12, e12, st12⟩ := getF X10 hx hZ hown (host := "") (Or.inl (own_w hw 30 rfl)) Via.refl e10 f11 (g := (mkF m 78 #[.val (.ref b9), .val (.int (3 : Int32)), .val (.int ((0 : Int32) - (0 : Int32))), .val (.int (((0 : Int32) - (0 : Int32)) + (3 : Int32))), .val (.ref b8x4_8), .val (.int (512 : Int32))] [(.ref b9), (.ref w_NONE)])) rfl rfl (hb hby own_d4_78)
      refine own_st st12 ?_
      show own_Go _ _ _ _ T12 (mkF m 81 #[.val (.ref b9), .val (.int (3 : Int32)), .val (.int ((0 : Int32) - (0 : Int32))), .val (.int (((0 : Int32) - (0 : Int32)) + (3 : Int32))), .val (.ref b8x4_8), .val (.int (512 : Int32))] [(.int (0 : Int32)), (.ref w_NONE)])
      refine own_st (fun t k => XS.aload X12.here hx rfl (hb hby own_d4_81) rfl rfl k) ?_
      show own_Go _ _ _ _ T12 (mkF m 83 #[.val (.ref b9), .val (.int (3 : Int32)), .val (.int ((0 : Int32) - (0 : Int32))), .val (.int (((0 : Int32) - (0 : Int32)) + (3 : Int32))), .val (.ref b8x4_8), .val (.int (512 : Int32))] [(.ref b8x4_8), (.int (0 : Int32)), (.ref w_NONE)])
      refine own_st (fun t k => XS.iconst X12.here hx rfl (hb hby own_d4_83) k) ?_
      show own_Go _ _ _ _ T12 (mkF m 84 #[.val (.ref b9), .val (.int (3 : Int32)), .val (.int ((0 : Int32) - (0 : Int32))), .val (.int (((0 : Int32) - (0 : Int32)) + (3 : Int32))), .val (.ref b8x4_8), .val (.int (512 : Int32))] [(.int (0 : Int32)), (.ref b8x4_8), (.int (0 : Int32)), (.ref w_NONE)])
      refine own_st (fun t k => XS.iloadN X12.here hx rfl (hb hby own_d4_84) rfl k) ?_
      show own_Go _ _ _ _ T12 (mkF m 85 #[.val (.ref b9), .val (.int (3 : Int32)), .val (.int ((0 : Int32) - (0 : Int32))), .val (.int (((0 : Int32) - (0 : Int32)) + (3 : Int32))), .val (.ref b8x4_8), .val (.int (512 : Int32))] [(.int ((0 : Int32) - (0 : Int32))), (.int (0 : Int32)), (.ref b8x4_8), (.int (0 : Int32)), (.ref w_NONE)])
      have f14 := (P1.ext E8)
      obtain ⟨T13, h13, L13, X13, e13, N13, Kq13, V13', st13⟩ := cpA X12 hx hZ hown (own_w hw 36 rfl) (own_w hw 39 rfl) (own_w hw 37 rfl) (own_w hw 38 rfl) e12 f14 V8 (Or.inl ⟨rfl, rfl⟩) (sp := (0 : Int32)) (dp := (0 : Int32)) (nn := ((0 : Int32) - (0 : Int32))) (by decide) (by decide) (by decide) (by decide) (by decide) (us := []) rfl (Nat.le_of_ble_eq_true rfl) N7 g_b8x4_8 (g := (mkF m 85 #[.val (.ref b9), .val (.int (3 : Int32)), .val (.int ((0 : Int32) - (0 : Int32))), .val (.int (((0 : Int32) - (0 : Int32)) + (3 : Int32))), .val (.ref b8x4_8), .val (.int (512 : Int32))] [(.int ((0 : Int32) - (0 : Int32))), (.int (0 : Int32)), (.ref b8x4_8), (.int (0 : Int32)), (.ref w_NONE)])) rfl (by rw [hml]; rfl) rfl (hb hby own_d4_85) (by decide) (W := 0) (by show 2 * 0 + _ ≤ _; exact Nat.le_of_eq rfl) (by decide)
      have V13 : Arv Z h13 b8x4_8 k8x4_8 .byte (512 : Int32) [] (.int (0 : Int32)) := V13'
      refine own_st st13 ?_
      have K13 : Keep h0 h13 [b9] := K8.trans Kq13 (allS (Or.inr sz_b8x4_8) all0)
      have Z13 := Nat.le_trans Z8 Kq13.1
      show own_Go _ _ _ _ T13 (mkF m 88 #[.val (.ref b9), .val (.int (3 : Int32)), .val (.int ((0 : Int32) - (0 : Int32))), .val (.int (((0 : Int32) - (0 : Int32)) + (3 : Int32))), .val (.ref b8x4_8), .val (.int (512 : Int32))] [])
      refine own_st (fun t k => XS.aloadN X13.here hx rfl (hb hby own_d4_88) rfl rfl k) ?_
      show own_Go _ _ _ _ T13 (mkF m 89 #[.val (.ref b9), .val (.int (3 : Int32)), .val (.int ((0 : Int32) - (0 : Int32))), .val (.int (((0 : Int32) - (0 : Int32)) + (3 : Int32))), .val (.ref b8x4_8), .val (.int (512 : Int32))] [(.ref b9)])
      refine own_st (fun t k => XS.aload X13.here hx rfl (hb hby own_d4_89) rfl rfl k) ?_
      show own_Go _ _ _ _ T13 (mkF m 91 #[.val (.ref b9), .val (.int (3 : Int32)), .val (.int ((0 : Int32) - (0 : Int32))), .val (.int (((0 : Int32) - (0 : Int32)) + (3 : Int32))), .val (.ref b8x4_8), .val (.int (512 : Int32))] [(.ref b8x4_8), (.ref b9)])
      have f15 := (P4.keep K13)
      have ne16 : b9 ≠ b8x4_8 := Nat.ne_of_lt (Nat.lt_of_lt_of_le P0.lt sz_b8x4_8)
      have f17 := (f9.keep Kq13 (ninS ne16 nin0))
      obtain ⟨T18, h18, X18, e18, W18, st18⟩ := putF X13 hx hZ hown (host := "") (Or.inl (own_w hw 12 rfl)) Via.refl e13 f17 f15 (Or.inl (own_w hw 13 rfl)) (own_w hw 2 rfl) (ty := (.array .byte)) (by decide) rfl rfl (g := (mkF m 91 #[.val (.ref b9), .val (.int (3 : Int32)), .val (.int ((0 : Int32) - (0 : Int32))), .val (.int (((0 : Int32) - (0 : Int32)) + (3 : Int32))), .val (.ref b8x4_8), .val (.int (512 : Int32))] [(.ref b8x4_8), (.ref b9)])) rfl rfl (hb hby own_d4_91)
      refine own_st st18 ?_
      have K18 : Keep h0 h18 [b9] := K13.wr W18 (Or.inl (List.mem_of_getElem? (i := 0) rfl))
      have Z18 := Nat.le_trans Z13 (Keep.of_wr W18).1
      have N18 := Fr.snoc X18 N13 g_b9
      have F18 := f17.same W18
      show own_Go _ _ _ _ T18 (mkF m 94 #[.val (.ref b9), .val (.int (3 : Int32)), .val (.int ((0 : Int32) - (0 : Int32))), .val (.int (((0 : Int32) - (0 : Int32)) + (3 : Int32))), .val (.ref b8x4_8), .val (.int (512 : Int32))] [])
      refine own_st (fun t k => XS.aloadN X18.here hx rfl (hb hby own_d4_94) rfl rfl k) ?_
      show own_Go _ _ _ _ T18 (mkF m 95 #[.val (.ref b9), .val (.int (3 : Int32)), .val (.int ((0 : Int32) - (0 : Int32))), .val (.int (((0 : Int32) - (0 : Int32)) + (3 : Int32))), .val (.ref b8x4_8), .val (.int (512 : Int32))] [(.ref b9)])
      refine own_st (fun t k => XS.iconst X18.here hx rfl (hb hby own_d4_95) k) ?_
      show own_Go _ _ _ _ T18 (mkF m 96 #[.val (.ref b9), .val (.int (3 : Int32)), .val (.int ((0 : Int32) - (0 : Int32))), .val (.int (((0 : Int32) - (0 : Int32)) + (3 : Int32))), .val (.ref b8x4_8), .val (.int (512 : Int32))] [(.int (0 : Int32)), (.ref b9)])
      have f19 := (f15.wr W18)
      have f20 := ((f11.keep Kq13 (ninS ne16 nin0)).other W18 (Or.inr (slot_ne (Or.inl (own_w hw 31 rfl)) (Or.inl (own_w hw 13 rfl)) (by decide) (t := .int) (t' := (.array .byte)) (by decide) (by decide))))
      obtain ⟨T21, h21, X21, e21, W21, st21⟩ := putF X18 hx hZ hown (host := "") (Or.inl (own_w hw 30 rfl)) Via.refl e18 f20 f19 (Or.inl (own_w hw 31 rfl)) (own_w hw 2 rfl) (ty := .int) (by decide) rfl rfl (g := (mkF m 96 #[.val (.ref b9), .val (.int (3 : Int32)), .val (.int ((0 : Int32) - (0 : Int32))), .val (.int (((0 : Int32) - (0 : Int32)) + (3 : Int32))), .val (.ref b8x4_8), .val (.int (512 : Int32))] [(.int (0 : Int32)), (.ref b9)])) rfl rfl (hb hby own_d4_96)
      refine own_st st21 ?_
      have K21 : Keep h0 h21 [b9] := K18.wr W21 (Or.inl (List.mem_of_getElem? (i := 0) rfl))
      have Z21 := Nat.le_trans Z18 (Keep.of_wr W21).1
      have N21 := Fr.snoc X21 N18 g_b9
      have F21 := f20.same W21
      show own_Go _ _ _ _ T21 (mkF m 99 #[.val (.ref b9), .val (.int (3 : Int32)), .val (.int ((0 : Int32) - (0 : Int32))), .val (.int (((0 : Int32) - (0 : Int32)) + (3 : Int32))), .val (.ref b8x4_8), .val (.int (512 : Int32))] [])
      refine own_st (fun t k => XS.aloadN X21.here hx rfl (hb hby own_d4_99) rfl rfl k) ?_
      show own_Go _ _ _ _ T21 (mkF m 100 #[.val (.ref b9), .val (.int (3 : Int32)), .val (.int ((0 : Int32) - (0 : Int32))), .val (.int (((0 : Int32) - (0 : Int32)) + (3 : Int32))), .val (.ref b8x4_8), .val (.int (512 : Int32))] [(.ref b9)])
      refine own_st (fun t k => XS.iloadN X21.here hx rfl (hb hby own_d4_100) rfl k) ?_
      show own_Go _ _ _ _ T21 (mkF m 101 #[.val (.ref b9), .val (.int (3 : Int32)), .val (.int ((0 : Int32) - (0 : Int32))), .val (.int (((0 : Int32) - (0 : Int32)) + (3 : Int32))), .val (.ref b8x4_8), .val (.int (512 : Int32))] [(.int ((0 : Int32) - (0 : Int32))), (.ref b9)])
      have f22 := (f19.wr W21)
      have f23 := ((((P2.ext E8).keep Kq13 (ninS ne16 nin0)).other W18 (Or.inr (slot_ne (Or.inl (own_w hw 24 rfl)) (Or.inl (own_w hw 13 rfl)) (by decide) (t := .int) (t' := (.array .byte)) (by decide) (by decide)))).other W21 (Or.inr (slot_ne (Or.inl (own_w hw 24 rfl)) (Or.inl (own_w hw 31 rfl)) (by decide) (t := .int) (t' := .int) (by decide) (by decide))))
      obtain ⟨T24, h24, X24, e24, W24, st24⟩ := putF X21 hx hZ hown (host := "") (Or.inl (own_w hw 23 rfl)) Via.refl e21 f23 f22 (Or.inl (own_w hw 24 rfl)) (own_w hw 2 rfl) (ty := .int) (by decide) rfl rfl (g := (mkF m 101 #[.val (.ref b9), .val (.int (3 : Int32)), .val (.int ((0 : Int32) - (0 : Int32))), .val (.int (((0 : Int32) - (0 : Int32)) + (3 : Int32))), .val (.ref b8x4_8), .val (.int (512 : Int32))] [(.int ((0 : Int32) - (0 : Int32))), (.ref b9)])) rfl rfl (hb hby own_d4_101)
      refine own_st st24 ?_
      have K24 : Keep h0 h24 [b9] := K21.wr W24 (Or.inl (List.mem_of_getElem? (i := 0) rfl))
      have Z24 := Nat.le_trans Z21 (Keep.of_wr W24).1
      have N24 := Fr.snoc X24 N21 g_b9
      have F24 := f23.same W24
      show own_Go _ _ _ _ T24 (mkF m 104 #[.val (.ref b9), .val (.int (3 : Int32)), .val (.int ((0 : Int32) - (0 : Int32))), .val (.int (((0 : Int32) - (0 : Int32)) + (3 : Int32))), .val (.ref b8x4_8), .val (.int (512 : Int32))] [])
      have f25 := ((F18.other W21 (Or.inr (slot_ne (Or.inl (own_w hw 13 rfl)) (Or.inl (own_w hw 31 rfl)) (by decide) (t := (.array .byte)) (t' := .int) (by decide) (by decide)))).other W24 (Or.inr (slot_ne (Or.inl (own_w hw 13 rfl)) (Or.inl (own_w hw 24 rfl)) (by decide) (t := (.array .byte)) (t' := .int) (by decide) (by decide))))
      have f26 := (F21.other W24 (Or.inr (slot_ne (Or.inl (own_w hw 31 rfl)) (Or.inl (own_w hw 24 rfl)) (by decide) (t := .int) (t' := .int) (by decide) (by decide))))
      have f27 := (((V13.other W18 (Ne.symm ne16)).other W21 (Ne.symm ne16)).other W24 (Ne.symm ne16))
      have f28 := ((((Ex8.keep Kq13).wr W18).wr W21).wr W24)
      exact own_retV X24 hx hlk hret (hb hby own_d4_104) (by decide) (by decide) e24 ⟨N24, K24, ⟨b8x4_8, _, rfl, hq7_1_0, sz_b8x4_8, f25, F24, f26, f27, f28, trivial⟩⟩
theorem own_pd3 : parseMethodDescriptor "(I)V" = some ⟨[.int], none⟩ := by decide +kernel
theorem own_d3_0 : decode prog_47_method_7_code 0 = .ok (.aload_n 0, 1) := by decide +kernel
theorem own_d3_1 : decode prog_47_method_7_code 1 = .ok (.aload_n 1, 1) := by decide +kernel
theorem own_d3_2 : decode prog_47_method_7_code 2 = .ok (.arraylength, 1) := by decide +kernel
theorem own_d3_3 : decode prog_47_method_7_code 3 = .ok (.invokevirtual 43, 3) := by decide +kernel
theorem own_d3_6 : decode prog_47_method_7_code 6 = .ok (.aload_n 1, 1) := by decide +kernel
theorem own_d3_7 : decode prog_47_method_7_code 7 = .ok (.iconst 0, 1) := by decide +kernel
theorem own_d3_8 : decode prog_47_method_7_code 8 = .ok (.aload_n 0, 1) := by decide +kernel
theorem own_d3_9 : decode prog_47_method_7_code 9 = .ok (.getfield 13, 3) := by decide +kernel
theorem own_d3_12 : decode prog_47_method_7_code 12 = .ok (.aload_n 0, 1) := by decide +kernel
theorem own_d3_13 : decode prog_47_method_7_code 13 = .ok (.getfield 16, 3) := by decide +kernel
theorem own_d3_16 : decode prog_47_method_7_code 16 = .ok (.aload_n 1, 1) := by decide +kernel
theorem own_d3_17 : decode prog_47_method_7_code 17 = .ok (.arraylength, 1) := by decide +kernel
theorem own_d3_18 : decode prog_47_method_7_code 18 = .ok (.invokestatic 50, 3) := by decide +kernel
theorem own_d3_21 : decode prog_47_method_7_code 21 = .ok (.aload_n 0, 1) := by decide +kernel
theorem own_d3_22 : decode prog_47_method_7_code 22 = .ok (.dup, 1) := by decide +kernel
theorem own_d3_23 : decode prog_47_method_7_code 23 = .ok (.getfield 16, 3) := by decide +kernel
theorem own_d3_26 : decode prog_47_method_7_code 26 = .ok (.aload_n 1, 1) := by decide +kernel
theorem own_d3_27 : decode prog_47_method_7_code 27 = .ok (.arraylength, 1) := by decide +kernel
theorem own_d3_28 : decode prog_47_method_7_code 28 = .ok (.iadd, 1) := by decide +kernel
theorem own_d3_29 : decode prog_47_method_7_code 29 = .ok (.putfield 16, 3) := by decide +kernel
theorem own_d3_32 : decode prog_47_method_7_code 32 = .ok (.return_, 1) := by decide +kernel
theorem own_ef3 (m : MethodId) (x0 : Addr) (x1 : Addr) : entryFrame m #[(.ref x0), (.ref x1)] 2 = mkF m 0 #[.val (.ref x0), .val (.ref x1)] [] := by first | (simp [entryFrame, mkF, argsToLocals, Value.category]; done) | rfl
def own_Q3_6 (Z : State) (b9 : Addr) (b2 : Addr) (k2 : ClassId) (ip0 : Int32) (w_NONE : Addr) (k_w_NONE : ClassId) (h0 : Heap) (n0 : Nat) (v : Option Value) (h : Heap) (L : List Loc) : Prop := Fr n0 L ∧ Keep h0 h [b9] ∧ ((∃ b8x4_8c1 : Addr, ∃ k8x4_8c1 : ClassId, v = none ∧ (¬ ((512 : Int32) < (0 : Int32))) ∧ h0.size ≤ b8x4_8c1 ∧ Fld Z h b9 "com/example/backchannel/backchannel/server/ByteQueue" "bytes" "[B" (.ref b8x4_8c1) ∧ Fld Z h b9 "com/example/backchannel/backchannel/server/ByteQueue" "end" "I" (.int (((0 : Int32) - (0 : Int32)) + (3 : Int32))) ∧ Fld Z h b9 "com/example/backchannel/backchannel/server/ByteQueue" "start" "I" (.int (0 : Int32)) ∧ Arv Z h b8x4_8c1 k8x4_8c1 .byte (512 : Int32) [(.int (nar .byte ((ip0 >>> ((8 : Int32) &&& 31)).toInt8.toInt32))), (.int (nar .byte ((ip0 >>> ((16 : Int32) &&& 31)).toInt8.toInt32))), (.int (nar .byte ((ip0 >>> ((24 : Int32) &&& 31)).toInt8.toInt32)))] (.int (0 : Int32)) ∧ Exa Z h b8x4_8c1 "[B" ∧ True))
set_option maxRecDepth 65536 in
set_option maxHeartbeats 40000000 in
theorem own_rm3_6 (l : Launch) (Z : State) (a0 : Array Value) (hw : ∀ d ∈ tables_1, d.before a0 Z = true) (ws : List Jvm.Cond) (b9 : Addr) (b2 : Addr) (k2 : ClassId) (ip0 : Int32) (w_NONE : Addr) (k_w_NONE : ClassId) (h0 : Heap) (n0 : Nat) (Z0 : n0 ≤ h0.size) (P0 : Arv Z h0 b2 k2 .byte (3 : Int32) [(.int (nar .byte ((ip0 >>> ((8 : Int32) &&& 31)).toInt8.toInt32))), (.int (nar .byte ((ip0 >>> ((16 : Int32) &&& 31)).toInt8.toInt32))), (.int (nar .byte ((ip0 >>> ((24 : Int32) &&& 31)).toInt8.toInt32)))] (.int (0 : Int32))) (P1 : Fld Z h0 b9 "com/example/backchannel/backchannel/server/ByteQueue" "bytes" "[B" (.ref w_NONE)) (P2 : Arv Z h0 w_NONE k_w_NONE .byte (0 : Int32) [] (.int (0 : Int32))) (P3 : Fld Z h0 b9 "com/example/backchannel/backchannel/server/ByteQueue" "end" "I" (.int (0 : Int32))) (P4 : Fld Z h0 b9 "com/example/backchannel/backchannel/server/ByteQueue" "start" "I" (.int (0 : Int32))) (P5 : Exa Z h0 b9 "com/example/backchannel/backchannel/server/ByteQueue") (g_b9 : n0 ≤ b9) (P7 : Exa Z h0 b2 "[B") :
    MetFree l (⟨"com/example/backchannel/backchannel/server/ByteQueue", "append", "([B)V"⟩ : MethodName) (head1 (Jvm.Cond.code (⟨"com/example/backchannel/backchannel/server/ByteQueue", "append", "([B)V"⟩ : MethodName) prog_47_method_7_code 2 none :: ws) ({ frames := 2, cells := 1, slots := 512, locals := 35 } : Room)) (fun a U => a = #[(.ref b9), (.ref b2)] ∧ Z.Warmed39 U.vm ∧ U.heap = h0) (fun _ _ _ _ _ => True) (fun _ U o U' => ∃ v L, o = .returned v ∧ own_Q3_6 Z b9 b2 k2 ip0 w_NONE k_w_NONE h0 n0 v U'.heap L ∧ FrameEnd U o U' L ({ frames := 2, cells := 1, slots := 512, locals := 35 } : Room).cells ({ frames := 2, cells := 1, slots := 512, locals := 35 } : Room).slots) := by
  refine MetFree.of_bodySF (plainFor_of_name own_pn0) hisR ?_
  intro p e s m args below meth c s₁ Bd hml0 hP hK
  obtain ⟨rfl, hZ, hh⟩ := hP
  have hx := Bd.exec
  have hlk := Bd.notSynchronized
  have hret := Bd.returns
  have hby := Bd.bytes
  have hml : c.maxLocals = 2 := hml0
  have hown : s.vm.findClass "com/example/backchannel/backchannel/server/ByteQueue" = some m.cls := findClass_of_methodNamed Bd.named
  have hnm := (name_of_methodNamed Bd.named Bd.method).1
  have X0 : Stand p l e ({ frames := 2, cells := 1, slots := 512, locals := 35 } : Room) s m #[(.ref b9), (.ref b2)] below meth c s₁ [] 0 0 := Stand.of_body Bd
  have e0 : s₁.heap = h0 := by rw [← hh, Bd.state]; rfl
  have N0 := Fr.nil n0
  refine own_open (Q := own_Q3_6 Z b9 b2 k2 ip0 w_NONE k_w_NONE h0 n0) (own_ef3 m b9 b2) ?_
  show own_Go _ _ _ _ s₁ (mkF m 0 #[.val (.ref b9), .val (.ref b2)] [])
  refine own_st (fun t k => XS.aloadN X0.here hx rfl (hb hby own_d3_0) rfl rfl k) ?_
  show own_Go _ _ _ _ s₁ (mkF m 1 #[.val (.ref b9), .val (.ref b2)] [(.ref b9)])
  refine own_st (fun t k => XS.aloadN X0.here hx rfl (hb hby own_d3_1) rfl rfl k) ?_
  show own_Go _ _ _ _ s₁ (mkF m 2 #[.val (.ref b9), .val (.ref b2)] [(.ref b2), (.ref b9)])
  refine own_st (own_alen X0 hx hZ e0 P0 (g := (mkF m 2 #[.val (.ref b9), .val (.ref b2)] [(.ref b2), (.ref b9)])) rfl rfl (hb hby own_d3_2)) ?_
  show own_Go _ _ _ _ s₁ (mkF m 3 #[.val (.ref b9), .val (.ref b2)] [(.int (3 : Int32)), (.ref b9)])
  obtain ⟨cq1, q1, q1'⟩ := P5.cell
  obtain ⟨_, _, ⟨T1, L1, k1, n1⟩, -, X1, ⟨Lc1, hQ1, l1, y1, z1⟩, st1⟩ := X0.privateBack hx (y := (⟨"com/example/backchannel/backchannel/server/ByteQueue", "room", "(I)V"⟩ : MethodName)) hown (mvT hZ (own_w hw 19 rfl)) (mvT hZ (own_w hw 20 rfl)) (own_psel hZ (own_w hw 2 rfl) (own_w hw 21 rfl) (own_w hw 20 rfl) (by decide)) (Cond.privateMethod_at (mvP hZ (own_w hw 21 rfl) (args := #[]))) (mvT hZ (own_w hw 22 rfl)) (by decide) (backOf (W := 0) (own_rm4_8 l Z a0 hw [] b9 w_NONE k_w_NONE h0 n0 Z0 P1 P2 P3 P4 P5 g_b9) hZ (own_w hw 22 rfl) (own_w hw 3 rfl) (by decide) (by decide)) (g := (mkF m 3 #[.val (.ref b9), .val (.ref b2)] [(.int (3 : Int32)), (.ref b9)])) rfl (by rw [hml]; rfl) (Steps.refl _) (a := b9) (by rw [e0]; exact q1) q1' (argsL := [(.int (3 : Int32))]) (rest := []) (lenOf own_pd3 rfl) rfl (by show 2 * 0 + _ ≤ _; exact Nat.le_of_eq rfl) (hb hby own_d3_3) (fun _ _ => ⟨rfl, e0, (by decide : 0 + 1 ≤ _), (by decide : 0 + 512 ≤ _)⟩)
  dsimp only [Pt.U, Pt.locs, Pt.cells, Pt.slots] at X1 l1 y1 z1 st1 hQ1
  subst l1 y1 z1
  obtain ⟨N1q, Kq1, hL1⟩ := hQ1
  have N1 := Fr.app N0 N1q
  have K1 : Keep h0 T1.heap [b9] := (Keep.refl h0 [b9]).trans Kq1 (allS (Or.inl (List.mem_of_getElem? (i := 0) rfl)) all0)
  have Z1 := Nat.le_trans Z0 Kq1.1
  rcases hL1 with ⟨b8x4_8c1, k8x4_8c1, rfl, hq1_0_0, sq_b8x4_8c1, Fc1_0_0, Fc1_0_1, Fc1_0_2, Fc1_0_3, Fc1_0_4, -⟩
  · skip
    have g_b8x4_8c1 : n0 ≤ b8x4_8c1 := Nat.le_trans Z0 sq_b8x4_8c1
    have sz_b8x4_8c1 : h0.size ≤ b8x4_8c1 := Nat.le_trans (Keep.refl h0 [b9]).1 sq_b8x4_8c1
    refine own_st (fun t k => st1.trans k) ?_
    show own_Go _ _ _ _ T1 (mkF m 6 #[.val (.ref b9), .val (.ref b2)] [])
    refine own_st (fun t k => XS.aloadN X1.here hx rfl (hb hby own_d3_6) rfl rfl k) ?_
    show own_Go _ _ _ _ T1 (mkF m 7 #[.val (.ref b9), .val (.ref b2)] [(.ref b2)])
    refine own_st (fun t k => XS.iconst X1.here hx rfl (hb hby own_d3_7) k) ?_
    show own_Go _ _ _ _ T1 (mkF m 8 #[.val (.ref b9), .val (.ref b2)] [(.int (0 : Int32)), (.ref b2)])
    refine own_st (fun t k => XS.aloadN X1.here hx rfl (hb hby own_d3_8) rfl rfl k) ?_
    show own_Go _ _ _ _ T1 (mkF m 9 #[.val (.ref b9), .val (.ref b2)] [(.ref b9), (.int (0 : Int32)), (.ref b2)])
    obtain ⟨T2, X2, e2, st2⟩ := getF X1 hx hZ hown (host := "") (Or.inl (own_w hw 12 rfl)) Via.refl rfl Fc1_0_0 (g := (mkF m 9 #[.val (.ref b9), .val (.ref b2)] [(.ref b9), (.int (0 : Int32)), (.ref b2)])) rfl rfl (hb hby own_d3_9)
    refine own_st st2 ?_
    show own_Go _ _ _ _ T2 (mkF m 12 #[.val (.ref b9), .val (.ref b2)] [(.ref b8x4_8c1), (.int (0 : Int32)), (.ref b2)])
    refine own_st (fun t k => XS.aloadN X2.here hx rfl (hb hby own_d3_12) rfl rfl k) ?_
    show own_Go _ _ _ _ T2 (mkF m 13 #[.val (.ref b9), .val (.ref b2)] [(.ref b9), (.ref b8x4_8c1), (.int (0 : Int32)), (.ref b2)])
    obtain ⟨T3, X3, e3, st3⟩ := getF X2 hx hZ hown (host := "") (Or.inl (own_w hw 23 rfl)) Via.refl e2 Fc1_0_1 (g := (mkF m 13 #[.val (.ref b9), .val (.ref b2)] [(.ref b9), (.ref b8x4_8c1), (.int (0 : Int32)), (.ref b2)])) rfl rfl (hb hby own_d3_13)
    refine own_st st3 ?_
    show own_Go _ _ _ _ T3 (mkF m 16 #[.val (.ref b9), .val (.ref b2)] [(.int ((0 : Int32) - (0 : Int32))), (.ref b8x4_8c1), (.int (0 : Int32)), (.ref b2)])
    refine own_st (fun t k => XS.aloadN X3.here hx rfl (hb hby own_d3_16) rfl rfl k) ?_
    show own_Go _ _ _ _ T3 (mkF m 17 #[.val (.ref b9), .val (.ref b2)] [(.ref b2), (.int ((0 : Int32) - (0 : Int32))), (.ref b8x4_8c1), (.int (0 : Int32)), (.ref b2)])
    have f4 := (P0.keep Kq1 (ninS (ne_exa P7 P5 (by decide)) nin0))
    refine own_st (own_alen X3 hx hZ e3 f4 (g := (mkF m 17 #[.val (.ref b9), .val (.ref b2)] [(.ref b2), (.int ((0 : Int32) - (0 : Int32))), (.ref b8x4_8c1), (.int (0 : Int32)), (.ref b2)])) rfl rfl (hb hby own_d3_17)) ?_
    show own_Go _ _ _ _ T3 (mkF m 18 #[.val (.ref b9), .val (.ref b2)] [(.int (3 : Int32)), (.int ((0 : Int32) - (0 : Int32))), (.ref b8x4_8c1), (.int (0 : Int32)), (.ref b2)])
    have Pd5 := Fc1_0_3.pad (pad_rep [] (.int (0 : Int32)) 3)
    obtain ⟨T5, h5, L5, X5, e5, N5, Kq5, V5', st5⟩ := cpA X3 hx hZ hown (own_w hw 36 rfl) (own_w hw 39 rfl) (own_w hw 37 rfl) (own_w hw 38 rfl) e3 f4 Pd5 (Or.inl ⟨rfl, rfl⟩) (sp := (0 : Int32)) (dp := ((0 : Int32) - (0 : Int32))) (nn := (3 : Int32)) (by decide) (by decide) (by decide) (by decide) (by decide) (us := [(.int (nar .byte ((ip0 >>> ((8 : Int32) &&& 31)).toInt8.toInt32))), (.int (nar .byte ((ip0 >>> ((16 : Int32) &&& 31)).toInt8.toInt32))), (.int (nar .byte ((ip0 >>> ((24 : Int32) &&& 31)).toInt8.toInt32)))]) rfl (Nat.le_of_ble_eq_true rfl) N1 g_b8x4_8c1 (g := (mkF m 18 #[.val (.ref b9), .val (.ref b2)] [(.int (3 : Int32)), (.int ((0 : Int32) - (0 : Int32))), (.ref b8x4_8c1), (.int (0 : Int32)), (.ref b2)])) rfl (by rw [hml]; rfl) rfl (hb hby own_d3_18) (by decide) (W := 0) (by show 2 * 0 + _ ≤ _; exact Nat.le_of_eq rfl) (by decide)
    have V5 : Arv Z h5 b8x4_8c1 k8x4_8c1 .byte (512 : Int32) [(.int (nar .byte ((ip0 >>> ((8 : Int32) &&& 31)).toInt8.toInt32))), (.int (nar .byte ((ip0 >>> ((16 : Int32) &&& 31)).toInt8.toInt32))), (.int (nar .byte ((ip0 >>> ((24 : Int32) &&& 31)).toInt8.toInt32)))] (.int (0 : Int32)) := V5'
    refine own_st st5 ?_
    have K5 : Keep h0 h5 [b9] := K1.trans Kq5 (allS (Or.inr sz_b8x4_8c1) all0)
    have Z5 := Nat.le_trans Z1 Kq5.1
    show own_Go _ _ _ _ T5 (mkF m 21 #[.val (.ref b9), .val (.ref b2)] [])
    refine own_st (fun t k => XS.aloadN X5.here hx rfl (hb hby own_d3_21) rfl rfl k) ?_
    show own_Go _ _ _ _ T5 (mkF m 22 #[.val (.ref b9), .val (.ref b2)] [(.ref b9)])
    refine own_st (fun t k => XS.dup X5.here hx rfl (hb hby own_d3_22) rfl rfl k) ?_
    show own_Go _ _ _ _ T5 (mkF m 23 #[.val (.ref b9), .val (.ref b2)] [(.ref b9), (.ref b9)])
    have ne6 : b9 ≠ b8x4_8c1 := Nat.ne_of_lt (Nat.lt_of_lt_of_le P1.lt sz_b8x4_8c1)
    have f7 := (Fc1_0_1.keep Kq5 (ninS ne6 nin0))
    obtain ⟨T8, X8, e8, st8⟩ := getF X5 hx hZ hown (host := "") (Or.inl (own_w hw 23 rfl)) Via.refl e5 f7 (g := (mkF m 23 #[.val (.ref b9), .val (.ref b2)] [(.ref b9), (.ref b9)])) rfl rfl (hb hby own_d3_23)
    refine own_st st8 ?_
    show own_Go _ _ _ _ T8 (mkF m 26 #[.val (.ref b9), .val (.ref b2)] [(.int ((0 : Int32) - (0 : Int32))), (.ref b9)])
    refine own_st (fun t k => XS.aloadN X8.here hx rfl (hb hby own_d3_26) rfl rfl k) ?_
    show own_Go _ _ _ _ T8 (mkF m 27 #[.val (.ref b9), .val (.ref b2)] [(.ref b2), (.int ((0 : Int32) - (0 : Int32))), (.ref b9)])
    have ne9 : b2 ≠ b8x4_8c1 := Nat.ne_of_lt (Nat.lt_of_lt_of_le P0.lt sz_b8x4_8c1)
    have f10 := (f4.keep Kq5 (ninS ne9 nin0))
    refine own_st (own_alen X8 hx hZ e8 f10 (g := (mkF m 27 #[.val (.ref b9), .val (.ref b2)] [(.ref b2), (.int ((0 : Int32) - (0 : Int32))), (.ref b9)])) rfl rfl (hb hby own_d3_27)) ?_
    show own_Go _ _ _ _ T8 (mkF m 28 #[.val (.ref b9), .val (.ref b2)] [(.int (3 : Int32)), (.int ((0 : Int32) - (0 : Int32))), (.ref b9)])
    refine own_st (fun t k => XS.iadd X8.here hx rfl (hb hby own_d3_28) rfl k) ?_
    show own_Go _ _ _ _ T8 (mkF m 29 #[.val (.ref b9), .val (.ref b2)] [(.int (((0 : Int32) - (0 : Int32)) + (3 : Int32))), (.ref b9)])
    have f11 := (P5.keep K5)
    obtain ⟨T12, h12, X12, e12, W12, st12⟩ := putF X8 hx hZ hown (host := "") (Or.inl (own_w hw 23 rfl)) Via.refl e8 f7 f11 (Or.inl (own_w hw 24 rfl)) (own_w hw 2 rfl) (ty := .int) (by decide) rfl rfl (g := (mkF m 29 #[.val (.ref b9), .val (.ref b2)] [(.int (((0 : Int32) - (0 : Int32)) + (3 : Int32))), (.ref b9)])) rfl rfl (hb hby own_d3_29)
    refine own_st st12 ?_
    have K12 : Keep h0 h12 [b9] := K5.wr W12 (Or.inl (List.mem_of_getElem? (i := 0) rfl))
    have Z12 := Nat.le_trans Z5 (Keep.of_wr W12).1
    have N12 := Fr.snoc X12 N5 g_b9
    have F12 := f7.same W12
    show own_Go _ _ _ _ T12 (mkF m 32 #[.val (.ref b9), .val (.ref b2)] [])
    have f13 := ((Fc1_0_0.keep Kq5 (ninS ne6 nin0)).other W12 (Or.inr (slot_ne (Or.inl (own_w hw 13 rfl)) (Or.inl (own_w hw 24 rfl)) (by decide) (t := (.array .byte)) (t' := .int) (by decide) (by decide))))
    have f14 := ((Fc1_0_2.keep Kq5 (ninS ne6 nin0)).other W12 (Or.inr (slot_ne (Or.inl (own_w hw 31 rfl)) (Or.inl (own_w hw 24 rfl)) (by decide) (t := .int) (t' := .int) (by decide) (by decide))))
    have f15 := (V5.other W12 (Ne.symm ne6))
    have f16 := ((Fc1_0_4.keep Kq5).wr W12)
    exact own_retV X12 hx hlk hret (hb hby own_d3_32) (by decide) (by decide) e12 ⟨N12, K12, ⟨b8x4_8c1, _, rfl, hq1_0_0, sz_b8x4_8c1, f13, F12, f14, f15, f16, trivial⟩⟩
theorem own_pd4 : parseMethodDescriptor "([B)V" = some ⟨[(.array .byte)], none⟩ := by decide +kernel
theorem own_rem0 (x : Int32) : (x &&& (3 : Int32)) % ((3 : Int32) + (1 : Int32)) = (0 : Int32) ∨ (x &&& (3 : Int32)) % ((3 : Int32) + (1 : Int32)) = (1 : Int32) ∨ (x &&& (3 : Int32)) % ((3 : Int32) + (1 : Int32)) = (2 : Int32) ∨ (x &&& (3 : Int32)) % ((3 : Int32) + (1 : Int32)) = (3 : Int32) := by
  have e1 : (x &&& (3 : Int32)).toInt = x.toInt % 2 ^ 2 := Jvm.Kit.i32_mask x 3 (k := 2) (by decide) (by decide)
  have e2 : ((x &&& (3 : Int32)) % ((3 : Int32) + (1 : Int32))).toInt = (x &&& (3 : Int32)).toInt % ((3 : Int32) + (1 : Int32)).toInt := Jvm.Kit.i32_rem_nonneg (by omega)
  have e3 : ((3 : Int32) + (1 : Int32)).toInt = 4 := rfl
  rw [e3] at e2
  have z0 : (0 : Int32).toInt = 0 := rfl
  have z1 : (1 : Int32).toInt = 1 := rfl
  have z2 : (2 : Int32).toInt = 2 := rfl
  have z3 : (3 : Int32).toInt = 3 := rfl
  simp only [← Int32.toInt_inj]
  omega
theorem own_d7_0 : decode prog_47_method_9_code 0 = .ok (.iload_n 1, 1) := by decide +kernel
theorem own_d7_1 : decode prog_47_method_9_code 1 = .ok (.ifCond .lt 11, 3) := by decide +kernel
theorem own_d7_4 : decode prog_47_method_9_code 4 = .ok (.iload_n 1, 1) := by decide +kernel
theorem own_d7_5 : decode prog_47_method_9_code 5 = .ok (.aload_n 0, 1) := by decide +kernel
theorem own_d7_6 : decode prog_47_method_9_code 6 = .ok (.invokevirtual 23, 3) := by decide +kernel
theorem own_d7_9 : decode prog_47_method_9_code 9 = .ok (.if_icmp .le 12, 3) := by decide +kernel
theorem own_d7_21 : decode prog_47_method_9_code 21 = .ok (.aload_n 0, 1) := by decide +kernel
theorem own_d7_22 : decode prog_47_method_9_code 22 = .ok (.dup, 1) := by decide +kernel
theorem own_d7_23 : decode prog_47_method_9_code 23 = .ok (.getfield 20, 3) := by decide +kernel
theorem own_d7_26 : decode prog_47_method_9_code 26 = .ok (.iload_n 1, 1) := by decide +kernel
theorem own_d7_27 : decode prog_47_method_9_code 27 = .ok (.iadd, 1) := by decide +kernel
theorem own_d7_28 : decode prog_47_method_9_code 28 = .ok (.putfield 20, 3) := by decide +kernel
theorem own_d7_31 : decode prog_47_method_9_code 31 = .ok (.aload_n 0, 1) := by decide +kernel
theorem own_d7_32 : decode prog_47_method_9_code 32 = .ok (.getfield 20, 3) := by decide +kernel
theorem own_d7_35 : decode prog_47_method_9_code 35 = .ok (.aload_n 0, 1) := by decide +kernel
theorem own_d7_36 : decode prog_47_method_9_code 36 = .ok (.getfield 16, 3) := by decide +kernel
theorem own_d7_39 : decode prog_47_method_9_code 39 = .ok (.if_icmp .ne 7, 3) := by decide +kernel
theorem own_d7_46 : decode prog_47_method_9_code 46 = .ok (.return_, 1) := by decide +kernel
theorem own_ef7 (m : MethodId) (x0 : Addr) (x1 : Int32) : entryFrame m #[(.ref x0), (.int x1)] 2 = mkF m 0 #[.val (.ref x0), .val (.int x1)] [] := by first | (simp [entryFrame, mkF, argsToLocals, Value.category]; done) | rfl
def own_Q7_10 (Z : State) (b9 : Addr) (b8x4_8c1c18 : Addr) (h0 : Heap) (n0 : Nat) (v : Option Value) (h : Heap) (L : List Loc) : Prop := Fr n0 L ∧ Keep h0 h [b9] ∧ ((v = none ∧ Fld Z h b9 "com/example/backchannel/backchannel/server/ByteQueue" "end" "I" (.int (((0 : Int32) - (0 : Int32)) + (3 : Int32))) ∧ Fld Z h b9 "com/example/backchannel/backchannel/server/ByteQueue" "start" "I" (.int ((0 : Int32) + (0 : Int32))) ∧ Fld Z h b9 "com/example/backchannel/backchannel/server/ByteQueue" "bytes" "[B" (.ref b8x4_8c1c18) ∧ True))
set_option maxRecDepth 65536 in
set_option maxHeartbeats 40000000 in
theorem own_rm7_10 (l : Launch) (Z : State) (a0 : Array Value) (hw : ∀ d ∈ tables_1, d.before a0 Z = true) (ws : List Jvm.Cond) (b9 : Addr) (b8x4_8c1c18 : Addr) (h0 : Heap) (n0 : Nat) (Z0 : n0 ≤ h0.size) (P0 : Fld Z h0 b9 "com/example/backchannel/backchannel/server/ByteQueue" "end" "I" (.int (((0 : Int32) - (0 : Int32)) + (3 : Int32)))) (P1 : Fld Z h0 b9 "com/example/backchannel/backchannel/server/ByteQueue" "start" "I" (.int (0 : Int32))) (P2 : Exa Z h0 b9 "com/example/backchannel/backchannel/server/ByteQueue") (g_b9 : n0 ≤ b9) (P4 : Fld Z h0 b9 "com/example/backchannel/backchannel/server/ByteQueue" "bytes" "[B" (.ref b8x4_8c1c18)) :
    MetFree l (⟨"com/example/backchannel/backchannel/server/ByteQueue", "remove", "(I)V"⟩ : MethodName) (head1 (Jvm.Cond.code (⟨"com/example/backchannel/backchannel/server/ByteQueue", "remove", "(I)V"⟩ : MethodName) prog_47_method_9_code 2 none :: ws) ({ frames := 1, cells := 0, slots := 0, locals := 13 } : Room)) (fun a U => a = #[(.ref b9), (.int (0 : Int32))] ∧ Z.Warmed39 U.vm ∧ U.heap = h0) (fun _ _ _ _ _ => True) (fun _ U o U' => ∃ v L, o = .returned v ∧ own_Q7_10 Z b9 b8x4_8c1c18 h0 n0 v U'.heap L ∧ FrameEnd U o U' L ({ frames := 1, cells := 0, slots := 0, locals := 13 } : Room).cells ({ frames := 1, cells := 0, slots := 0, locals := 13 } : Room).slots) := by
  refine MetFree.of_bodySF (plainFor_of_name own_pn0) hisR ?_
  intro p e s m args below meth c s₁ Bd hml0 hP hK
  obtain ⟨rfl, hZ, hh⟩ := hP
  have hx := Bd.exec
  have hlk := Bd.notSynchronized
  have hret := Bd.returns
  have hby := Bd.bytes
  have hml : c.maxLocals = 2 := hml0
  have hown : s.vm.findClass "com/example/backchannel/backchannel/server/ByteQueue" = some m.cls := findClass_of_methodNamed Bd.named
  have hnm := (name_of_methodNamed Bd.named Bd.method).1
  have X0 : Stand p l e ({ frames := 1, cells := 0, slots := 0, locals := 13 } : Room) s m #[(.ref b9), (.int (0 : Int32))] below meth c s₁ [] 0 0 := Stand.of_body Bd
  have e0 : s₁.heap = h0 := by rw [← hh, Bd.state]; rfl
  have N0 := Fr.nil n0
  refine own_open (Q := own_Q7_10 Z b9 b8x4_8c1c18 h0 n0) (own_ef7 m b9 (0 : Int32)) ?_
  show own_Go _ _ _ _ s₁ (mkF m 0 #[.val (.ref b9), .val (.int (0 : Int32))] [])
  refine own_st (fun t k => XS.iloadN X0.here hx rfl (hb hby own_d7_0) rfl k) ?_
  show own_Go _ _ _ _ s₁ (mkF m 1 #[.val (.ref b9), .val (.int (0 : Int32))] [(.int (0 : Int32))])
  refine own_st (fun t k => XS.ifNo X0.here hx rfl (hb hby own_d7_1) rfl ((if0 _ _).trans (flt (by decide : ¬ ((0 : Int32) < (0 : Int32)))).1) k) ?_
  show own_Go _ _ _ _ s₁ (mkF m 4 #[.val (.ref b9), .val (.int (0 : Int32))] [])
  refine own_st (fun t k => XS.iloadN X0.here hx rfl (hb hby own_d7_4) rfl k) ?_
  show own_Go _ _ _ _ s₁ (mkF m 5 #[.val (.ref b9), .val (.int (0 : Int32))] [(.int (0 : Int32))])
  refine own_st (fun t k => XS.aloadN X0.here hx rfl (hb hby own_d7_5) rfl rfl k) ?_
  show own_Go _ _ _ _ s₁ (mkF m 6 #[.val (.ref b9), .val (.int (0 : Int32))] [(.ref b9), (.int (0 : Int32))])
  obtain ⟨cq1, kq1, q1a, q1b, q1c⟩ := isOf hZ e0 P2
  obtain ⟨_, _, ⟨T1, L1, k1, n1⟩, -, X1, ⟨Lc1, hQ1, l1, y1, z1⟩, st1⟩ := X0.virtualBack hx (y := (⟨"com/example/backchannel/backchannel/server/ByteQueue", "size", "()I"⟩ : MethodName)) (z := (⟨"com/example/backchannel/backchannel/server/ByteQueue", "size", "()I"⟩ : MethodName)) hown (mvT hZ (own_w hw 25 rfl)) (mvT hZ (own_w hw 26 rfl)) (notFace_of_selects (args := #[]) (mvT hZ (own_w hw 28 rfl))) (mvT hZ (own_w hw 28 rfl)) (mvT hZ (own_w hw 27 rfl)) (by decide) (backOf (W := 1) (own_rm5 l Z a0 hw [] b9 (((0 : Int32) - (0 : Int32)) + (3 : Int32)) (0 : Int32) h0 n0 Z0 P0 P1) hZ (own_w hw 29 rfl) (own_w hw 3 rfl) (by decide) (by decide)) q1a q1c (g := (mkF m 6 #[.val (.ref b9), .val (.int (0 : Int32))] [(.ref b9), (.int (0 : Int32))])) rfl (by rw [hml]; rfl) (Steps.refl _) (argsL := []) (rest := [(.int (0 : Int32))]) (lenOf own_pd1 rfl) rfl (by show 2 * 0 + _ ≤ _; exact Nat.le_of_eq rfl) (hb hby own_d7_6) (fun _ _ => ⟨rfl, e0, (by decide : 0 + 0 ≤ _), (by decide : 0 + 0 ≤ _)⟩)
  dsimp only [Pt.U, Pt.locs, Pt.cells, Pt.slots] at X1 l1 y1 z1 st1 hQ1
  subst l1 y1 z1
  obtain ⟨N1q, e1, hL1⟩ := hQ1
  have N1 := Fr.app N0 N1q
  rcases hL1 with ⟨rfl, -⟩
  · skip
    refine own_st (fun t k => st1.trans k) ?_
    show own_Go _ _ _ _ T1 (mkF m 9 #[.val (.ref b9), .val (.int (0 : Int32))] [(.int ((((0 : Int32) - (0 : Int32)) + (3 : Int32)) - (0 : Int32))), (.int (0 : Int32))])
    refine own_st (fun t k => XS.icmpYes X1.here hx rfl (pc0 := 9) (pc' := 21) rfl (hb hby own_d7_9) rfl (flt (by decide : ¬ (((((0 : Int32) - (0 : Int32)) + (3 : Int32)) - (0 : Int32)) < (0 : Int32)))).2.2.2 (by decide) (by decide) k) ?_
    show own_Go _ _ _ _ T1 (mkF m 21 #[.val (.ref b9), .val (.int (0 : Int32))] [])
    refine own_st (fun t k => XS.aloadN X1.here hx rfl (hb hby own_d7_21) rfl rfl k) ?_
    show own_Go _ _ _ _ T1 (mkF m 22 #[.val (.ref b9), .val (.int (0 : Int32))] [(.ref b9)])
    refine own_st (fun t k => XS.dup X1.here hx rfl (hb hby own_d7_22) rfl rfl k) ?_
    show own_Go _ _ _ _ T1 (mkF m 23 #[.val (.ref b9), .val (.int (0 : Int32))] [(.ref b9), (.ref b9)])
    obtain ⟨T2, X2, e2, st2⟩ := getF X1 hx hZ hown (host := "") (Or.inl (own_w hw 30 rfl)) Via.refl e1 P1 (g := (mkF m 23 #[.val (.ref b9), .val (.int (0 : Int32))] [(.ref b9), (.ref b9)])) rfl rfl (hb hby own_d7_23)
    refine own_st st2 ?_
    show own_Go _ _ _ _ T2 (mkF m 26 #[.val (.ref b9), .val (.int (0 : Int32))] [(.int (0 : Int32)), (.ref b9)])
    refine own_st (fun t k => XS.iloadN X2.here hx rfl (hb hby own_d7_26) rfl k) ?_
    show own_Go _ _ _ _ T2 (mkF m 27 #[.val (.ref b9), .val (.int (0 : Int32))] [(.int (0 : Int32)), (.int (0 : Int32)), (.ref b9)])
    refine own_st (fun t k => XS.iadd X2.here hx rfl (hb hby own_d7_27) rfl k) ?_
    show own_Go _ _ _ _ T2 (mkF m 28 #[.val (.ref b9), .val (.int (0 : Int32))] [(.int ((0 : Int32) + (0 : Int32))), (.ref b9)])
    obtain ⟨T3, h3, X3, e3, W3, st3⟩ := putF X2 hx hZ hown (host := "") (Or.inl (own_w hw 30 rfl)) Via.refl e2 P1 P2 (Or.inl (own_w hw 31 rfl)) (own_w hw 2 rfl) (ty := .int) (by decide) rfl rfl (g := (mkF m 28 #[.val (.ref b9), .val (.int (0 : Int32))] [(.int ((0 : Int32) + (0 : Int32))), (.ref b9)])) rfl rfl (hb hby own_d7_28)
    refine own_st st3 ?_
    have K3 : Keep h0 h3 [b9] := (Keep.refl h0 [b9]).wr W3 (Or.inl (List.mem_of_getElem? (i := 0) rfl))
    have Z3 := Nat.le_trans Z0 (Keep.of_wr W3).1
    have N3 := Fr.snoc X3 N1 g_b9
    have F3 := P1.same W3
    show own_Go _ _ _ _ T3 (mkF m 31 #[.val (.ref b9), .val (.int (0 : Int32))] [])
    refine own_st (fun t k => XS.aloadN X3.here hx rfl (hb hby own_d7_31) rfl rfl k) ?_
    show own_Go _ _ _ _ T3 (mkF m 32 #[.val (.ref b9), .val (.int (0 : Int32))] [(.ref b9)])
    obtain ⟨T4, X4, e4, st4⟩ := getF X3 hx hZ hown (host := "") (Or.inl (own_w hw 30 rfl)) Via.refl e3 F3 (g := (mkF m 32 #[.val (.ref b9), .val (.int (0 : Int32))] [(.ref b9)])) rfl rfl (hb hby own_d7_32)
    refine own_st st4 ?_
    show own_Go _ _ _ _ T4 (mkF m 35 #[.val (.ref b9), .val (.int (0 : Int32))] [(.int ((0 : Int32) + (0 : Int32)))])
    refine own_st (fun t k => XS.aloadN X4.here hx rfl (hb hby own_d7_35) rfl rfl k) ?_
    show own_Go _ _ _ _ T4 (mkF m 36 #[.val (.ref b9), .val (.int (0 : Int32))] [(.ref b9), (.int ((0 : Int32) + (0 : Int32)))])
    have f5 := (P0.other W3 (Or.inr (slot_ne (Or.inl (own_w hw 24 rfl)) (Or.inl (own_w hw 31 rfl)) (by decide) (t := .int) (t' := .int) (by decide) (by decide))))
    obtain ⟨T6, X6, e6, st6⟩ := getF X4 hx hZ hown (host := "") (Or.inl (own_w hw 23 rfl)) Via.refl e4 f5 (g := (mkF m 36 #[.val (.ref b9), .val (.int (0 : Int32))] [(.ref b9), (.int ((0 : Int32) + (0 : Int32)))])) rfl rfl (hb hby own_d7_36)
    refine own_st st6 ?_
    show own_Go _ _ _ _ T6 (mkF m 39 #[.val (.ref b9), .val (.int (0 : Int32))] [(.int (((0 : Int32) - (0 : Int32)) + (3 : Int32))), (.int ((0 : Int32) + (0 : Int32)))])
    refine own_st (fun t k => XS.icmpYes X6.here hx rfl (pc0 := 39) (pc' := 46) rfl (hb hby own_d7_39) rfl (feq (by decide : ¬ (((0 : Int32) + (0 : Int32)) = (((0 : Int32) - (0 : Int32)) + (3 : Int32))))).2 (by decide) (by decide) k) ?_
    show own_Go _ _ _ _ T6 (mkF m 46 #[.val (.ref b9), .val (.int (0 : Int32))] [])
    have f7 := (P4.other W3 (Or.inr (slot_ne (Or.inl (own_w hw 13 rfl)) (Or.inl (own_w hw 31 rfl)) (by decide) (t := (.array .byte)) (t' := .int) (by decide) (by decide))))
    exact own_retV X6 hx hlk hret (hb hby own_d7_46) (by decide) (by decide) e6 ⟨N3, K3, ⟨rfl, f5, F3, f7, trivial⟩⟩
theorem own_d8_0 : decode prog_47_method_11_code 0 = .ok (.aload_n 0, 1) := by decide +kernel
theorem own_d8_1 : decode prog_47_method_11_code 1 = .ok (.getstatic 7, 3) := by decide +kernel
theorem own_d8_4 : decode prog_47_method_11_code 4 = .ok (.putfield 13, 3) := by decide +kernel
theorem own_d8_7 : decode prog_47_method_11_code 7 = .ok (.aload_n 0, 1) := by decide +kernel
theorem own_d8_8 : decode prog_47_method_11_code 8 = .ok (.iconst 0, 1) := by decide +kernel
theorem own_d8_9 : decode prog_47_method_11_code 9 = .ok (.putfield 20, 3) := by decide +kernel
theorem own_d8_12 : decode prog_47_method_11_code 12 = .ok (.aload_n 0, 1) := by decide +kernel
theorem own_d8_13 : decode prog_47_method_11_code 13 = .ok (.iconst 0, 1) := by decide +kernel
theorem own_d8_14 : decode prog_47_method_11_code 14 = .ok (.putfield 16, 3) := by decide +kernel
theorem own_d8_17 : decode prog_47_method_11_code 17 = .ok (.return_, 1) := by decide +kernel
theorem own_ef8 (m : MethodId) (x0 : Addr) : entryFrame m #[(.ref x0)] 1 = mkF m 0 #[.val (.ref x0)] [] := by first | (simp [entryFrame, mkF, argsToLocals, Value.category]; done) | rfl
def own_Q8_12 (Z : State) (b9 : Addr) (w_NONE : Addr) (b8x4_8c1c18 : Addr) (h0 : Heap) (n0 : Nat) (v : Option Value) (h : Heap) (L : List Loc) : Prop := Fr n0 L ∧ Keep h0 h [b9] ∧ ((v = none ∧ Fld Z h b9 "com/example/backchannel/backchannel/server/ByteQueue" "bytes" "[B" (.ref w_NONE) ∧ Fld Z h b9 "com/example/backchannel/backchannel/server/ByteQueue" "start" "I" (.int (0 : Int32)) ∧ Fld Z h b9 "com/example/backchannel/backchannel/server/ByteQueue" "end" "I" (.int (0 : Int32)) ∧ True))
set_option maxRecDepth 65536 in
set_option maxHeartbeats 40000000 in
theorem own_rm8_12 (l : Launch) (Z : State) (a0 : Array Value) (hw : ∀ d ∈ tables_1, d.before a0 Z = true) (ws : List Jvm.Cond) (b9 : Addr) (w_NONE : Addr) (b8x4_8c1c18 : Addr) (h0 : Heap) (n0 : Nat) (Z0 : n0 ≤ h0.size) (P0 : Sta Z h0 "com/example/backchannel/backchannel/server/ByteQueue" "NONE" "[B" (.ref w_NONE)) (P1 : Exa Z h0 b9 "com/example/backchannel/backchannel/server/ByteQueue") (P2 : Fld Z h0 b9 "com/example/backchannel/backchannel/server/ByteQueue" "bytes" "[B" (.ref b8x4_8c1c18)) (g_b9 : n0 ≤ b9) (P4 : Fld Z h0 b9 "com/example/backchannel/backchannel/server/ByteQueue" "start" "I" (.int ((0 : Int32) + (0 : Int32)))) (P5 : Fld Z h0 b9 "com/example/backchannel/backchannel/server/ByteQueue" "end" "I" (.int (((0 : Int32) - (0 : Int32)) + (3 : Int32)))) :
    MetFree l (⟨"com/example/backchannel/backchannel/server/ByteQueue", "clear", "()V"⟩ : MethodName) (head1 (Jvm.Cond.code (⟨"com/example/backchannel/backchannel/server/ByteQueue", "clear", "()V"⟩ : MethodName) prog_47_method_11_code 1 none :: ws) ({ frames := 0, cells := 0, slots := 0, locals := 0 } : Room)) (fun a U => a = #[(.ref b9)] ∧ Z.Warmed39 U.vm ∧ U.heap = h0) (fun _ _ _ _ _ => True) (fun _ U o U' => ∃ v L, o = .returned v ∧ own_Q8_12 Z b9 w_NONE b8x4_8c1c18 h0 n0 v U'.heap L ∧ FrameEnd U o U' L ({ frames := 0, cells := 0, slots := 0, locals := 0 } : Room).cells ({ frames := 0, cells := 0, slots := 0, locals := 0 } : Room).slots) := by
  refine MetFree.of_bodySF (plainFor_of_name own_pn0) hisR ?_
  intro p e s m args below meth c s₁ Bd hml0 hP hK
  obtain ⟨rfl, hZ, hh⟩ := hP
  have hx := Bd.exec
  have hlk := Bd.notSynchronized
  have hret := Bd.returns
  have hby := Bd.bytes
  have hml : c.maxLocals = 1 := hml0
  have hown : s.vm.findClass "com/example/backchannel/backchannel/server/ByteQueue" = some m.cls := findClass_of_methodNamed Bd.named
  have hnm := (name_of_methodNamed Bd.named Bd.method).1
  have X0 : Stand p l e ({ frames := 0, cells := 0, slots := 0, locals := 0 } : Room) s m #[(.ref b9)] below meth c s₁ [] 0 0 := Stand.of_body Bd
  have e0 : s₁.heap = h0 := by rw [← hh, Bd.state]; rfl
  have N0 := Fr.nil n0
  refine own_open (Q := own_Q8_12 Z b9 w_NONE b8x4_8c1c18 h0 n0) (own_ef8 m b9) ?_
  show own_Go _ _ _ _ s₁ (mkF m 0 #[.val (.ref b9)] [])
  refine own_st (fun t k => XS.aloadN X0.here hx rfl (hb hby own_d8_0) rfl rfl k) ?_
  show own_Go _ _ _ _ s₁ (mkF m 1 #[.val (.ref b9)] [(.ref b9)])
  obtain ⟨T1, X1, e1, st1⟩ := getS2 X0 hx hZ hown (host := "") (Or.inl (own_w hw 10 rfl)) Via.refl e0 P0 (g := (mkF m 1 #[.val (.ref b9)] [(.ref b9)])) rfl (hb hby own_d8_1)
  refine own_st st1 ?_
  show own_Go _ _ _ _ T1 (mkF m 4 #[.val (.ref b9)] [(.ref w_NONE), (.ref b9)])
  obtain ⟨T2, h2, X2, e2, W2, st2⟩ := putF X1 hx hZ hown (host := "") (Or.inl (own_w hw 12 rfl)) Via.refl e1 P2 P1 (Or.inl (own_w hw 13 rfl)) (own_w hw 2 rfl) (ty := (.array .byte)) (by decide) rfl rfl (g := (mkF m 4 #[.val (.ref b9)] [(.ref w_NONE), (.ref b9)])) rfl rfl (hb hby own_d8_4)
  refine own_st st2 ?_
  have K2 : Keep h0 h2 [b9] := (Keep.refl h0 [b9]).wr W2 (Or.inl (List.mem_of_getElem? (i := 0) rfl))
  have Z2 := Nat.le_trans Z0 (Keep.of_wr W2).1
  have N2 := Fr.snoc X2 N0 g_b9
  have F2 := P2.same W2
  show own_Go _ _ _ _ T2 (mkF m 7 #[.val (.ref b9)] [])
  refine own_st (fun t k => XS.aloadN X2.here hx rfl (hb hby own_d8_7) rfl rfl k) ?_
  show own_Go _ _ _ _ T2 (mkF m 8 #[.val (.ref b9)] [(.ref b9)])
  refine own_st (fun t k => XS.iconst X2.here hx rfl (hb hby own_d8_8) k) ?_
  show own_Go _ _ _ _ T2 (mkF m 9 #[.val (.ref b9)] [(.int (0 : Int32)), (.ref b9)])
  have f3 := (P1.wr W2)
  have f4 := (P4.other W2 (Or.inr (slot_ne (Or.inl (own_w hw 31 rfl)) (Or.inl (own_w hw 13 rfl)) (by decide) (t := .int) (t' := (.array .byte)) (by decide) (by decide))))
  obtain ⟨T5, h5, X5, e5, W5, st5⟩ := putF X2 hx hZ hown (host := "") (Or.inl (own_w hw 30 rfl)) Via.refl e2 f4 f3 (Or.inl (own_w hw 31 rfl)) (own_w hw 2 rfl) (ty := .int) (by decide) rfl rfl (g := (mkF m 9 #[.val (.ref b9)] [(.int (0 : Int32)), (.ref b9)])) rfl rfl (hb hby own_d8_9)
  refine own_st st5 ?_
  have K5 : Keep h0 h5 [b9] := K2.wr W5 (Or.inl (List.mem_of_getElem? (i := 0) rfl))
  have Z5 := Nat.le_trans Z2 (Keep.of_wr W5).1
  have N5 := Fr.snoc X5 N2 g_b9
  have F5 := f4.same W5
  show own_Go _ _ _ _ T5 (mkF m 12 #[.val (.ref b9)] [])
  refine own_st (fun t k => XS.aloadN X5.here hx rfl (hb hby own_d8_12) rfl rfl k) ?_
  show own_Go _ _ _ _ T5 (mkF m 13 #[.val (.ref b9)] [(.ref b9)])
  refine own_st (fun t k => XS.iconst X5.here hx rfl (hb hby own_d8_13) k) ?_
  show own_Go _ _ _ _ T5 (mkF m 14 #[.val (.ref b9)] [(.int (0 : Int32)), (.ref b9)])
  have f6 := (f3.wr W5)
  have f7 := ((P5.other W2 (Or.inr (slot_ne (Or.inl (own_w hw 24 rfl)) (Or.inl (own_w hw 13 rfl)) (by decide) (t := .int) (t' := (.array .byte)) (by decide) (by decide)))).other W5 (Or.inr (slot_ne (Or.inl (own_w hw 24 rfl)) (Or.inl (own_w hw 31 rfl)) (by decide) (t := .int) (t' := .int) (by decide) (by decide))))
  obtain ⟨T8, h8, X8, e8, W8, st8⟩ := putF X5 hx hZ hown (host := "") (Or.inl (own_w hw 23 rfl)) Via.refl e5 f7 f6 (Or.inl (own_w hw 24 rfl)) (own_w hw 2 rfl) (ty := .int) (by decide) rfl rfl (g := (mkF m 14 #[.val (.ref b9)] [(.int (0 : Int32)), (.ref b9)])) rfl rfl (hb hby own_d8_14)
  refine own_st st8 ?_
  have K8 : Keep h0 h8 [b9] := K5.wr W8 (Or.inl (List.mem_of_getElem? (i := 0) rfl))
  have Z8 := Nat.le_trans Z5 (Keep.of_wr W8).1
  have N8 := Fr.snoc X8 N5 g_b9
  have F8 := f7.same W8
  show own_Go _ _ _ _ T8 (mkF m 17 #[.val (.ref b9)] [])
  have f9 := ((F2.other W5 (Or.inr (slot_ne (Or.inl (own_w hw 13 rfl)) (Or.inl (own_w hw 31 rfl)) (by decide) (t := (.array .byte)) (t' := .int) (by decide) (by decide)))).other W8 (Or.inr (slot_ne (Or.inl (own_w hw 13 rfl)) (Or.inl (own_w hw 24 rfl)) (by decide) (t := (.array .byte)) (t' := .int) (by decide) (by decide))))
  have f10 := (F5.other W8 (Or.inr (slot_ne (Or.inl (own_w hw 31 rfl)) (Or.inl (own_w hw 24 rfl)) (by decide) (t := .int) (t' := .int) (by decide) (by decide))))
  exact own_retV X8 hx hlk hret (hb hby own_d8_17) (by decide) (by decide) e8 ⟨N8, K8, ⟨rfl, f9, f10, F8, trivial⟩⟩
theorem own_d9_0 : decode prog_47_method_3_code 0 = .ok (.aload_n 0, 1) := by decide +kernel
theorem own_d9_1 : decode prog_47_method_3_code 1 = .ok (.getfield 16, 3) := by decide +kernel
theorem own_d9_4 : decode prog_47_method_3_code 4 = .ok (.aload_n 0, 1) := by decide +kernel
theorem own_d9_5 : decode prog_47_method_3_code 5 = .ok (.getfield 20, 3) := by decide +kernel
theorem own_d9_8 : decode prog_47_method_3_code 8 = .ok (.if_icmp .ne 7, 3) := by decide +kernel
theorem own_d9_11 : decode prog_47_method_3_code 11 = .ok (.iconst 1, 1) := by decide +kernel
theorem own_d9_12 : decode prog_47_method_3_code 12 = .ok (.goto 4, 3) := by decide +kernel
theorem own_d9_15 : decode prog_47_method_3_code 15 = .ok (.iconst 0, 1) := by decide +kernel
theorem own_d9_16 : decode prog_47_method_3_code 16 = .ok (.ireturn, 1) := by decide +kernel
theorem own_ef9 (m : MethodId) (x0 : Addr) : entryFrame m #[(.ref x0)] 1 = mkF m 0 #[.val (.ref x0)] [] := by first | (simp [entryFrame, mkF, argsToLocals, Value.category]; done) | rfl
def own_Q9 (rp0 : Addr) (u_end_rp0 : Int32) (u_start_rp0 : Int32) (h0 : Heap) (n0 : Nat) (v : Option Value) (h : Heap) (L : List Loc) : Prop := Fr n0 L ∧ h = h0 ∧ ((v = some (.int (1 : Int32)) ∧ (u_end_rp0 = u_start_rp0) ∧ True) ∨ (v = some (.int (0 : Int32)) ∧ (¬ (u_end_rp0 = u_start_rp0)) ∧ True))
set_option maxRecDepth 65536 in
set_option maxHeartbeats 40000000 in
theorem own_rm9 (l : Launch) (Z : State) (a0 : Array Value) (hw : ∀ d ∈ tables_1, d.before a0 Z = true) (ws : List Jvm.Cond) (rp0 : Addr) (u_end_rp0 : Int32) (u_start_rp0 : Int32) (h0 : Heap) (n0 : Nat) (Z0 : n0 ≤ h0.size) (F_end_rp0 : Fld Z h0 rp0 "com/example/backchannel/backchannel/server/ByteQueue" "end" "I" (.int u_end_rp0)) (F_start_rp0 : Fld Z h0 rp0 "com/example/backchannel/backchannel/server/ByteQueue" "start" "I" (.int u_start_rp0)) :
    MetFree l (⟨"com/example/backchannel/backchannel/server/ByteQueue", "isEmpty", "()Z"⟩ : MethodName) (head1 (Jvm.Cond.code (⟨"com/example/backchannel/backchannel/server/ByteQueue", "isEmpty", "()Z"⟩ : MethodName) prog_47_method_3_code 1 (some .boolean) :: ws) ({ frames := 0, cells := 0, slots := 0, locals := 0 } : Room)) (fun a U => a = #[(.ref rp0)] ∧ Z.Warmed39 U.vm ∧ U.heap = h0) (fun _ _ _ _ _ => True) (fun _ U o U' => ∃ v L, o = .returned v ∧ own_Q9 rp0 u_end_rp0 u_start_rp0 h0 n0 v U'.heap L ∧ FrameEnd U o U' L ({ frames := 0, cells := 0, slots := 0, locals := 0 } : Room).cells ({ frames := 0, cells := 0, slots := 0, locals := 0 } : Room).slots) := by
  refine MetFree.of_bodySF (plainFor_of_name own_pn0) hisR ?_
  intro p e s m args below meth c s₁ Bd hml0 hP hK
  obtain ⟨rfl, hZ, hh⟩ := hP
  have hx := Bd.exec
  have hlk := Bd.notSynchronized
  have hret := Bd.returns
  have hby := Bd.bytes
  have hml : c.maxLocals = 1 := hml0
  have hown : s.vm.findClass "com/example/backchannel/backchannel/server/ByteQueue" = some m.cls := findClass_of_methodNamed Bd.named
  have hnm := (name_of_methodNamed Bd.named Bd.method).1
  have X0 : Stand p l e ({ frames := 0, cells := 0, slots := 0, locals := 0 } : Room) s m #[(.ref rp0)] below meth c s₁ [] 0 0 := Stand.of_body Bd
  have e0 : s₁.heap = h0 := by rw [← hh, Bd.state]; rfl
  have N0 := Fr.nil n0
  refine own_open (Q := own_Q9 rp0 u_end_rp0 u_start_rp0 h0 n0) (own_ef9 m rp0) ?_
  show own_Go _ _ _ _ s₁ (mkF m 0 #[.val (.ref rp0)] [])
  refine own_st (fun t k => XS.aloadN X0.here hx rfl (hb hby own_d9_0) rfl rfl k) ?_
  show own_Go _ _ _ _ s₁ (mkF m 1 #[.val (.ref rp0)] [(.ref rp0)])
  obtain ⟨T1, X1, e1, st1⟩ := getF X0 hx hZ hown (host := "") (Or.inl (own_w hw 23 rfl)) Via.refl e0 F_end_rp0 (g := (mkF m 1 #[.val (.ref rp0)] [(.ref rp0)])) rfl rfl (hb hby own_d9_1)
  refine own_st st1 ?_
  show own_Go _ _ _ _ T1 (mkF m 4 #[.val (.ref rp0)] [(.int u_end_rp0)])
  refine own_st (fun t k => XS.aloadN X1.here hx rfl (hb hby own_d9_4) rfl rfl k) ?_
  show own_Go _ _ _ _ T1 (mkF m 5 #[.val (.ref rp0)] [(.ref rp0), (.int u_end_rp0)])
  obtain ⟨T2, X2, e2, st2⟩ := getF X1 hx hZ hown (host := "") (Or.inl (own_w hw 30 rfl)) Via.refl e1 F_start_rp0 (g := (mkF m 5 #[.val (.ref rp0)] [(.ref rp0), (.int u_end_rp0)])) rfl rfl (hb hby own_d9_5)
  refine own_st st2 ?_
  show own_Go _ _ _ _ T2 (mkF m 8 #[.val (.ref rp0)] [(.int u_start_rp0), (.int u_end_rp0)])
  by_cases hc3 : u_end_rp0 = u_start_rp0
  · skip
    refine own_st (fun t k => XS.icmpNo X2.here hx rfl (hb hby own_d9_8) rfl (teq hc3).2 k) ?_
    show own_Go _ _ _ _ T2 (mkF m 11 #[.val (.ref rp0)] [])
    refine own_st (fun t k => XS.iconst X2.here hx rfl (hb hby own_d9_11) k) ?_
    show own_Go _ _ _ _ T2 (mkF m 12 #[.val (.ref rp0)] [(.int (1 : Int32))])
    refine own_st (fun t k => XS.goto X2.here hx rfl (pc0 := 12) (pc' := 16) rfl (hb hby own_d9_12) (by decide) (by decide) k) ?_
    show own_Go _ _ _ _ T2 (mkF m 16 #[.val (.ref rp0)] [(.int (1 : Int32))])
    exact own_retZ X2 hx hlk (t := .boolean) hret (by simp) (hb hby own_d9_16) (by decide) (by decide) e2 ⟨N0, rfl, (Or.inl ⟨rfl, hc3, trivial⟩)⟩
  · skip
    refine own_st (fun t k => XS.icmpYes X2.here hx rfl (pc0 := 8) (pc' := 15) rfl (hb hby own_d9_8) rfl (feq hc3).2 (by decide) (by decide) k) ?_
    show own_Go _ _ _ _ T2 (mkF m 15 #[.val (.ref rp0)] [])
    refine own_st (fun t k => XS.iconst X2.here hx rfl (hb hby own_d9_15) k) ?_
    show own_Go _ _ _ _ T2 (mkF m 16 #[.val (.ref rp0)] [(.int (0 : Int32))])
    exact own_retZ X2 hx hlk (t := .boolean) hret (by simp) (hb hby own_d9_16) (by decide) (by decide) e2 ⟨N0, rfl, (Or.inr ⟨rfl, hc3, trivial⟩)⟩
theorem own_pd5 : parseMethodDescriptor "()Z" = some ⟨[], some .boolean⟩ := by decide +kernel
def own_Q4_18 (Z : State) (b9 : Addr) (w_NONE : Addr) (k_w_NONE : ClassId) (h0 : Heap) (n0 : Nat) (v : Option Value) (h : Heap) (L : List Loc) : Prop := Fr n0 L ∧ Keep h0 h [b9] ∧ ((∃ b8x4_18 : Addr, ∃ k8x4_18 : ClassId, v = none ∧ (¬ ((512 : Int32) < (0 : Int32))) ∧ h0.size ≤ b8x4_18 ∧ Fld Z h b9 "com/example/backchannel/backchannel/server/ByteQueue" "bytes" "[B" (.ref b8x4_18) ∧ Fld Z h b9 "com/example/backchannel/backchannel/server/ByteQueue" "end" "I" (.int ((0 : Int32) - (0 : Int32))) ∧ Fld Z h b9 "com/example/backchannel/backchannel/server/ByteQueue" "start" "I" (.int (0 : Int32)) ∧ Arv Z h b8x4_18 k8x4_18 .byte (512 : Int32) [] (.int (0 : Int32)) ∧ Exa Z h b8x4_18 "[B" ∧ True))
set_option maxRecDepth 65536 in
set_option maxHeartbeats 40000000 in
theorem own_rm4_18 (l : Launch) (Z : State) (a0 : Array Value) (hw : ∀ d ∈ tables_1, d.before a0 Z = true) (ws : List Jvm.Cond) (b9 : Addr) (w_NONE : Addr) (k_w_NONE : ClassId) (h0 : Heap) (n0 : Nat) (Z0 : n0 ≤ h0.size) (P0 : Fld Z h0 b9 "com/example/backchannel/backchannel/server/ByteQueue" "bytes" "[B" (.ref w_NONE)) (P1 : Arv Z h0 w_NONE k_w_NONE .byte (0 : Int32) [] (.int (0 : Int32))) (P2 : Fld Z h0 b9 "com/example/backchannel/backchannel/server/ByteQueue" "end" "I" (.int (0 : Int32))) (P3 : Fld Z h0 b9 "com/example/backchannel/backchannel/server/ByteQueue" "start" "I" (.int (0 : Int32))) (P4 : Exa Z h0 b9 "com/example/backchannel/backchannel/server/ByteQueue") (g_b9 : n0 ≤ b9) :
    MetFree l (⟨"com/example/backchannel/backchannel/server/ByteQueue", "room", "(I)V"⟩ : MethodName) (head1 (Jvm.Cond.code (⟨"com/example/backchannel/backchannel/server/ByteQueue", "room", "(I)V"⟩ : MethodName) prog_47_method_12_code 6 none :: ws) ({ frames := 1, cells := 1, slots := 512, locals := 18 } : Room)) (fun a U => a = #[(.ref b9), (.int (2 : Int32))] ∧ Z.Warmed39 U.vm ∧ U.heap = h0) (fun _ _ _ _ _ => True) (fun _ U o U' => ∃ v L, o = .returned v ∧ own_Q4_18 Z b9 w_NONE k_w_NONE h0 n0 v U'.heap L ∧ FrameEnd U o U' L ({ frames := 1, cells := 1, slots := 512, locals := 18 } : Room).cells ({ frames := 1, cells := 1, slots := 512, locals := 18 } : Room).slots) := by
  refine MetFree.of_bodySF (plainFor_of_name own_pn0) hisR ?_
  intro p e s m args below meth c s₁ Bd hml0 hP hK
  obtain ⟨rfl, hZ, hh⟩ := hP
  have hx := Bd.exec
  have hlk := Bd.notSynchronized
  have hret := Bd.returns
  have hby := Bd.bytes
  have hml : c.maxLocals = 6 := hml0
  have hown : s.vm.findClass "com/example/backchannel/backchannel/server/ByteQueue" = some m.cls := findClass_of_methodNamed Bd.named
  have hnm := (name_of_methodNamed Bd.named Bd.method).1
  have X0 : Stand p l e ({ frames := 1, cells := 1, slots := 512, locals := 18 } : Room) s m #[(.ref b9), (.int (2 : Int32))] below meth c s₁ [] 0 0 := Stand.of_body Bd
  have e0 : s₁.heap = h0 := by rw [← hh, Bd.state]; rfl
  have N0 := Fr.nil n0
  refine own_open (Q := own_Q4_18 Z b9 w_NONE k_w_NONE h0 n0) (own_ef4 m b9 (2 : Int32)) ?_
  show own_Go _ _ _ _ s₁ (mkF m 0 #[.val (.ref b9), .val (.int (2 : Int32)), .unset, .unset, .unset, .unset] [])
  refine own_st (fun t k => XS.aloadN X0.here hx rfl (hb hby own_d4_0) rfl rfl k) ?_
  show own_Go _ _ _ _ s₁ (mkF m 1 #[.val (.ref b9), .val (.int (2 : Int32)), .unset, .unset, .unset, .unset] [(.ref b9)])
  obtain ⟨T1, X1, e1, st1⟩ := getF X0 hx hZ hown (host := "") (Or.inl (own_w hw 12 rfl)) Via.refl e0 P0 (g := (mkF m 1 #[.val (.ref b9), .val (.int (2 : Int32)), .unset, .unset, .unset, .unset] [(.ref b9)])) rfl rfl (hb hby own_d4_1)
  refine own_st st1 ?_
  show own_Go _ _ _ _ T1 (mkF m 4 #[.val (.ref b9), .val (.int (2 : Int32)), .unset, .unset, .unset, .unset] [(.ref w_NONE)])
  refine own_st (own_alen X1 hx hZ e1 P1 (g := (mkF m 4 #[.val (.ref b9), .val (.int (2 : Int32)), .unset, .unset, .unset, .unset] [(.ref w_NONE)])) rfl rfl (hb hby own_d4_4)) ?_
  show own_Go _ _ _ _ T1 (mkF m 5 #[.val (.ref b9), .val (.int (2 : Int32)), .unset, .unset, .unset, .unset] [(.int (0 : Int32))])
  refine own_st (fun t k => XS.aloadN X1.here hx rfl (hb hby own_d4_5) rfl rfl k) ?_
  show own_Go _ _ _ _ T1 (mkF m 6 #[.val (.ref b9), .val (.int (2 : Int32)), .unset, .unset, .unset, .unset] [(.ref b9), (.int (0 : Int32))])
  obtain ⟨T2, X2, e2, st2⟩ := getF X1 hx hZ hown (host := "") (Or.inl (own_w hw 23 rfl)) Via.refl e1 P2 (g := (mkF m 6 #[.val (.ref b9), .val (.int (2 : Int32)), .unset, .unset, .unset, .unset] [(.ref b9), (.int (0 : Int32))])) rfl rfl (hb hby own_d4_6)
  refine own_st st2 ?_
  show own_Go _ _ _ _ T2 (mkF m 9 #[.val (.ref b9), .val (.int (2 : Int32)), .unset, .unset, .unset, .unset] [(.int (0 : Int32)), (.int (0 : Int32))])
  refine own_st (fun t k => XS.isub X2.here hx rfl (hb hby own_d4_9) rfl k) ?_
  show own_Go _ _ _ _ T2 (mkF m 10 #[.val (.ref b9), .val (.int (2 : Int32)), .unset, .unset, .unset, .unset] [(.int ((0 : Int32) - (0 : Int32)))])
  refine own_st (fun t k => XS.iloadN X2.here hx rfl (hb hby own_d4_10) rfl k) ?_
  show own_Go _ _ _ _ T2 (mkF m 11 #[.val (.ref b9), .val (.int (2 : Int32)), .unset, .unset, .unset, .unset] [(.int (2 : Int32)), (.int ((0 : Int32) - (0 : Int32)))])
  refine own_st (fun t k => XS.icmpYes X2.here hx rfl (pc0 := 11) (pc' := 15) rfl (hb hby own_d4_11) rfl (tlt (by decide : ((0 : Int32) - (0 : Int32)) < (2 : Int32))).1 (by decide) (by decide) k) ?_
  show own_Go _ _ _ _ T2 (mkF m 15 #[.val (.ref b9), .val (.int (2 : Int32)), .unset, .unset, .unset, .unset] [])
  refine own_st (fun t k => XS.aloadN X2.here hx rfl (hb hby own_d4_15) rfl rfl k) ?_
  show own_Go _ _ _ _ T2 (mkF m 16 #[.val (.ref b9), .val (.int (2 : Int32)), .unset, .unset, .unset, .unset] [(.ref b9)])
  obtain ⟨cq3, kq3, q3a, q3b, q3c⟩ := isOf hZ e2 P4
  obtain ⟨_, _, ⟨T3, L3, k3, n3⟩, -, X3, ⟨Lc3, hQ3, l3, y3, z3⟩, st3⟩ := X2.virtualBack hx (y := (⟨"com/example/backchannel/backchannel/server/ByteQueue", "size", "()I"⟩ : MethodName)) (z := (⟨"com/example/backchannel/backchannel/server/ByteQueue", "size", "()I"⟩ : MethodName)) hown (mvT hZ (own_w hw 25 rfl)) (mvT hZ (own_w hw 26 rfl)) (notFace_of_selects (args := #[]) (mvT hZ (own_w hw 28 rfl))) (mvT hZ (own_w hw 28 rfl)) (mvT hZ (own_w hw 27 rfl)) (by decide) (backOf (W := 0) (own_rm5 l Z a0 hw [] b9 (0 : Int32) (0 : Int32) h0 n0 Z0 P2 P3) hZ (own_w hw 29 rfl) (own_w hw 3 rfl) (by decide) (by decide)) q3a q3c (g := (mkF m 16 #[.val (.ref b9), .val (.int (2 : Int32)), .unset, .unset, .unset, .unset] [(.ref b9)])) rfl (by rw [hml]; rfl) (Steps.refl _) (argsL := []) (rest := []) (lenOf own_pd1 rfl) rfl (by show 2 * 0 + _ ≤ _; exact Nat.le_of_eq rfl) (hb hby own_d4_16) (fun _ _ => ⟨rfl, e2, (by decide : 0 + 0 ≤ _), (by decide : 0 + 0 ≤ _)⟩)
  dsimp only [Pt.U, Pt.locs, Pt.cells, Pt.slots] at X3 l3 y3 z3 st3 hQ3
  subst l3 y3 z3
  obtain ⟨N3q, e3, hL3⟩ := hQ3
  have N3 := Fr.app N0 N3q
  rcases hL3 with ⟨rfl, -⟩
  · skip
    refine own_st (fun t k => st3.trans k) ?_
    show own_Go _ _ _ _ T3 (mkF m 19 #[.val (.ref b9), .val (.int (2 : Int32)), .unset, .unset, .unset, .unset] [(.int ((0 : Int32) - (0 : Int32)))])
    refine own_st (fun t k => XS.istoreN X3.here hx rfl (hb hby own_d4_19) rfl (l' := #[.val (.ref b9), .val (.int (2 : Int32)), .val (.int ((0 : Int32) - (0 : Int32))), .unset, .unset, .unset]) rfl k) ?_
    show own_Go _ _ _ _ T3 (mkF m 20 #[.val (.ref b9), .val (.int (2 : Int32)), .val (.int ((0 : Int32) - (0 : Int32))), .unset, .unset, .unset] [])
    refine own_st (fun t k => XS.iloadN X3.here hx rfl (hb hby own_d4_20) rfl k) ?_
    show own_Go _ _ _ _ T3 (mkF m 21 #[.val (.ref b9), .val (.int (2 : Int32)), .val (.int ((0 : Int32) - (0 : Int32))), .unset, .unset, .unset] [(.int ((0 : Int32) - (0 : Int32)))])
    refine own_st (fun t k => XS.iloadN X3.here hx rfl (hb hby own_d4_21) rfl k) ?_
    show own_Go _ _ _ _ T3 (mkF m 22 #[.val (.ref b9), .val (.int (2 : Int32)), .val (.int ((0 : Int32) - (0 : Int32))), .unset, .unset, .unset] [(.int (2 : Int32)), (.int ((0 : Int32) - (0 : Int32)))])
    refine own_st (fun t k => XS.iadd X3.here hx rfl (hb hby own_d4_22) rfl k) ?_
    show own_Go _ _ _ _ T3 (mkF m 23 #[.val (.ref b9), .val (.int (2 : Int32)), .val (.int ((0 : Int32) - (0 : Int32))), .unset, .unset, .unset] [(.int (((0 : Int32) - (0 : Int32)) + (2 : Int32)))])
    refine own_st (fun t k => XS.istoreN X3.here hx rfl (hb hby own_d4_23) rfl (l' := #[.val (.ref b9), .val (.int (2 : Int32)), .val (.int ((0 : Int32) - (0 : Int32))), .val (.int (((0 : Int32) - (0 : Int32)) + (2 : Int32))), .unset, .unset]) rfl k) ?_
    show own_Go _ _ _ _ T3 (mkF m 24 #[.val (.ref b9), .val (.int (2 : Int32)), .val (.int ((0 : Int32) - (0 : Int32))), .val (.int (((0 : Int32) - (0 : Int32)) + (2 : Int32))), .unset, .unset] [])
    refine own_st (fun t k => XS.aloadN X3.here hx rfl (hb hby own_d4_24) rfl rfl k) ?_
    show own_Go _ _ _ _ T3 (mkF m 25 #[.val (.ref b9), .val (.int (2 : Int32)), .val (.int ((0 : Int32) - (0 : Int32))), .val (.int (((0 : Int32) - (0 : Int32)) + (2 : Int32))), .unset, .unset] [(.ref b9)])
    obtain ⟨T4, X4, e4, st4⟩ := getF X3 hx hZ hown (host := "") (Or.inl (own_w hw 12 rfl)) Via.refl e3 P0 (g := (mkF m 25 #[.val (.ref b9), .val (.int (2 : Int32)), .val (.int ((0 : Int32) - (0 : Int32))), .val (.int (((0 : Int32) - (0 : Int32)) + (2 : Int32))), .unset, .unset] [(.ref b9)])) rfl rfl (hb hby own_d4_25)
    refine own_st st4 ?_
    show own_Go _ _ _ _ T4 (mkF m 28 #[.val (.ref b9), .val (.int (2 : Int32)), .val (.int ((0 : Int32) - (0 : Int32))), .val (.int (((0 : Int32) - (0 : Int32)) + (2 : Int32))), .unset, .unset] [(.ref w_NONE)])
    refine own_st (fun t k => XS.astore X4.here hx rfl (hb hby own_d4_28) rfl rfl (l' := #[.val (.ref b9), .val (.int (2 : Int32)), .val (.int ((0 : Int32) - (0 : Int32))), .val (.int (((0 : Int32) - (0 : Int32)) + (2 : Int32))), .val (.ref w_NONE), .unset]) rfl k) ?_
    show own_Go _ _ _ _ T4 (mkF m 30 #[.val (.ref b9), .val (.int (2 : Int32)), .val (.int ((0 : Int32) - (0 : Int32))), .val (.int (((0 : Int32) - (0 : Int32)) + (2 : Int32))), .val (.ref w_NONE), .unset] [])
    refine own_st (fun t k => XS.aloadN X4.here hx rfl (hb hby own_d4_30) rfl rfl k) ?_
    show own_Go _ _ _ _ T4 (mkF m 31 #[.val (.ref b9), .val (.int (2 : Int32)), .val (.int ((0 : Int32) - (0 : Int32))), .val (.int (((0 : Int32) - (0 : Int32)) + (2 : Int32))), .val (.ref w_NONE), .unset] [(.ref b9)])
    obtain ⟨T5, X5, e5, st5⟩ := getF X4 hx hZ hown (host := "") (Or.inl (own_w hw 12 rfl)) Via.refl e4 P0 (g := (mkF m 31 #[.val (.ref b9), .val (.int (2 : Int32)), .val (.int ((0 : Int32) - (0 : Int32))), .val (.int (((0 : Int32) - (0 : Int32)) + (2 : Int32))), .val (.ref w_NONE), .unset] [(.ref b9)])) rfl rfl (hb hby own_d4_31)
    refine own_st st5 ?_
    show own_Go _ _ _ _ T5 (mkF m 34 #[.val (.ref b9), .val (.int (2 : Int32)), .val (.int ((0 : Int32) - (0 : Int32))), .val (.int (((0 : Int32) - (0 : Int32)) + (2 : Int32))), .val (.ref w_NONE), .unset] [(.ref w_NONE)])
    refine own_st (own_alen X5 hx hZ e5 P1 (g := (mkF m 34 #[.val (.ref b9), .val (.int (2 : Int32)), .val (.int ((0 : Int32) - (0 : Int32))), .val (.int (((0 : Int32) - (0 : Int32)) + (2 : Int32))), .val (.ref w_NONE), .unset] [(.ref w_NONE)])) rfl rfl (hb hby own_d4_34)) ?_
    show own_Go _ _ _ _ T5 (mkF m 35 #[.val (.ref b9), .val (.int (2 : Int32)), .val (.int ((0 : Int32) - (0 : Int32))), .val (.int (((0 : Int32) - (0 : Int32)) + (2 : Int32))), .val (.ref w_NONE), .unset] [(.int (0 : Int32))])
    refine own_st (fun t k => XS.iloadN X5.here hx rfl (hb hby own_d4_35) rfl k) ?_
    show own_Go _ _ _ _ T5 (mkF m 36 #[.val (.ref b9), .val (.int (2 : Int32)), .val (.int ((0 : Int32) - (0 : Int32))), .val (.int (((0 : Int32) - (0 : Int32)) + (2 : Int32))), .val (.ref w_NONE), .unset] [(.int (((0 : Int32) - (0 : Int32)) + (2 : Int32))), (.int (0 : Int32))])
    refine own_st (fun t k => XS.icmpNo X5.here hx rfl (hb hby own_d4_36) rfl (tlt (by decide : (0 : Int32) < (((0 : Int32) - (0 : Int32)) + (2 : Int32)))).2.1 k) ?_
    show own_Go _ _ _ _ T5 (mkF m 39 #[.val (.ref b9), .val (.int (2 : Int32)), .val (.int ((0 : Int32) - (0 : Int32))), .val (.int (((0 : Int32) - (0 : Int32)) + (2 : Int32))), .val (.ref w_NONE), .unset] [])
    refine own_st (fun t k => XS.sipush X5.here hx rfl (hb hby own_d4_39) k) ?_
    show own_Go _ _ _ _ T5 (mkF m 42 #[.val (.ref b9), .val (.int (2 : Int32)), .val (.int ((0 : Int32) - (0 : Int32))), .val (.int (((0 : Int32) - (0 : Int32)) + (2 : Int32))), .val (.ref w_NONE), .unset] [(.int (512 : Int32))])
    refine own_st (fun t k => XS.aloadN X5.here hx rfl (hb hby own_d4_42) rfl rfl k) ?_
    show own_Go _ _ _ _ T5 (mkF m 43 #[.val (.ref b9), .val (.int (2 : Int32)), .val (.int ((0 : Int32) - (0 : Int32))), .val (.int (((0 : Int32) - (0 : Int32)) + (2 : Int32))), .val (.ref w_NONE), .unset] [(.ref b9), (.int (512 : Int32))])
    obtain ⟨T6, X6, e6, st6⟩ := getF X5 hx hZ hown (host := "") (Or.inl (own_w hw 12 rfl)) Via.refl e5 P0 (g := (mkF m 43 #[.val (.ref b9), .val (.int (2 : Int32)), .val (.int ((0 : Int32) - (0 : Int32))), .val (.int (((0 : Int32) - (0 : Int32)) + (2 : Int32))), .val (.ref w_NONE), .unset] [(.ref b9), (.int (512 : Int32))])) rfl rfl (hb hby own_d4_43)
    refine own_st st6 ?_
    show own_Go _ _ _ _ T6 (mkF m 46 #[.val (.ref b9), .val (.int (2 : Int32)), .val (.int ((0 : Int32) - (0 : Int32))), .val (.int (((0 : Int32) - (0 : Int32)) + (2 : Int32))), .val (.ref w_NONE), .unset] [(.ref w_NONE), (.int (512 : Int32))])
    refine own_st (own_alen X6 hx hZ e6 P1 (g := (mkF m 46 #[.val (.ref b9), .val (.int (2 : Int32)), .val (.int ((0 : Int32) - (0 : Int32))), .val (.int (((0 : Int32) - (0 : Int32)) + (2 : Int32))), .val (.ref w_NONE), .unset] [(.ref w_NONE), (.int (512 : Int32))])) rfl rfl (hb hby own_d4_46)) ?_
    show own_Go _ _ _ _ T6 (mkF m 47 #[.val (.ref b9), .val (.int (2 : Int32)), .val (.int ((0 : Int32) - (0 : Int32))), .val (.int (((0 : Int32) - (0 : Int32)) + (2 : Int32))), .val (.ref w_NONE), .unset] [(.int (0 : Int32)), (.int (512 : Int32))])
    obtain ⟨_, _, ⟨T7, L7, k7, n7⟩, -, X7, ⟨Lc7, hQ7, l7, y7, z7⟩, st7⟩ := Jvm.LawKit.callS X6 hx (y := (⟨"java/lang/Math", "max", "(II)I"⟩ : MethodName)) hown (mvT hZ (own_w hw 32 rfl)) (mvT hZ (own_w hw 33 rfl)) (mvT hZ (own_w hw 34 rfl)) (mvT hZ (own_w hw 35 rfl)) (by decide) (backOf (W := 0) (own_rm6 l Z a0 hw [] (512 : Int32) (0 : Int32) h0 n0 Z0 ) hZ (own_w hw 35 rfl) (own_w hw 34 rfl) (by decide) (by decide)) (g := (mkF m 47 #[.val (.ref b9), .val (.int (2 : Int32)), .val (.int ((0 : Int32) - (0 : Int32))), .val (.int (((0 : Int32) - (0 : Int32)) + (2 : Int32))), .val (.ref w_NONE), .unset] [(.int (0 : Int32)), (.int (512 : Int32))])) rfl (by rw [hml]; rfl) (argsL := [(.int (512 : Int32)), (.int (0 : Int32))]) (rest := []) (lenOf own_pd2 rfl) rfl (by show 2 * 0 + _ ≤ _; exact Nat.le_of_eq rfl) (hb hby own_d4_47) (fun _ _ => ⟨rfl, e6, (by decide : 0 + 0 ≤ _), (by decide : 0 + 0 ≤ _)⟩)
    dsimp only [Pt.U, Pt.locs, Pt.cells, Pt.slots] at X7 l7 y7 z7 st7 hQ7
    subst l7 y7 z7
    obtain ⟨N7q, e7, hL7⟩ := hQ7
    have N7 := Fr.app N3 N7q
    rcases hL7 with ⟨rfl, hq7_0_0, -⟩ | ⟨rfl, hq7_1_0, -⟩
    · skip
      exact absurd hq7_0_0 (by decide : ¬ ((512 : Int32) < (0 : Int32)))
    · skip
      refine own_st st7 ?_
      show own_Go _ _ _ _ T7 (mkF m 50 #[.val (.ref b9), .val (.int (2 : Int32)), .val (.int ((0 : Int32) - (0 : Int32))), .val (.int (((0 : Int32) - (0 : Int32)) + (2 : Int32))), .val (.ref w_NONE), .unset] [(.int (512 : Int32))])
      refine own_st (fun t k => XS.istore X7.here hx rfl (hb hby own_d4_50) rfl (l' := #[.val (.ref b9), .val (.int (2 : Int32)), .val (.int ((0 : Int32) - (0 : Int32))), .val (.int (((0 : Int32) - (0 : Int32)) + (2 : Int32))), .val (.ref w_NONE), .val (.int (512 : Int32))]) rfl k) ?_
      show own_Go _ _ _ _ T7 (mkF m 52 #[.val (.ref b9), .val (.int (2 : Int32)), .val (.int ((0 : Int32) - (0 : Int32))), .val (.int (((0 : Int32) - (0 : Int32)) + (2 : Int32))), .val (.ref w_NONE), .val (.int (512 : Int32))] [])
      refine own_st (fun t k => XS.iload X7.here hx rfl (hb hby own_d4_52) rfl k) ?_
      show own_Go _ _ _ _ T7 (mkF m 54 #[.val (.ref b9), .val (.int (2 : Int32)), .val (.int ((0 : Int32) - (0 : Int32))), .val (.int (((0 : Int32) - (0 : Int32)) + (2 : Int32))), .val (.ref w_NONE), .val (.int (512 : Int32))] [(.int (512 : Int32))])
      refine own_st (fun t k => XS.iloadN X7.here hx rfl (hb hby own_d4_54) rfl k) ?_
      show own_Go _ _ _ _ T7 (mkF m 55 #[.val (.ref b9), .val (.int (2 : Int32)), .val (.int ((0 : Int32) - (0 : Int32))), .val (.int (((0 : Int32) - (0 : Int32)) + (2 : Int32))), .val (.ref w_NONE), .val (.int (512 : Int32))] [(.int (((0 : Int32) - (0 : Int32)) + (2 : Int32))), (.int (512 : Int32))])
      refine own_st (fun t k => XS.icmpYes X7.here hx rfl (pc0 := 55) (pc' := 67) rfl (hb hby own_d4_55) rfl (flt (by decide : ¬ ((512 : Int32) < (((0 : Int32) - (0 : Int32)) + (2 : Int32))))).2.1 (by decide) (by decide) k) ?_
      show own_Go _ _ _ _ T7 (mkF m 67 #[.val (.ref b9), .val (.int (2 : Int32)), .val (.int ((0 : Int32) - (0 : Int32))), .val (.int (((0 : Int32) - (0 : Int32)) + (2 : Int32))), .val (.ref w_NONE), .val (.int (512 : Int32))] [])
      refine own_st (fun t k => XS.iload X7.here hx rfl (hb hby own_d4_67) rfl k) ?_
      show own_Go _ _ _ _ T7 (mkF m 69 #[.val (.ref b9), .val (.int (2 : Int32)), .val (.int ((0 : Int32) - (0 : Int32))), .val (.int (((0 : Int32) - (0 : Int32)) + (2 : Int32))), .val (.ref w_NONE), .val (.int (512 : Int32))] [(.int (512 : Int32))])
      obtain ⟨T8, h8, k8x4_18, X8, e8, E8, A8, Ex8, st8⟩ := newPE X7 hx hZ (own_w hw 0 rfl) e7 (g := (mkF m 69 #[.val (.ref b9), .val (.int (2 : Int32)), .val (.int ((0 : Int32) - (0 : Int32))), .val (.int (((0 : Int32) - (0 : Int32)) + (2 : Int32))), .val (.ref w_NONE), .val (.int (512 : Int32))] [(.int (512 : Int32))])) rfl (hb hby own_d4_69) rfl (by decide) (cap := 512) (by decide) (by decide) (by decide) (by decide) (ad := "[B") (by decide +kernel)
      obtain ⟨b8x4_18, g8⟩ : ∃ z, z = h0.size := ⟨_, rfl⟩
      rw [← g8] at A8 Ex8 st8
      have g_b8x4_18 : n0 ≤ b8x4_18 := Nat.le_trans Z0 (Nat.le_of_eq g8.symm)
      have sz_b8x4_18 : h0.size ≤ b8x4_18 := Nat.le_trans (Keep.refl h0 [b9]).1 (Nat.le_of_eq g8.symm)
      refine own_st st8 ?_
      have K8 : Keep h0 h8 [b9] := (Keep.refl h0 [b9]).ext E8
      have Z8 := Nat.le_trans Z0 E8.1
      have V8 : Arv Z h8 b8x4_18 k8x4_18 .byte (512 : Int32) [] (.int (0 : Int32)) := Arv.new A8 (by decide)
      show own_Go _ _ _ _ T8 (mkF m 71 #[.val (.ref b9), .val (.int (2 : Int32)), .val (.int ((0 : Int32) - (0 : Int32))), .val (.int (((0 : Int32) - (0 : Int32)) + (2 : Int32))), .val (.ref w_NONE), .val (.int (512 : Int32))] [(.ref b8x4_18)])
      refine own_st (fun t k => XS.astore X8.here hx rfl (hb hby own_d4_71) rfl rfl (l' := #[.val (.ref b9), .val (.int (2 : Int32)), .val (.int ((0 : Int32) - (0 : Int32))), .val (.int (((0 : Int32) - (0 : Int32)) + (2 : Int32))), .val (.ref b8x4_18), .val (.int (512 : Int32))]) rfl k) ?_
      show own_Go _ _ _ _ T8 (mkF m 73 #[.val (.ref b9), .val (.int (2 : Int32)), .val (.int ((0 : Int32) - (0 : Int32))), .val (.int (((0 : Int32) - (0 : Int32)) + (2 : Int32))), .val (.ref b8x4_18), .val (.int (512 : Int32))] [])
      refine own_st (fun t k => XS.aloadN X8.here hx rfl (hb hby own_d4_73) rfl rfl k) ?_
      show own_Go _ _ _ _ T8 (mkF m 74 #[.val (.ref b9), .val (.int (2 : Int32)), .val (.int ((0 : Int32) - (0 : Int32))), .val (.int (((0 : Int32) - (0 : Int32)) + (2 : Int32))), .val (.ref b8x4_18), .val (.int (512 : Int32))] [(.ref b9)])
      have f9 := (P0.ext E8)
      obtain ⟨T10, X10, e10, st10⟩ := getF X8 hx hZ hown (host := "") (Or.inl (own_w hw 12 rfl)) Via.refl e8 f9 (g := (mkF m 74 #[.val (.ref b9), .val (.int (2 : Int32)), .val (.int ((0 : Int32) - (0 : Int32))), .val (.int (((0 : Int32) - (0 : Int32)) + (2 : Int32))), .val (.ref b8x4_18), .val (.int (512 : Int32))] [(.ref b9)])) rfl rfl (hb hby own_d4_74)
      refine own_st st10 ?_
      show own_Go _ _ _ _ T10 (mkF m 77 #[.val (.ref b9), .val (.int (2 : Int32)), .val (.int ((0 : Int32) - (0 : Int32))), .val (.int (((0 : Int32) - (0 : Int32)) + (2 : Int32))), .val (.ref b8x4_18), .val (.int (512 : Int32))] [(.ref w_NONE)])
      refine own_st (fun t k => XS.aloadN X10.here hx rfl (hb hby own_d4_77) rfl rfl k) ?_
      show own_Go _ _ _ _ T10 (mkF m 78 #[.val (.ref b9), .val (.int (2 : Int32)), .val (.int ((0 : Int32) - (0 : Int32))), .val (.int (((0 : Int32) - (0 : Int32)) + (2 : Int32))), .val (.ref b8x4_18), .val (.int (512 : Int32))] [(.ref b9), (.ref w_NONE)])
      have f11 := (P3.ext E8)
      obtain ⟨T12, X12, e12, st12⟩ := getF X10 hx hZ hown (host := "") (Or.inl (own_w hw 30 rfl)) Via.refl e10 f11 (g := (mkF m 78 #[.val (.ref b9), .val (.int (2 : Int32)), .val (.int ((0 : Int32) - (0 : Int32))), .val (.int (((0 : Int32) - (0 : Int32)) + (2 : Int32))), .val (.ref b8x4_18), .val (.int (512 : Int32))] [(.ref b9), (.ref w_NONE)])) rfl rfl (hb hby own_d4_78)
      refine own_st st12 ?_
      show own_Go _ _ _ _ T12 (mkF m 81 #[.val (.ref b9), .val (.int (2 : Int32)), .val (.int ((0 : Int32) - (0 : Int32))), .val (.int (((0 : Int32) - (0 : Int32)) + (2 : Int32))), .val (.ref b8x4_18), .val (.int (512 : Int32))] [(.int (0 : Int32)), (.ref w_NONE)])
      refine own_st (fun t k => XS.aload X12.here hx rfl (hb hby own_d4_81) rfl rfl k) ?_
      show own_Go _ _ _ _ T12 (mkF m 83 #[.val (.ref b9), .val (.int (2 : Int32)), .val (.int ((0 : Int32) - (0 : Int32))), .val (.int (((0 : Int32) - (0 : Int32)) + (2 : Int32))), .val (.ref b8x4_18), .val (.int (512 : Int32))] [(.ref b8x4_18), (.int (0 : Int32)), (.ref w_NONE)])
      refine own_st (fun t k => XS.iconst X12.here hx rfl (hb hby own_d4_83) k) ?_
      show own_Go _ _ _ _ T12 (mkF m 84 #[.val (.ref b9), .val (.int (2 : Int32)), .val (.int ((0 : Int32) - (0 : Int32))), .val (.int (((0 : Int32) - (0 : Int32)) + (2 : Int32))), .val (.ref b8x4_18), .val (.int (512 : Int32))] [(.int (0 : Int32)), (.ref b8x4_18), (.int (0 : Int32)), (.ref w_NONE)])
      refine own_st (fun t k => XS.iloadN X12.here hx rfl (hb hby own_d4_84) rfl k) ?_
      show own_Go _ _ _ _ T12 (mkF m 85 #[.val (.ref b9), .val (.int (2 : Int32)), .val (.int ((0 : Int32) - (0 : Int32))), .val (.int (((0 : Int32) - (0 : Int32)) + (2 : Int32))), .val (.ref b8x4_18), .val (.int (512 : Int32))] [(.int ((0 : Int32) - (0 : Int32))), (.int (0 : Int32)), (.ref b8x4_18), (.int (0 : Int32)), (.ref w_NONE)])
      have f14 := (P1.ext E8)
      obtain ⟨T13, h13, L13, X13, e13, N13, Kq13, V13', st13⟩ := cpA X12 hx hZ hown (own_w hw 36 rfl) (own_w hw 39 rfl) (own_w hw 37 rfl) (own_w hw 38 rfl) e12 f14 V8 (Or.inl ⟨rfl, rfl⟩) (sp := (0 : Int32)) (dp := (0 : Int32)) (nn := ((0 : Int32) - (0 : Int32))) (by decide) (by decide) (by decide) (by decide) (by decide) (us := []) rfl (Nat.le_of_ble_eq_true rfl) N7 g_b8x4_18 (g := (mkF m 85 #[.val (.ref b9), .val (.int (2 : Int32)), .val (.int ((0 : Int32) - (0 : Int32))), .val (.int (((0 : Int32) - (0 : Int32)) + (2 : Int32))), .val (.ref b8x4_18), .val (.int (512 : Int32))] [(.int ((0 : Int32) - (0 : Int32))), (.int (0 : Int32)), (.ref b8x4_18), (.int (0 : Int32)), (.ref w_NONE)])) rfl (by rw [hml]; rfl) rfl (hb hby own_d4_85) (by decide) (W := 0) (by show 2 * 0 + _ ≤ _; exact Nat.le_of_eq rfl) (by decide)
      have V13 : Arv Z h13 b8x4_18 k8x4_18 .byte (512 : Int32) [] (.int (0 : Int32)) := V13'
      refine own_st st13 ?_
      have K13 : Keep h0 h13 [b9] := K8.trans Kq13 (allS (Or.inr sz_b8x4_18) all0)
      have Z13 := Nat.le_trans Z8 Kq13.1
      show own_Go _ _ _ _ T13 (mkF m 88 #[.val (.ref b9), .val (.int (2 : Int32)), .val (.int ((0 : Int32) - (0 : Int32))), .val (.int (((0 : Int32) - (0 : Int32)) + (2 : Int32))), .val (.ref b8x4_18), .val (.int (512 : Int32))] [])
      refine own_st (fun t k => XS.aloadN X13.here hx rfl (hb hby own_d4_88) rfl rfl k) ?_
      show own_Go _ _ _ _ T13 (mkF m 89 #[.val (.ref b9), .val (.int (2 : Int32)), .val (.int ((0 : Int32) - (0 : Int32))), .val (.int (((0 : Int32) - (0 : Int32)) + (2 : Int32))), .val (.ref b8x4_18), .val (.int (512 : Int32))] [(.ref b9)])
      refine own_st (fun t k => XS.aload X13.here hx rfl (hb hby own_d4_89) rfl rfl k) ?_
      show own_Go _ _ _ _ T13 (mkF m 91 #[.val (.ref b9), .val (.int (2 : Int32)), .val (.int ((0 : Int32) - (0 : Int32))), .val (.int (((0 : Int32) - (0 : Int32)) + (2 : Int32))), .val (.ref b8x4_18), .val (.int (512 : Int32))] [(.ref b8x4_18), (.ref b9)])
      have f15 := (P4.keep K13)
      have ne16 : b9 ≠ b8x4_18 := Nat.ne_of_lt (Nat.lt_of_lt_of_le P0.lt sz_b8x4_18)
      have f17 := (f9.keep Kq13 (ninS ne16 nin0))
      obtain ⟨T18, h18, X18, e18, W18, st18⟩ := putF X13 hx hZ hown (host := "") (Or.inl (own_w hw 12 rfl)) Via.refl e13 f17 f15 (Or.inl (own_w hw 13 rfl)) (own_w hw 2 rfl) (ty := (.array .byte)) (by decide) rfl rfl (g := (mkF m 91 #[.val (.ref b9), .val (.int (2 : Int32)), .val (.int ((0 : Int32) - (0 : Int32))), .val (.int (((0 : Int32) - (0 : Int32)) + (2 : Int32))), .val (.ref b8x4_18), .val (.int (512 : Int32))] [(.ref b8x4_18), (.ref b9)])) rfl rfl (hb hby own_d4_91)
      refine own_st st18 ?_
      have K18 : Keep h0 h18 [b9] := K13.wr W18 (Or.inl (List.mem_of_getElem? (i := 0) rfl))
      have Z18 := Nat.le_trans Z13 (Keep.of_wr W18).1
      have N18 := Fr.snoc X18 N13 g_b9
      have F18 := f17.same W18
      show own_Go _ _ _ _ T18 (mkF m 94 #[.val (.ref b9), .val (.int (2 : Int32)), .val (.int ((0 : Int32) - (0 : Int32))), .val (.int (((0 : Int32) - (0 : Int32)) + (2 : Int32))), .val (.ref b8x4_18), .val (.int (512 : Int32))] [])
      refine own_st (fun t k => XS.aloadN X18.here hx rfl (hb hby own_d4_94) rfl rfl k) ?_
      show own_Go _ _ _ _ T18 (mkF m 95 #[.val (.ref b9), .val (.int (2 : Int32)), .val (.int ((0 : Int32) - (0 : Int32))), .val (.int (((0 : Int32) - (0 : Int32)) + (2 : Int32))), .val (.ref b8x4_18), .val (.int (512 : Int32))] [(.ref b9)])
      refine own_st (fun t k => XS.iconst X18.here hx rfl (hb hby own_d4_95) k) ?_
      show own_Go _ _ _ _ T18 (mkF m 96 #[.val (.ref b9), .val (.int (2 : Int32)), .val (.int ((0 : Int32) - (0 : Int32))), .val (.int (((0 : Int32) - (0 : Int32)) + (2 : Int32))), .val (.ref b8x4_18), .val (.int (512 : Int32))] [(.int (0 : Int32)), (.ref b9)])
      have f19 := (f15.wr W18)
      have f20 := ((f11.keep Kq13 (ninS ne16 nin0)).other W18 (Or.inr (slot_ne (Or.inl (own_w hw 31 rfl)) (Or.inl (own_w hw 13 rfl)) (by decide) (t := .int) (t' := (.array .byte)) (by decide) (by decide))))
      obtain ⟨T21, h21, X21, e21, W21, st21⟩ := putF X18 hx hZ hown (host := "") (Or.inl (own_w hw 30 rfl)) Via.refl e18 f20 f19 (Or.inl (own_w hw 31 rfl)) (own_w hw 2 rfl) (ty := .int) (by decide) rfl rfl (g := (mkF m 96 #[.val (.ref b9), .val (.int (2 : Int32)), .val (.int ((0 : Int32) - (0 : Int32))), .val (.int (((0 : Int32) - (0 : Int32)) + (2 : Int32))), .val (.ref b8x4_18), .val (.int (512 : Int32))] [(.int (0 : Int32)), (.ref b9)])) rfl rfl (hb hby own_d4_96)
      refine own_st st21 ?_
      have K21 : Keep h0 h21 [b9] := K18.wr W21 (Or.inl (List.mem_of_getElem? (i := 0) rfl))
      have Z21 := Nat.le_trans Z18 (Keep.of_wr W21).1
      have N21 := Fr.snoc X21 N18 g_b9
      have F21 := f20.same W21
      show own_Go _ _ _ _ T21 (mkF m 99 #[.val (.ref b9), .val (.int (2 : Int32)), .val (.int ((0 : Int32) - (0 : Int32))), .val (.int (((0 : Int32) - (0 : Int32)) + (2 : Int32))), .val (.ref b8x4_18), .val (.int (512 : Int32))] [])
      refine own_st (fun t k => XS.aloadN X21.here hx rfl (hb hby own_d4_99) rfl rfl k) ?_
      show own_Go _ _ _ _ T21 (mkF m 100 #[.val (.ref b9), .val (.int (2 : Int32)), .val (.int ((0 : Int32) - (0 : Int32))), .val (.int (((0 : Int32) - (0 : Int32)) + (2 : Int32))), .val (.ref b8x4_18), .val (.int (512 : Int32))] [(.ref b9)])
      refine own_st (fun t k => XS.iloadN X21.here hx rfl (hb hby own_d4_100) rfl k) ?_
      show own_Go _ _ _ _ T21 (mkF m 101 #[.val (.ref b9), .val (.int (2 : Int32)), .val (.int ((0 : Int32) - (0 : Int32))), .val (.int (((0 : Int32) - (0 : Int32)) + (2 : Int32))), .val (.ref b8x4_18), .val (.int (512 : Int32))] [(.int ((0 : Int32) - (0 : Int32))), (.ref b9)])
      have f22 := (f19.wr W21)
      have f23 := ((((P2.ext E8).keep Kq13 (ninS ne16 nin0)).other W18 (Or.inr (slot_ne (Or.inl (own_w hw 24 rfl)) (Or.inl (own_w hw 13 rfl)) (by decide) (t := .int) (t' := (.array .byte)) (by decide) (by decide)))).other W21 (Or.inr (slot_ne (Or.inl (own_w hw 24 rfl)) (Or.inl (own_w hw 31 rfl)) (by decide) (t := .int) (t' := .int) (by decide) (by decide))))
      obtain ⟨T24, h24, X24, e24, W24, st24⟩ := putF X21 hx hZ hown (host := "") (Or.inl (own_w hw 23 rfl)) Via.refl e21 f23 f22 (Or.inl (own_w hw 24 rfl)) (own_w hw 2 rfl) (ty := .int) (by decide) rfl rfl (g := (mkF m 101 #[.val (.ref b9), .val (.int (2 : Int32)), .val (.int ((0 : Int32) - (0 : Int32))), .val (.int (((0 : Int32) - (0 : Int32)) + (2 : Int32))), .val (.ref b8x4_18), .val (.int (512 : Int32))] [(.int ((0 : Int32) - (0 : Int32))), (.ref b9)])) rfl rfl (hb hby own_d4_101)
      refine own_st st24 ?_
      have K24 : Keep h0 h24 [b9] := K21.wr W24 (Or.inl (List.mem_of_getElem? (i := 0) rfl))
      have Z24 := Nat.le_trans Z21 (Keep.of_wr W24).1
      have N24 := Fr.snoc X24 N21 g_b9
      have F24 := f23.same W24
      show own_Go _ _ _ _ T24 (mkF m 104 #[.val (.ref b9), .val (.int (2 : Int32)), .val (.int ((0 : Int32) - (0 : Int32))), .val (.int (((0 : Int32) - (0 : Int32)) + (2 : Int32))), .val (.ref b8x4_18), .val (.int (512 : Int32))] [])
      have f25 := ((F18.other W21 (Or.inr (slot_ne (Or.inl (own_w hw 13 rfl)) (Or.inl (own_w hw 31 rfl)) (by decide) (t := (.array .byte)) (t' := .int) (by decide) (by decide)))).other W24 (Or.inr (slot_ne (Or.inl (own_w hw 13 rfl)) (Or.inl (own_w hw 24 rfl)) (by decide) (t := (.array .byte)) (t' := .int) (by decide) (by decide))))
      have f26 := (F21.other W24 (Or.inr (slot_ne (Or.inl (own_w hw 31 rfl)) (Or.inl (own_w hw 24 rfl)) (by decide) (t := .int) (t' := .int) (by decide) (by decide))))
      have f27 := (((V13.other W18 (Ne.symm ne16)).other W21 (Ne.symm ne16)).other W24 (Ne.symm ne16))
      have f28 := ((((Ex8.keep Kq13).wr W18).wr W21).wr W24)
      exact own_retV X24 hx hlk hret (hb hby own_d4_104) (by decide) (by decide) e24 ⟨N24, K24, ⟨b8x4_18, _, rfl, hq7_1_0, sz_b8x4_18, f25, F24, f26, f27, f28, trivial⟩⟩
def own_Q3_16 (Z : State) (b9 : Addr) (b6 : Addr) (k6 : ClassId) (ip2 : Int32) (ip3 : Int32) (w_NONE : Addr) (k_w_NONE : ClassId) (h0 : Heap) (n0 : Nat) (v : Option Value) (h : Heap) (L : List Loc) : Prop := Fr n0 L ∧ Keep h0 h [b9] ∧ ((∃ b8x4_18c1 : Addr, ∃ k8x4_18c1 : ClassId, v = none ∧ (¬ ((512 : Int32) < (0 : Int32))) ∧ h0.size ≤ b8x4_18c1 ∧ Fld Z h b9 "com/example/backchannel/backchannel/server/ByteQueue" "bytes" "[B" (.ref b8x4_18c1) ∧ Fld Z h b9 "com/example/backchannel/backchannel/server/ByteQueue" "end" "I" (.int (((0 : Int32) - (0 : Int32)) + (2 : Int32))) ∧ Fld Z h b9 "com/example/backchannel/backchannel/server/ByteQueue" "start" "I" (.int (0 : Int32)) ∧ Arv Z h b8x4_18c1 k8x4_18c1 .byte (512 : Int32) [(.int (nar .byte (ip2.toInt8.toInt32))), (.int (nar .byte (ip3.toInt8.toInt32)))] (.int (0 : Int32)) ∧ Exa Z h b8x4_18c1 "[B" ∧ True))
set_option maxRecDepth 65536 in
set_option maxHeartbeats 40000000 in
theorem own_rm3_16 (l : Launch) (Z : State) (a0 : Array Value) (hw : ∀ d ∈ tables_1, d.before a0 Z = true) (ws : List Jvm.Cond) (b9 : Addr) (b6 : Addr) (k6 : ClassId) (ip2 : Int32) (ip3 : Int32) (w_NONE : Addr) (k_w_NONE : ClassId) (h0 : Heap) (n0 : Nat) (Z0 : n0 ≤ h0.size) (P0 : Arv Z h0 b6 k6 .byte (2 : Int32) [(.int (nar .byte (ip2.toInt8.toInt32))), (.int (nar .byte (ip3.toInt8.toInt32)))] (.int (0 : Int32))) (P1 : Fld Z h0 b9 "com/example/backchannel/backchannel/server/ByteQueue" "bytes" "[B" (.ref w_NONE)) (P2 : Arv Z h0 w_NONE k_w_NONE .byte (0 : Int32) [] (.int (0 : Int32))) (P3 : Fld Z h0 b9 "com/example/backchannel/backchannel/server/ByteQueue" "end" "I" (.int (0 : Int32))) (P4 : Fld Z h0 b9 "com/example/backchannel/backchannel/server/ByteQueue" "start" "I" (.int (0 : Int32))) (P5 : Exa Z h0 b9 "com/example/backchannel/backchannel/server/ByteQueue") (g_b9 : n0 ≤ b9) (P7 : Exa Z h0 b6 "[B") :
    MetFree l (⟨"com/example/backchannel/backchannel/server/ByteQueue", "append", "([B)V"⟩ : MethodName) (head1 (Jvm.Cond.code (⟨"com/example/backchannel/backchannel/server/ByteQueue", "append", "([B)V"⟩ : MethodName) prog_47_method_7_code 2 none :: ws) ({ frames := 2, cells := 1, slots := 512, locals := 35 } : Room)) (fun a U => a = #[(.ref b9), (.ref b6)] ∧ Z.Warmed39 U.vm ∧ U.heap = h0) (fun _ _ _ _ _ => True) (fun _ U o U' => ∃ v L, o = .returned v ∧ own_Q3_16 Z b9 b6 k6 ip2 ip3 w_NONE k_w_NONE h0 n0 v U'.heap L ∧ FrameEnd U o U' L ({ frames := 2, cells := 1, slots := 512, locals := 35 } : Room).cells ({ frames := 2, cells := 1, slots := 512, locals := 35 } : Room).slots) := by
  refine MetFree.of_bodySF (plainFor_of_name own_pn0) hisR ?_
  intro p e s m args below meth c s₁ Bd hml0 hP hK
  obtain ⟨rfl, hZ, hh⟩ := hP
  have hx := Bd.exec
  have hlk := Bd.notSynchronized
  have hret := Bd.returns
  have hby := Bd.bytes
  have hml : c.maxLocals = 2 := hml0
  have hown : s.vm.findClass "com/example/backchannel/backchannel/server/ByteQueue" = some m.cls := findClass_of_methodNamed Bd.named
  have hnm := (name_of_methodNamed Bd.named Bd.method).1
  have X0 : Stand p l e ({ frames := 2, cells := 1, slots := 512, locals := 35 } : Room) s m #[(.ref b9), (.ref b6)] below meth c s₁ [] 0 0 := Stand.of_body Bd
  have e0 : s₁.heap = h0 := by rw [← hh, Bd.state]; rfl
  have N0 := Fr.nil n0
  refine own_open (Q := own_Q3_16 Z b9 b6 k6 ip2 ip3 w_NONE k_w_NONE h0 n0) (own_ef3 m b9 b6) ?_
  show own_Go _ _ _ _ s₁ (mkF m 0 #[.val (.ref b9), .val (.ref b6)] [])
  refine own_st (fun t k => XS.aloadN X0.here hx rfl (hb hby own_d3_0) rfl rfl k) ?_
  show own_Go _ _ _ _ s₁ (mkF m 1 #[.val (.ref b9), .val (.ref b6)] [(.ref b9)])
  refine own_st (fun t k => XS.aloadN X0.here hx rfl (hb hby own_d3_1) rfl rfl k) ?_
  show own_Go _ _ _ _ s₁ (mkF m 2 #[.val (.ref b9), .val (.ref b6)] [(.ref b6), (.ref b9)])
  refine own_st (own_alen X0 hx hZ e0 P0 (g := (mkF m 2 #[.val (.ref b9), .val (.ref b6)] [(.ref b6), (.ref b9)])) rfl rfl (hb hby own_d3_2)) ?_
  show own_Go _ _ _ _ s₁ (mkF m 3 #[.val (.ref b9), .val (.ref b6)] [(.int (2 : Int32)), (.ref b9)])
  obtain ⟨cq1, q1, q1'⟩ := P5.cell
  obtain ⟨_, _, ⟨T1, L1, k1, n1⟩, -, X1, ⟨Lc1, hQ1, l1, y1, z1⟩, st1⟩ := X0.privateBack hx (y := (⟨"com/example/backchannel/backchannel/server/ByteQueue", "room", "(I)V"⟩ : MethodName)) hown (mvT hZ (own_w hw 19 rfl)) (mvT hZ (own_w hw 20 rfl)) (own_psel hZ (own_w hw 2 rfl) (own_w hw 21 rfl) (own_w hw 20 rfl) (by decide)) (Cond.privateMethod_at (mvP hZ (own_w hw 21 rfl) (args := #[]))) (mvT hZ (own_w hw 22 rfl)) (by decide) (backOf (W := 0) (own_rm4_18 l Z a0 hw [] b9 w_NONE k_w_NONE h0 n0 Z0 P1 P2 P3 P4 P5 g_b9) hZ (own_w hw 22 rfl) (own_w hw 3 rfl) (by decide) (by decide)) (g := (mkF m 3 #[.val (.ref b9), .val (.ref b6)] [(.int (2 : Int32)), (.ref b9)])) rfl (by rw [hml]; rfl) (Steps.refl _) (a := b9) (by rw [e0]; exact q1) q1' (argsL := [(.int (2 : Int32))]) (rest := []) (lenOf own_pd3 rfl) rfl (by show 2 * 0 + _ ≤ _; exact Nat.le_of_eq rfl) (hb hby own_d3_3) (fun _ _ => ⟨rfl, e0, (by decide : 0 + 1 ≤ _), (by decide : 0 + 512 ≤ _)⟩)
  dsimp only [Pt.U, Pt.locs, Pt.cells, Pt.slots] at X1 l1 y1 z1 st1 hQ1
  subst l1 y1 z1
  obtain ⟨N1q, Kq1, hL1⟩ := hQ1
  have N1 := Fr.app N0 N1q
  have K1 : Keep h0 T1.heap [b9] := (Keep.refl h0 [b9]).trans Kq1 (allS (Or.inl (List.mem_of_getElem? (i := 0) rfl)) all0)
  have Z1 := Nat.le_trans Z0 Kq1.1
  rcases hL1 with ⟨b8x4_18c1, k8x4_18c1, rfl, hq1_0_0, sq_b8x4_18c1, Fc1_0_0, Fc1_0_1, Fc1_0_2, Fc1_0_3, Fc1_0_4, -⟩
  · skip
    have g_b8x4_18c1 : n0 ≤ b8x4_18c1 := Nat.le_trans Z0 sq_b8x4_18c1
    have sz_b8x4_18c1 : h0.size ≤ b8x4_18c1 := Nat.le_trans (Keep.refl h0 [b9]).1 sq_b8x4_18c1
    refine own_st (fun t k => st1.trans k) ?_
    show own_Go _ _ _ _ T1 (mkF m 6 #[.val (.ref b9), .val (.ref b6)] [])
    refine own_st (fun t k => XS.aloadN X1.here hx rfl (hb hby own_d3_6) rfl rfl k) ?_
    show own_Go _ _ _ _ T1 (mkF m 7 #[.val (.ref b9), .val (.ref b6)] [(.ref b6)])
    refine own_st (fun t k => XS.iconst X1.here hx rfl (hb hby own_d3_7) k) ?_
    show own_Go _ _ _ _ T1 (mkF m 8 #[.val (.ref b9), .val (.ref b6)] [(.int (0 : Int32)), (.ref b6)])
    refine own_st (fun t k => XS.aloadN X1.here hx rfl (hb hby own_d3_8) rfl rfl k) ?_
    show own_Go _ _ _ _ T1 (mkF m 9 #[.val (.ref b9), .val (.ref b6)] [(.ref b9), (.int (0 : Int32)), (.ref b6)])
    obtain ⟨T2, X2, e2, st2⟩ := getF X1 hx hZ hown (host := "") (Or.inl (own_w hw 12 rfl)) Via.refl rfl Fc1_0_0 (g := (mkF m 9 #[.val (.ref b9), .val (.ref b6)] [(.ref b9), (.int (0 : Int32)), (.ref b6)])) rfl rfl (hb hby own_d3_9)
    refine own_st st2 ?_
    show own_Go _ _ _ _ T2 (mkF m 12 #[.val (.ref b9), .val (.ref b6)] [(.ref b8x4_18c1), (.int (0 : Int32)), (.ref b6)])
    refine own_st (fun t k => XS.aloadN X2.here hx rfl (hb hby own_d3_12) rfl rfl k) ?_
    show own_Go _ _ _ _ T2 (mkF m 13 #[.val (.ref b9), .val (.ref b6)] [(.ref b9), (.ref b8x4_18c1), (.int (0 : Int32)), (.ref b6)])
    obtain ⟨T3, X3, e3, st3⟩ := getF X2 hx hZ hown (host := "") (Or.inl (own_w hw 23 rfl)) Via.refl e2 Fc1_0_1 (g := (mkF m 13 #[.val (.ref b9), .val (.ref b6)] [(.ref b9), (.ref b8x4_18c1), (.int (0 : Int32)), (.ref b6)])) rfl rfl (hb hby own_d3_13)
    refine own_st st3 ?_
    show own_Go _ _ _ _ T3 (mkF m 16 #[.val (.ref b9), .val (.ref b6)] [(.int ((0 : Int32) - (0 : Int32))), (.ref b8x4_18c1), (.int (0 : Int32)), (.ref b6)])
    refine own_st (fun t k => XS.aloadN X3.here hx rfl (hb hby own_d3_16) rfl rfl k) ?_
    show own_Go _ _ _ _ T3 (mkF m 17 #[.val (.ref b9), .val (.ref b6)] [(.ref b6), (.int ((0 : Int32) - (0 : Int32))), (.ref b8x4_18c1), (.int (0 : Int32)), (.ref b6)])
    have f4 := (P0.keep Kq1 (ninS (ne_exa P7 P5 (by decide)) nin0))
    refine own_st (own_alen X3 hx hZ e3 f4 (g := (mkF m 17 #[.val (.ref b9), .val (.ref b6)] [(.ref b6), (.int ((0 : Int32) - (0 : Int32))), (.ref b8x4_18c1), (.int (0 : Int32)), (.ref b6)])) rfl rfl (hb hby own_d3_17)) ?_
    show own_Go _ _ _ _ T3 (mkF m 18 #[.val (.ref b9), .val (.ref b6)] [(.int (2 : Int32)), (.int ((0 : Int32) - (0 : Int32))), (.ref b8x4_18c1), (.int (0 : Int32)), (.ref b6)])
    have Pd5 := Fc1_0_3.pad (pad_rep [] (.int (0 : Int32)) 2)
    obtain ⟨T5, h5, L5, X5, e5, N5, Kq5, V5', st5⟩ := cpA X3 hx hZ hown (own_w hw 36 rfl) (own_w hw 39 rfl) (own_w hw 37 rfl) (own_w hw 38 rfl) e3 f4 Pd5 (Or.inl ⟨rfl, rfl⟩) (sp := (0 : Int32)) (dp := ((0 : Int32) - (0 : Int32))) (nn := (2 : Int32)) (by decide) (by decide) (by decide) (by decide) (by decide) (us := [(.int (nar .byte (ip2.toInt8.toInt32))), (.int (nar .byte (ip3.toInt8.toInt32)))]) rfl (Nat.le_of_ble_eq_true rfl) N1 g_b8x4_18c1 (g := (mkF m 18 #[.val (.ref b9), .val (.ref b6)] [(.int (2 : Int32)), (.int ((0 : Int32) - (0 : Int32))), (.ref b8x4_18c1), (.int (0 : Int32)), (.ref b6)])) rfl (by rw [hml]; rfl) rfl (hb hby own_d3_18) (by decide) (W := 0) (by show 2 * 0 + _ ≤ _; exact Nat.le_of_eq rfl) (by decide)
    have V5 : Arv Z h5 b8x4_18c1 k8x4_18c1 .byte (512 : Int32) [(.int (nar .byte (ip2.toInt8.toInt32))), (.int (nar .byte (ip3.toInt8.toInt32)))] (.int (0 : Int32)) := V5'
    refine own_st st5 ?_
    have K5 : Keep h0 h5 [b9] := K1.trans Kq5 (allS (Or.inr sz_b8x4_18c1) all0)
    have Z5 := Nat.le_trans Z1 Kq5.1
    show own_Go _ _ _ _ T5 (mkF m 21 #[.val (.ref b9), .val (.ref b6)] [])
    refine own_st (fun t k => XS.aloadN X5.here hx rfl (hb hby own_d3_21) rfl rfl k) ?_
    show own_Go _ _ _ _ T5 (mkF m 22 #[.val (.ref b9), .val (.ref b6)] [(.ref b9)])
    refine own_st (fun t k => XS.dup X5.here hx rfl (hb hby own_d3_22) rfl rfl k) ?_
    show own_Go _ _ _ _ T5 (mkF m 23 #[.val (.ref b9), .val (.ref b6)] [(.ref b9), (.ref b9)])
    have ne6 : b9 ≠ b8x4_18c1 := Nat.ne_of_lt (Nat.lt_of_lt_of_le P1.lt sz_b8x4_18c1)
    have f7 := (Fc1_0_1.keep Kq5 (ninS ne6 nin0))
    obtain ⟨T8, X8, e8, st8⟩ := getF X5 hx hZ hown (host := "") (Or.inl (own_w hw 23 rfl)) Via.refl e5 f7 (g := (mkF m 23 #[.val (.ref b9), .val (.ref b6)] [(.ref b9), (.ref b9)])) rfl rfl (hb hby own_d3_23)
    refine own_st st8 ?_
    show own_Go _ _ _ _ T8 (mkF m 26 #[.val (.ref b9), .val (.ref b6)] [(.int ((0 : Int32) - (0 : Int32))), (.ref b9)])
    refine own_st (fun t k => XS.aloadN X8.here hx rfl (hb hby own_d3_26) rfl rfl k) ?_
    show own_Go _ _ _ _ T8 (mkF m 27 #[.val (.ref b9), .val (.ref b6)] [(.ref b6), (.int ((0 : Int32) - (0 : Int32))), (.ref b9)])
    have ne9 : b6 ≠ b8x4_18c1 := Nat.ne_of_lt (Nat.lt_of_lt_of_le P0.lt sz_b8x4_18c1)
    have f10 := (f4.keep Kq5 (ninS ne9 nin0))
    refine own_st (own_alen X8 hx hZ e8 f10 (g := (mkF m 27 #[.val (.ref b9), .val (.ref b6)] [(.ref b6), (.int ((0 : Int32) - (0 : Int32))), (.ref b9)])) rfl rfl (hb hby own_d3_27)) ?_
    show own_Go _ _ _ _ T8 (mkF m 28 #[.val (.ref b9), .val (.ref b6)] [(.int (2 : Int32)), (.int ((0 : Int32) - (0 : Int32))), (.ref b9)])
    refine own_st (fun t k => XS.iadd X8.here hx rfl (hb hby own_d3_28) rfl k) ?_
    show own_Go _ _ _ _ T8 (mkF m 29 #[.val (.ref b9), .val (.ref b6)] [(.int (((0 : Int32) - (0 : Int32)) + (2 : Int32))), (.ref b9)])
    have f11 := (P5.keep K5)
    obtain ⟨T12, h12, X12, e12, W12, st12⟩ := putF X8 hx hZ hown (host := "") (Or.inl (own_w hw 23 rfl)) Via.refl e8 f7 f11 (Or.inl (own_w hw 24 rfl)) (own_w hw 2 rfl) (ty := .int) (by decide) rfl rfl (g := (mkF m 29 #[.val (.ref b9), .val (.ref b6)] [(.int (((0 : Int32) - (0 : Int32)) + (2 : Int32))), (.ref b9)])) rfl rfl (hb hby own_d3_29)
    refine own_st st12 ?_
    have K12 : Keep h0 h12 [b9] := K5.wr W12 (Or.inl (List.mem_of_getElem? (i := 0) rfl))
    have Z12 := Nat.le_trans Z5 (Keep.of_wr W12).1
    have N12 := Fr.snoc X12 N5 g_b9
    have F12 := f7.same W12
    show own_Go _ _ _ _ T12 (mkF m 32 #[.val (.ref b9), .val (.ref b6)] [])
    have f13 := ((Fc1_0_0.keep Kq5 (ninS ne6 nin0)).other W12 (Or.inr (slot_ne (Or.inl (own_w hw 13 rfl)) (Or.inl (own_w hw 24 rfl)) (by decide) (t := (.array .byte)) (t' := .int) (by decide) (by decide))))
    have f14 := ((Fc1_0_2.keep Kq5 (ninS ne6 nin0)).other W12 (Or.inr (slot_ne (Or.inl (own_w hw 31 rfl)) (Or.inl (own_w hw 24 rfl)) (by decide) (t := .int) (t' := .int) (by decide) (by decide))))
    have f15 := (V5.other W12 (Ne.symm ne6))
    have f16 := ((Fc1_0_4.keep Kq5).wr W12)
    exact own_retV X12 hx hlk hret (hb hby own_d3_32) (by decide) (by decide) e12 ⟨N12, K12, ⟨b8x4_18c1, _, rfl, hq1_0_0, sz_b8x4_18c1, f13, F12, f14, f15, f16, trivial⟩⟩
theorem own_d10_0 : decode prog_47_method_4_code 0 = .ok (.iload_n 1, 1) := by decide +kernel
theorem own_d10_1 : decode prog_47_method_4_code 1 = .ok (.ifCond .lt 11, 3) := by decide +kernel
theorem own_d10_4 : decode prog_47_method_4_code 4 = .ok (.iload_n 1, 1) := by decide +kernel
theorem own_d10_5 : decode prog_47_method_4_code 5 = .ok (.aload_n 0, 1) := by decide +kernel
theorem own_d10_6 : decode prog_47_method_4_code 6 = .ok (.invokevirtual 23, 3) := by decide +kernel
theorem own_d10_9 : decode prog_47_method_4_code 9 = .ok (.if_icmp .lt 12, 3) := by decide +kernel
theorem own_d10_21 : decode prog_47_method_4_code 21 = .ok (.aload_n 0, 1) := by decide +kernel
theorem own_d10_22 : decode prog_47_method_4_code 22 = .ok (.getfield 13, 3) := by decide +kernel
theorem own_d10_25 : decode prog_47_method_4_code 25 = .ok (.aload_n 0, 1) := by decide +kernel
theorem own_d10_26 : decode prog_47_method_4_code 26 = .ok (.getfield 20, 3) := by decide +kernel
theorem own_d10_29 : decode prog_47_method_4_code 29 = .ok (.iload_n 1, 1) := by decide +kernel
theorem own_d10_30 : decode prog_47_method_4_code 30 = .ok (.iadd, 1) := by decide +kernel
theorem own_d10_31 : decode prog_47_method_4_code 31 = .ok (.baload, 1) := by decide +kernel
theorem own_d10_32 : decode prog_47_method_4_code 32 = .ok (.ireturn, 1) := by decide +kernel
theorem own_ef10 (m : MethodId) (x0 : Addr) (x1 : Int32) : entryFrame m #[(.ref x0), (.int x1)] 2 = mkF m 0 #[.val (.ref x0), .val (.int x1)] [] := by first | (simp [entryFrame, mkF, argsToLocals, Value.category]; done) | rfl
def own_Q10_19 (Z : State) (b9 : Addr) (b8x4_18c1c33 : Addr) (k8x4_18c1c33 : ClassId) (ip2 : Int32) (ip3 : Int32) (h0 : Heap) (n0 : Nat) (v : Option Value) (h : Heap) (L : List Loc) : Prop := Fr n0 L ∧ Keep h0 h [] ∧ ((v = some (.int (nar .byte (nar .byte (ip2.toInt8.toInt32)))) ∧ True))
set_option maxRecDepth 65536 in
set_option maxHeartbeats 40000000 in
theorem own_rm10_19 (l : Launch) (Z : State) (a0 : Array Value) (hw : ∀ d ∈ tables_1, d.before a0 Z = true) (ws : List Jvm.Cond) (b9 : Addr) (b8x4_18c1c33 : Addr) (k8x4_18c1c33 : ClassId) (ip2 : Int32) (ip3 : Int32) (h0 : Heap) (n0 : Nat) (Z0 : n0 ≤ h0.size) (P0 : Fld Z h0 b9 "com/example/backchannel/backchannel/server/ByteQueue" "end" "I" (.int (((0 : Int32) - (0 : Int32)) + (2 : Int32)))) (P1 : Fld Z h0 b9 "com/example/backchannel/backchannel/server/ByteQueue" "start" "I" (.int (0 : Int32))) (P2 : Exa Z h0 b9 "com/example/backchannel/backchannel/server/ByteQueue") (P3 : Fld Z h0 b9 "com/example/backchannel/backchannel/server/ByteQueue" "bytes" "[B" (.ref b8x4_18c1c33)) (P4 : Arv Z h0 b8x4_18c1c33 k8x4_18c1c33 .byte (512 : Int32) [(.int (nar .byte (ip2.toInt8.toInt32))), (.int (nar .byte (ip3.toInt8.toInt32)))] (.int (0 : Int32))) :
    MetFree l (⟨"com/example/backchannel/backchannel/server/ByteQueue", "at", "(I)B"⟩ : MethodName) (head1 (Jvm.Cond.code (⟨"com/example/backchannel/backchannel/server/ByteQueue", "at", "(I)B"⟩ : MethodName) prog_47_method_4_code 2 (some .byte) :: ws) ({ frames := 1, cells := 0, slots := 0, locals := 13 } : Room)) (fun a U => a = #[(.ref b9), (.int (0 : Int32))] ∧ Z.Warmed39 U.vm ∧ U.heap = h0) (fun _ _ _ _ _ => True) (fun _ U o U' => ∃ v L, o = .returned v ∧ own_Q10_19 Z b9 b8x4_18c1c33 k8x4_18c1c33 ip2 ip3 h0 n0 v U'.heap L ∧ FrameEnd U o U' L ({ frames := 1, cells := 0, slots := 0, locals := 13 } : Room).cells ({ frames := 1, cells := 0, slots := 0, locals := 13 } : Room).slots) := by
  refine MetFree.of_bodySF (plainFor_of_name own_pn0) hisR ?_
  intro p e s m args below meth c s₁ Bd hml0 hP hK
  obtain ⟨rfl, hZ, hh⟩ := hP
  have hx := Bd.exec
  have hlk := Bd.notSynchronized
  have hret := Bd.returns
  have hby := Bd.bytes
  have hml : c.maxLocals = 2 := hml0
  have hown : s.vm.findClass "com/example/backchannel/backchannel/server/ByteQueue" = some m.cls := findClass_of_methodNamed Bd.named
  have hnm := (name_of_methodNamed Bd.named Bd.method).1
  have X0 : Stand p l e ({ frames := 1, cells := 0, slots := 0, locals := 13 } : Room) s m #[(.ref b9), (.int (0 : Int32))] below meth c s₁ [] 0 0 := Stand.of_body Bd
  have e0 : s₁.heap = h0 := by rw [← hh, Bd.state]; rfl
  have N0 := Fr.nil n0
  refine own_open (Q := own_Q10_19 Z b9 b8x4_18c1c33 k8x4_18c1c33 ip2 ip3 h0 n0) (own_ef10 m b9 (0 : Int32)) ?_
  show own_Go _ _ _ _ s₁ (mkF m 0 #[.val (.ref b9), .val (.int (0 : Int32))] [])
  refine own_st (fun t k => XS.iloadN X0.here hx rfl (hb hby own_d10_0) rfl k) ?_
  show own_Go _ _ _ _ s₁ (mkF m 1 #[.val (.ref b9), .val (.int (0 : Int32))] [(.int (0 : Int32))])
  refine own_st (fun t k => XS.ifNo X0.here hx rfl (hb hby own_d10_1) rfl ((if0 _ _).trans (flt (by decide : ¬ ((0 : Int32) < (0 : Int32)))).1) k) ?_
  show own_Go _ _ _ _ s₁ (mkF m 4 #[.val (.ref b9), .val (.int (0 : Int32))] [])
  refine own_st (fun t k => XS.iloadN X0.here hx rfl (hb hby own_d10_4) rfl k) ?_
  show own_Go _ _ _ _ s₁ (mkF m 5 #[.val (.ref b9), .val (.int (0 : Int32))] [(.int (0 : Int32))])
  refine own_st (fun t k => XS.aloadN X0.here hx rfl (hb hby own_d10_5) rfl rfl k) ?_
  show own_Go _ _ _ _ s₁ (mkF m 6 #[.val (.ref b9), .val (.int (0 : Int32))] [(.ref b9), (.int (0 : Int32))])
  obtain ⟨cq1, kq1, q1a, q1b, q1c⟩ := isOf hZ e0 P2
  obtain ⟨_, _, ⟨T1, L1, k1, n1⟩, -, X1, ⟨Lc1, hQ1, l1, y1, z1⟩, st1⟩ := X0.virtualBack hx (y := (⟨"com/example/backchannel/backchannel/server/ByteQueue", "size", "()I"⟩ : MethodName)) (z := (⟨"com/example/backchannel/backchannel/server/ByteQueue", "size", "()I"⟩ : MethodName)) hown (mvT hZ (own_w hw 25 rfl)) (mvT hZ (own_w hw 26 rfl)) (notFace_of_selects (args := #[]) (mvT hZ (own_w hw 28 rfl))) (mvT hZ (own_w hw 28 rfl)) (mvT hZ (own_w hw 27 rfl)) (by decide) (backOf (W := 1) (own_rm5 l Z a0 hw [] b9 (((0 : Int32) - (0 : Int32)) + (2 : Int32)) (0 : Int32) h0 n0 Z0 P0 P1) hZ (own_w hw 29 rfl) (own_w hw 3 rfl) (by decide) (by decide)) q1a q1c (g := (mkF m 6 #[.val (.ref b9), .val (.int (0 : Int32))] [(.ref b9), (.int (0 : Int32))])) rfl (by rw [hml]; rfl) (Steps.refl _) (argsL := []) (rest := [(.int (0 : Int32))]) (lenOf own_pd1 rfl) rfl (by show 2 * 0 + _ ≤ _; exact Nat.le_of_eq rfl) (hb hby own_d10_6) (fun _ _ => ⟨rfl, e0, (by decide : 0 + 0 ≤ _), (by decide : 0 + 0 ≤ _)⟩)
  dsimp only [Pt.U, Pt.locs, Pt.cells, Pt.slots] at X1 l1 y1 z1 st1 hQ1
  subst l1 y1 z1
  obtain ⟨N1q, e1, hL1⟩ := hQ1
  have N1 := Fr.app N0 N1q
  rcases hL1 with ⟨rfl, -⟩
  · skip
    refine own_st (fun t k => st1.trans k) ?_
    show own_Go _ _ _ _ T1 (mkF m 9 #[.val (.ref b9), .val (.int (0 : Int32))] [(.int ((((0 : Int32) - (0 : Int32)) + (2 : Int32)) - (0 : Int32))), (.int (0 : Int32))])
    refine own_st (fun t k => XS.icmpYes X1.here hx rfl (pc0 := 9) (pc' := 21) rfl (hb hby own_d10_9) rfl (tlt (by decide : (0 : Int32) < ((((0 : Int32) - (0 : Int32)) + (2 : Int32)) - (0 : Int32)))).1 (by decide) (by decide) k) ?_
    show own_Go _ _ _ _ T1 (mkF m 21 #[.val (.ref b9), .val (.int (0 : Int32))] [])
    refine own_st (fun t k => XS.aloadN X1.here hx rfl (hb hby own_d10_21) rfl rfl k) ?_
    show own_Go _ _ _ _ T1 (mkF m 22 #[.val (.ref b9), .val (.int (0 : Int32))] [(.ref b9)])
    obtain ⟨T2, X2, e2, st2⟩ := getF X1 hx hZ hown (host := "") (Or.inl (own_w hw 12 rfl)) Via.refl e1 P3 (g := (mkF m 22 #[.val (.ref b9), .val (.int (0 : Int32))] [(.ref b9)])) rfl rfl (hb hby own_d10_22)
    refine own_st st2 ?_
    show own_Go _ _ _ _ T2 (mkF m 25 #[.val (.ref b9), .val (.int (0 : Int32))] [(.ref b8x4_18c1c33)])
    refine own_st (fun t k => XS.aloadN X2.here hx rfl (hb hby own_d10_25) rfl rfl k) ?_
    show own_Go _ _ _ _ T2 (mkF m 26 #[.val (.ref b9), .val (.int (0 : Int32))] [(.ref b9), (.ref b8x4_18c1c33)])
    obtain ⟨T3, X3, e3, st3⟩ := getF X2 hx hZ hown (host := "") (Or.inl (own_w hw 30 rfl)) Via.refl e2 P1 (g := (mkF m 26 #[.val (.ref b9), .val (.int (0 : Int32))] [(.ref b9), (.ref b8x4_18c1c33)])) rfl rfl (hb hby own_d10_26)
    refine own_st st3 ?_
    show own_Go _ _ _ _ T3 (mkF m 29 #[.val (.ref b9), .val (.int (0 : Int32))] [(.int (0 : Int32)), (.ref b8x4_18c1c33)])
    refine own_st (fun t k => XS.iloadN X3.here hx rfl (hb hby own_d10_29) rfl k) ?_
    show own_Go _ _ _ _ T3 (mkF m 30 #[.val (.ref b9), .val (.int (0 : Int32))] [(.int (0 : Int32)), (.int (0 : Int32)), (.ref b8x4_18c1c33)])
    refine own_st (fun t k => XS.iadd X3.here hx rfl (hb hby own_d10_30) rfl k) ?_
    show own_Go _ _ _ _ T3 (mkF m 31 #[.val (.ref b9), .val (.int (0 : Int32))] [(.int ((0 : Int32) + (0 : Int32))), (.ref b8x4_18c1c33)])
    refine own_st (own_baloadB X3 hx hZ e3 P4 (j := ((0 : Int32) + (0 : Int32))) (v := (.int (nar .byte (ip2.toInt8.toInt32)))) ⟨by decide, by decide⟩ rfl (g := (mkF m 31 #[.val (.ref b9), .val (.int (0 : Int32))] [(.int ((0 : Int32) + (0 : Int32))), (.ref b8x4_18c1c33)])) rfl rfl (hb hby own_d10_31)) ?_
    show own_Go _ _ _ _ T3 (mkF m 32 #[.val (.ref b9), .val (.int (0 : Int32))] [(.int (nar .byte (ip2.toInt8.toInt32)))])
    exact own_retZ X3 hx hlk (t := .byte) hret (by simp) (hb hby own_d10_32) (by decide) (by decide) e3 ⟨N1, (Keep.refl h0 []), ⟨rfl, trivial⟩⟩
theorem own_pd6 : parseMethodDescriptor "(I)B" = some ⟨[.int], some .byte⟩ := by decide +kernel
def own_Q10_20 (Z : State) (b9 : Addr) (b8x4_18c1c33 : Addr) (k8x4_18c1c33 : ClassId) (ip2 : Int32) (ip3 : Int32) (h0 : Heap) (n0 : Nat) (v : Option Value) (h : Heap) (L : List Loc) : Prop := Fr n0 L ∧ Keep h0 h [] ∧ ((v = some (.int (nar .byte (nar .byte (ip3.toInt8.toInt32)))) ∧ True))
set_option maxRecDepth 65536 in
set_option maxHeartbeats 40000000 in
theorem own_rm10_20 (l : Launch) (Z : State) (a0 : Array Value) (hw : ∀ d ∈ tables_1, d.before a0 Z = true) (ws : List Jvm.Cond) (b9 : Addr) (b8x4_18c1c33 : Addr) (k8x4_18c1c33 : ClassId) (ip2 : Int32) (ip3 : Int32) (h0 : Heap) (n0 : Nat) (Z0 : n0 ≤ h0.size) (P0 : Fld Z h0 b9 "com/example/backchannel/backchannel/server/ByteQueue" "end" "I" (.int (((0 : Int32) - (0 : Int32)) + (2 : Int32)))) (P1 : Fld Z h0 b9 "com/example/backchannel/backchannel/server/ByteQueue" "start" "I" (.int (0 : Int32))) (P2 : Exa Z h0 b9 "com/example/backchannel/backchannel/server/ByteQueue") (P3 : Fld Z h0 b9 "com/example/backchannel/backchannel/server/ByteQueue" "bytes" "[B" (.ref b8x4_18c1c33)) (P4 : Arv Z h0 b8x4_18c1c33 k8x4_18c1c33 .byte (512 : Int32) [(.int (nar .byte (ip2.toInt8.toInt32))), (.int (nar .byte (ip3.toInt8.toInt32)))] (.int (0 : Int32))) :
    MetFree l (⟨"com/example/backchannel/backchannel/server/ByteQueue", "at", "(I)B"⟩ : MethodName) (head1 (Jvm.Cond.code (⟨"com/example/backchannel/backchannel/server/ByteQueue", "at", "(I)B"⟩ : MethodName) prog_47_method_4_code 2 (some .byte) :: ws) ({ frames := 1, cells := 0, slots := 0, locals := 13 } : Room)) (fun a U => a = #[(.ref b9), (.int (1 : Int32))] ∧ Z.Warmed39 U.vm ∧ U.heap = h0) (fun _ _ _ _ _ => True) (fun _ U o U' => ∃ v L, o = .returned v ∧ own_Q10_20 Z b9 b8x4_18c1c33 k8x4_18c1c33 ip2 ip3 h0 n0 v U'.heap L ∧ FrameEnd U o U' L ({ frames := 1, cells := 0, slots := 0, locals := 13 } : Room).cells ({ frames := 1, cells := 0, slots := 0, locals := 13 } : Room).slots) := by
  refine MetFree.of_bodySF (plainFor_of_name own_pn0) hisR ?_
  intro p e s m args below meth c s₁ Bd hml0 hP hK
  obtain ⟨rfl, hZ, hh⟩ := hP
  have hx := Bd.exec
  have hlk := Bd.notSynchronized
  have hret := Bd.returns
  have hby := Bd.bytes
  have hml : c.maxLocals = 2 := hml0
  have hown : s.vm.findClass "com/example/backchannel/backchannel/server/ByteQueue" = some m.cls := findClass_of_methodNamed Bd.named
  have hnm := (name_of_methodNamed Bd.named Bd.method).1
  have X0 : Stand p l e ({ frames := 1, cells := 0, slots := 0, locals := 13 } : Room) s m #[(.ref b9), (.int (1 : Int32))] below meth c s₁ [] 0 0 := Stand.of_body Bd
  have e0 : s₁.heap = h0 := by rw [← hh, Bd.state]; rfl
  have N0 := Fr.nil n0
  refine own_open (Q := own_Q10_20 Z b9 b8x4_18c1c33 k8x4_18c1c33 ip2 ip3 h0 n0) (own_ef10 m b9 (1 : Int32)) ?_
  show own_Go _ _ _ _ s₁ (mkF m 0 #[.val (.ref b9), .val (.int (1 : Int32))] [])
  refine own_st (fun t k => XS.iloadN X0.here hx rfl (hb hby own_d10_0) rfl k) ?_
  show own_Go _ _ _ _ s₁ (mkF m 1 #[.val (.ref b9), .val (.int (1 : Int32))] [(.int (1 : Int32))])
  refine own_st (fun t k => XS.ifNo X0.here hx rfl (hb hby own_d10_1) rfl ((if0 _ _).trans (flt (by decide : ¬ ((1 : Int32) < (0 : Int32)))).1) k) ?_
  show own_Go _ _ _ _ s₁ (mkF m 4 #[.val (.ref b9), .val (.int (1 : Int32))] [])
  refine own_st (fun t k => XS.iloadN X0.here hx rfl (hb hby own_d10_4) rfl k) ?_
  show own_Go _ _ _ _ s₁ (mkF m 5 #[.val (.ref b9), .val (.int (1 : Int32))] [(.int (1 : Int32))])
  refine own_st (fun t k => XS.aloadN X0.here hx rfl (hb hby own_d10_5) rfl rfl k) ?_
  show own_Go _ _ _ _ s₁ (mkF m 6 #[.val (.ref b9), .val (.int (1 : Int32))] [(.ref b9), (.int (1 : Int32))])
  obtain ⟨cq1, kq1, q1a, q1b, q1c⟩ := isOf hZ e0 P2
  obtain ⟨_, _, ⟨T1, L1, k1, n1⟩, -, X1, ⟨Lc1, hQ1, l1, y1, z1⟩, st1⟩ := X0.virtualBack hx (y := (⟨"com/example/backchannel/backchannel/server/ByteQueue", "size", "()I"⟩ : MethodName)) (z := (⟨"com/example/backchannel/backchannel/server/ByteQueue", "size", "()I"⟩ : MethodName)) hown (mvT hZ (own_w hw 25 rfl)) (mvT hZ (own_w hw 26 rfl)) (notFace_of_selects (args := #[]) (mvT hZ (own_w hw 28 rfl))) (mvT hZ (own_w hw 28 rfl)) (mvT hZ (own_w hw 27 rfl)) (by decide) (backOf (W := 1) (own_rm5 l Z a0 hw [] b9 (((0 : Int32) - (0 : Int32)) + (2 : Int32)) (0 : Int32) h0 n0 Z0 P0 P1) hZ (own_w hw 29 rfl) (own_w hw 3 rfl) (by decide) (by decide)) q1a q1c (g := (mkF m 6 #[.val (.ref b9), .val (.int (1 : Int32))] [(.ref b9), (.int (1 : Int32))])) rfl (by rw [hml]; rfl) (Steps.refl _) (argsL := []) (rest := [(.int (1 : Int32))]) (lenOf own_pd1 rfl) rfl (by show 2 * 0 + _ ≤ _; exact Nat.le_of_eq rfl) (hb hby own_d10_6) (fun _ _ => ⟨rfl, e0, (by decide : 0 + 0 ≤ _), (by decide : 0 + 0 ≤ _)⟩)
  dsimp only [Pt.U, Pt.locs, Pt.cells, Pt.slots] at X1 l1 y1 z1 st1 hQ1
  subst l1 y1 z1
  obtain ⟨N1q, e1, hL1⟩ := hQ1
  have N1 := Fr.app N0 N1q
  rcases hL1 with ⟨rfl, -⟩
  · skip
    refine own_st (fun t k => st1.trans k) ?_
    show own_Go _ _ _ _ T1 (mkF m 9 #[.val (.ref b9), .val (.int (1 : Int32))] [(.int ((((0 : Int32) - (0 : Int32)) + (2 : Int32)) - (0 : Int32))), (.int (1 : Int32))])
    refine own_st (fun t k => XS.icmpYes X1.here hx rfl (pc0 := 9) (pc' := 21) rfl (hb hby own_d10_9) rfl (tlt (by decide : (1 : Int32) < ((((0 : Int32) - (0 : Int32)) + (2 : Int32)) - (0 : Int32)))).1 (by decide) (by decide) k) ?_
    show own_Go _ _ _ _ T1 (mkF m 21 #[.val (.ref b9), .val (.int (1 : Int32))] [])
    refine own_st (fun t k => XS.aloadN X1.here hx rfl (hb hby own_d10_21) rfl rfl k) ?_
    show own_Go _ _ _ _ T1 (mkF m 22 #[.val (.ref b9), .val (.int (1 : Int32))] [(.ref b9)])
    obtain ⟨T2, X2, e2, st2⟩ := getF X1 hx hZ hown (host := "") (Or.inl (own_w hw 12 rfl)) Via.refl e1 P3 (g := (mkF m 22 #[.val (.ref b9), .val (.int (1 : Int32))] [(.ref b9)])) rfl rfl (hb hby own_d10_22)
    refine own_st st2 ?_
    show own_Go _ _ _ _ T2 (mkF m 25 #[.val (.ref b9), .val (.int (1 : Int32))] [(.ref b8x4_18c1c33)])
    refine own_st (fun t k => XS.aloadN X2.here hx rfl (hb hby own_d10_25) rfl rfl k) ?_
    show own_Go _ _ _ _ T2 (mkF m 26 #[.val (.ref b9), .val (.int (1 : Int32))] [(.ref b9), (.ref b8x4_18c1c33)])
    obtain ⟨T3, X3, e3, st3⟩ := getF X2 hx hZ hown (host := "") (Or.inl (own_w hw 30 rfl)) Via.refl e2 P1 (g := (mkF m 26 #[.val (.ref b9), .val (.int (1 : Int32))] [(.ref b9), (.ref b8x4_18c1c33)])) rfl rfl (hb hby own_d10_26)
    refine own_st st3 ?_
    show own_Go _ _ _ _ T3 (mkF m 29 #[.val (.ref b9), .val (.int (1 : Int32))] [(.int (0 : Int32)), (.ref b8x4_18c1c33)])
    refine own_st (fun t k => XS.iloadN X3.here hx rfl (hb hby own_d10_29) rfl k) ?_
    show own_Go _ _ _ _ T3 (mkF m 30 #[.val (.ref b9), .val (.int (1 : Int32))] [(.int (1 : Int32)), (.int (0 : Int32)), (.ref b8x4_18c1c33)])
    refine own_st (fun t k => XS.iadd X3.here hx rfl (hb hby own_d10_30) rfl k) ?_
    show own_Go _ _ _ _ T3 (mkF m 31 #[.val (.ref b9), .val (.int (1 : Int32))] [(.int ((0 : Int32) + (1 : Int32))), (.ref b8x4_18c1c33)])
    refine own_st (own_baloadB X3 hx hZ e3 P4 (j := ((0 : Int32) + (1 : Int32))) (v := (.int (nar .byte (ip3.toInt8.toInt32)))) ⟨by decide, by decide⟩ rfl (g := (mkF m 31 #[.val (.ref b9), .val (.int (1 : Int32))] [(.int ((0 : Int32) + (1 : Int32))), (.ref b8x4_18c1c33)])) rfl rfl (hb hby own_d10_31)) ?_
    show own_Go _ _ _ _ T3 (mkF m 32 #[.val (.ref b9), .val (.int (1 : Int32))] [(.int (nar .byte (ip3.toInt8.toInt32)))])
    exact own_retZ X3 hx hlk (t := .byte) hret (by simp) (hb hby own_d10_32) (by decide) (by decide) e3 ⟨N1, (Keep.refl h0 []), ⟨rfl, trivial⟩⟩
def own_Q7_22 (Z : State) (b9 : Addr) (b8x4_8c1c18 : Addr) (h0 : Heap) (n0 : Nat) (v : Option Value) (h : Heap) (L : List Loc) : Prop := Fr n0 L ∧ Keep h0 h [b9] ∧ ((v = none ∧ Fld Z h b9 "com/example/backchannel/backchannel/server/ByteQueue" "end" "I" (.int (((0 : Int32) - (0 : Int32)) + (3 : Int32))) ∧ Fld Z h b9 "com/example/backchannel/backchannel/server/ByteQueue" "start" "I" (.int ((0 : Int32) + (1 : Int32))) ∧ Fld Z h b9 "com/example/backchannel/backchannel/server/ByteQueue" "bytes" "[B" (.ref b8x4_8c1c18) ∧ True))
set_option maxRecDepth 65536 in
set_option maxHeartbeats 40000000 in
theorem own_rm7_22 (l : Launch) (Z : State) (a0 : Array Value) (hw : ∀ d ∈ tables_1, d.before a0 Z = true) (ws : List Jvm.Cond) (b9 : Addr) (b8x4_8c1c18 : Addr) (h0 : Heap) (n0 : Nat) (Z0 : n0 ≤ h0.size) (P0 : Fld Z h0 b9 "com/example/backchannel/backchannel/server/ByteQueue" "end" "I" (.int (((0 : Int32) - (0 : Int32)) + (3 : Int32)))) (P1 : Fld Z h0 b9 "com/example/backchannel/backchannel/server/ByteQueue" "start" "I" (.int (0 : Int32))) (P2 : Exa Z h0 b9 "com/example/backchannel/backchannel/server/ByteQueue") (g_b9 : n0 ≤ b9) (P4 : Fld Z h0 b9 "com/example/backchannel/backchannel/server/ByteQueue" "bytes" "[B" (.ref b8x4_8c1c18)) :
    MetFree l (⟨"com/example/backchannel/backchannel/server/ByteQueue", "remove", "(I)V"⟩ : MethodName) (head1 (Jvm.Cond.code (⟨"com/example/backchannel/backchannel/server/ByteQueue", "remove", "(I)V"⟩ : MethodName) prog_47_method_9_code 2 none :: ws) ({ frames := 1, cells := 0, slots := 0, locals := 13 } : Room)) (fun a U => a = #[(.ref b9), (.int (1 : Int32))] ∧ Z.Warmed39 U.vm ∧ U.heap = h0) (fun _ _ _ _ _ => True) (fun _ U o U' => ∃ v L, o = .returned v ∧ own_Q7_22 Z b9 b8x4_8c1c18 h0 n0 v U'.heap L ∧ FrameEnd U o U' L ({ frames := 1, cells := 0, slots := 0, locals := 13 } : Room).cells ({ frames := 1, cells := 0, slots := 0, locals := 13 } : Room).slots) := by
  refine MetFree.of_bodySF (plainFor_of_name own_pn0) hisR ?_
  intro p e s m args below meth c s₁ Bd hml0 hP hK
  obtain ⟨rfl, hZ, hh⟩ := hP
  have hx := Bd.exec
  have hlk := Bd.notSynchronized
  have hret := Bd.returns
  have hby := Bd.bytes
  have hml : c.maxLocals = 2 := hml0
  have hown : s.vm.findClass "com/example/backchannel/backchannel/server/ByteQueue" = some m.cls := findClass_of_methodNamed Bd.named
  have hnm := (name_of_methodNamed Bd.named Bd.method).1
  have X0 : Stand p l e ({ frames := 1, cells := 0, slots := 0, locals := 13 } : Room) s m #[(.ref b9), (.int (1 : Int32))] below meth c s₁ [] 0 0 := Stand.of_body Bd
  have e0 : s₁.heap = h0 := by rw [← hh, Bd.state]; rfl
  have N0 := Fr.nil n0
  refine own_open (Q := own_Q7_22 Z b9 b8x4_8c1c18 h0 n0) (own_ef7 m b9 (1 : Int32)) ?_
  show own_Go _ _ _ _ s₁ (mkF m 0 #[.val (.ref b9), .val (.int (1 : Int32))] [])
  refine own_st (fun t k => XS.iloadN X0.here hx rfl (hb hby own_d7_0) rfl k) ?_
  show own_Go _ _ _ _ s₁ (mkF m 1 #[.val (.ref b9), .val (.int (1 : Int32))] [(.int (1 : Int32))])
  refine own_st (fun t k => XS.ifNo X0.here hx rfl (hb hby own_d7_1) rfl ((if0 _ _).trans (flt (by decide : ¬ ((1 : Int32) < (0 : Int32)))).1) k) ?_
  show own_Go _ _ _ _ s₁ (mkF m 4 #[.val (.ref b9), .val (.int (1 : Int32))] [])
  refine own_st (fun t k => XS.iloadN X0.here hx rfl (hb hby own_d7_4) rfl k) ?_
  show own_Go _ _ _ _ s₁ (mkF m 5 #[.val (.ref b9), .val (.int (1 : Int32))] [(.int (1 : Int32))])
  refine own_st (fun t k => XS.aloadN X0.here hx rfl (hb hby own_d7_5) rfl rfl k) ?_
  show own_Go _ _ _ _ s₁ (mkF m 6 #[.val (.ref b9), .val (.int (1 : Int32))] [(.ref b9), (.int (1 : Int32))])
  obtain ⟨cq1, kq1, q1a, q1b, q1c⟩ := isOf hZ e0 P2
  obtain ⟨_, _, ⟨T1, L1, k1, n1⟩, -, X1, ⟨Lc1, hQ1, l1, y1, z1⟩, st1⟩ := X0.virtualBack hx (y := (⟨"com/example/backchannel/backchannel/server/ByteQueue", "size", "()I"⟩ : MethodName)) (z := (⟨"com/example/backchannel/backchannel/server/ByteQueue", "size", "()I"⟩ : MethodName)) hown (mvT hZ (own_w hw 25 rfl)) (mvT hZ (own_w hw 26 rfl)) (notFace_of_selects (args := #[]) (mvT hZ (own_w hw 28 rfl))) (mvT hZ (own_w hw 28 rfl)) (mvT hZ (own_w hw 27 rfl)) (by decide) (backOf (W := 1) (own_rm5 l Z a0 hw [] b9 (((0 : Int32) - (0 : Int32)) + (3 : Int32)) (0 : Int32) h0 n0 Z0 P0 P1) hZ (own_w hw 29 rfl) (own_w hw 3 rfl) (by decide) (by decide)) q1a q1c (g := (mkF m 6 #[.val (.ref b9), .val (.int (1 : Int32))] [(.ref b9), (.int (1 : Int32))])) rfl (by rw [hml]; rfl) (Steps.refl _) (argsL := []) (rest := [(.int (1 : Int32))]) (lenOf own_pd1 rfl) rfl (by show 2 * 0 + _ ≤ _; exact Nat.le_of_eq rfl) (hb hby own_d7_6) (fun _ _ => ⟨rfl, e0, (by decide : 0 + 0 ≤ _), (by decide : 0 + 0 ≤ _)⟩)
  dsimp only [Pt.U, Pt.locs, Pt.cells, Pt.slots] at X1 l1 y1 z1 st1 hQ1
  subst l1 y1 z1
  obtain ⟨N1q, e1, hL1⟩ := hQ1
  have N1 := Fr.app N0 N1q
  rcases hL1 with ⟨rfl, -⟩
  · skip
    refine own_st (fun t k => st1.trans k) ?_
    show own_Go _ _ _ _ T1 (mkF m 9 #[.val (.ref b9), .val (.int (1 : Int32))] [(.int ((((0 : Int32) - (0 : Int32)) + (3 : Int32)) - (0 : Int32))), (.int (1 : Int32))])
    refine own_st (fun t k => XS.icmpYes X1.here hx rfl (pc0 := 9) (pc' := 21) rfl (hb hby own_d7_9) rfl (flt (by decide : ¬ (((((0 : Int32) - (0 : Int32)) + (3 : Int32)) - (0 : Int32)) < (1 : Int32)))).2.2.2 (by decide) (by decide) k) ?_
    show own_Go _ _ _ _ T1 (mkF m 21 #[.val (.ref b9), .val (.int (1 : Int32))] [])
    refine own_st (fun t k => XS.aloadN X1.here hx rfl (hb hby own_d7_21) rfl rfl k) ?_
    show own_Go _ _ _ _ T1 (mkF m 22 #[.val (.ref b9), .val (.int (1 : Int32))] [(.ref b9)])
    refine own_st (fun t k => XS.dup X1.here hx rfl (hb hby own_d7_22) rfl rfl k) ?_
    show own_Go _ _ _ _ T1 (mkF m 23 #[.val (.ref b9), .val (.int (1 : Int32))] [(.ref b9), (.ref b9)])
    obtain ⟨T2, X2, e2, st2⟩ := getF X1 hx hZ hown (host := "") (Or.inl (own_w hw 30 rfl)) Via.refl e1 P1 (g := (mkF m 23 #[.val (.ref b9), .val (.int (1 : Int32))] [(.ref b9), (.ref b9)])) rfl rfl (hb hby own_d7_23)
    refine own_st st2 ?_
    show own_Go _ _ _ _ T2 (mkF m 26 #[.val (.ref b9), .val (.int (1 : Int32))] [(.int (0 : Int32)), (.ref b9)])
    refine own_st (fun t k => XS.iloadN X2.here hx rfl (hb hby own_d7_26) rfl k) ?_
    show own_Go _ _ _ _ T2 (mkF m 27 #[.val (.ref b9), .val (.int (1 : Int32))] [(.int (1 : Int32)), (.int (0 : Int32)), (.ref b9)])
    refine own_st (fun t k => XS.iadd X2.here hx rfl (hb hby own_d7_27) rfl k) ?_
    show own_Go _ _ _ _ T2 (mkF m 28 #[.val (.ref b9), .val (.int (1 : Int32))] [(.int ((0 : Int32) + (1 : Int32))), (.ref b9)])
    obtain ⟨T3, h3, X3, e3, W3, st3⟩ := putF X2 hx hZ hown (host := "") (Or.inl (own_w hw 30 rfl)) Via.refl e2 P1 P2 (Or.inl (own_w hw 31 rfl)) (own_w hw 2 rfl) (ty := .int) (by decide) rfl rfl (g := (mkF m 28 #[.val (.ref b9), .val (.int (1 : Int32))] [(.int ((0 : Int32) + (1 : Int32))), (.ref b9)])) rfl rfl (hb hby own_d7_28)
    refine own_st st3 ?_
    have K3 : Keep h0 h3 [b9] := (Keep.refl h0 [b9]).wr W3 (Or.inl (List.mem_of_getElem? (i := 0) rfl))
    have Z3 := Nat.le_trans Z0 (Keep.of_wr W3).1
    have N3 := Fr.snoc X3 N1 g_b9
    have F3 := P1.same W3
    show own_Go _ _ _ _ T3 (mkF m 31 #[.val (.ref b9), .val (.int (1 : Int32))] [])
    refine own_st (fun t k => XS.aloadN X3.here hx rfl (hb hby own_d7_31) rfl rfl k) ?_
    show own_Go _ _ _ _ T3 (mkF m 32 #[.val (.ref b9), .val (.int (1 : Int32))] [(.ref b9)])
    obtain ⟨T4, X4, e4, st4⟩ := getF X3 hx hZ hown (host := "") (Or.inl (own_w hw 30 rfl)) Via.refl e3 F3 (g := (mkF m 32 #[.val (.ref b9), .val (.int (1 : Int32))] [(.ref b9)])) rfl rfl (hb hby own_d7_32)
    refine own_st st4 ?_
    show own_Go _ _ _ _ T4 (mkF m 35 #[.val (.ref b9), .val (.int (1 : Int32))] [(.int ((0 : Int32) + (1 : Int32)))])
    refine own_st (fun t k => XS.aloadN X4.here hx rfl (hb hby own_d7_35) rfl rfl k) ?_
    show own_Go _ _ _ _ T4 (mkF m 36 #[.val (.ref b9), .val (.int (1 : Int32))] [(.ref b9), (.int ((0 : Int32) + (1 : Int32)))])
    have f5 := (P0.other W3 (Or.inr (slot_ne (Or.inl (own_w hw 24 rfl)) (Or.inl (own_w hw 31 rfl)) (by decide) (t := .int) (t' := .int) (by decide) (by decide))))
    obtain ⟨T6, X6, e6, st6⟩ := getF X4 hx hZ hown (host := "") (Or.inl (own_w hw 23 rfl)) Via.refl e4 f5 (g := (mkF m 36 #[.val (.ref b9), .val (.int (1 : Int32))] [(.ref b9), (.int ((0 : Int32) + (1 : Int32)))])) rfl rfl (hb hby own_d7_36)
    refine own_st st6 ?_
    show own_Go _ _ _ _ T6 (mkF m 39 #[.val (.ref b9), .val (.int (1 : Int32))] [(.int (((0 : Int32) - (0 : Int32)) + (3 : Int32))), (.int ((0 : Int32) + (1 : Int32)))])
    refine own_st (fun t k => XS.icmpYes X6.here hx rfl (pc0 := 39) (pc' := 46) rfl (hb hby own_d7_39) rfl (feq (by decide : ¬ (((0 : Int32) + (1 : Int32)) = (((0 : Int32) - (0 : Int32)) + (3 : Int32))))).2 (by decide) (by decide) k) ?_
    show own_Go _ _ _ _ T6 (mkF m 46 #[.val (.ref b9), .val (.int (1 : Int32))] [])
    have f7 := (P4.other W3 (Or.inr (slot_ne (Or.inl (own_w hw 13 rfl)) (Or.inl (own_w hw 31 rfl)) (by decide) (t := (.array .byte)) (t' := .int) (by decide) (by decide))))
    exact own_retV X6 hx hlk hret (hb hby own_d7_46) (by decide) (by decide) e6 ⟨N3, K3, ⟨rfl, f5, F3, f7, trivial⟩⟩
def own_Q8_24 (Z : State) (b9 : Addr) (w_NONE : Addr) (b8x4_8c1c18 : Addr) (h0 : Heap) (n0 : Nat) (v : Option Value) (h : Heap) (L : List Loc) : Prop := Fr n0 L ∧ Keep h0 h [b9] ∧ ((v = none ∧ Fld Z h b9 "com/example/backchannel/backchannel/server/ByteQueue" "bytes" "[B" (.ref w_NONE) ∧ Fld Z h b9 "com/example/backchannel/backchannel/server/ByteQueue" "start" "I" (.int (0 : Int32)) ∧ Fld Z h b9 "com/example/backchannel/backchannel/server/ByteQueue" "end" "I" (.int (0 : Int32)) ∧ True))
set_option maxRecDepth 65536 in
set_option maxHeartbeats 40000000 in
theorem own_rm8_24 (l : Launch) (Z : State) (a0 : Array Value) (hw : ∀ d ∈ tables_1, d.before a0 Z = true) (ws : List Jvm.Cond) (b9 : Addr) (w_NONE : Addr) (b8x4_8c1c18 : Addr) (h0 : Heap) (n0 : Nat) (Z0 : n0 ≤ h0.size) (P0 : Sta Z h0 "com/example/backchannel/backchannel/server/ByteQueue" "NONE" "[B" (.ref w_NONE)) (P1 : Exa Z h0 b9 "com/example/backchannel/backchannel/server/ByteQueue") (P2 : Fld Z h0 b9 "com/example/backchannel/backchannel/server/ByteQueue" "bytes" "[B" (.ref b8x4_8c1c18)) (g_b9 : n0 ≤ b9) (P4 : Fld Z h0 b9 "com/example/backchannel/backchannel/server/ByteQueue" "start" "I" (.int ((0 : Int32) + (1 : Int32)))) (P5 : Fld Z h0 b9 "com/example/backchannel/backchannel/server/ByteQueue" "end" "I" (.int (((0 : Int32) - (0 : Int32)) + (3 : Int32)))) :
    MetFree l (⟨"com/example/backchannel/backchannel/server/ByteQueue", "clear", "()V"⟩ : MethodName) (head1 (Jvm.Cond.code (⟨"com/example/backchannel/backchannel/server/ByteQueue", "clear", "()V"⟩ : MethodName) prog_47_method_11_code 1 none :: ws) ({ frames := 0, cells := 0, slots := 0, locals := 0 } : Room)) (fun a U => a = #[(.ref b9)] ∧ Z.Warmed39 U.vm ∧ U.heap = h0) (fun _ _ _ _ _ => True) (fun _ U o U' => ∃ v L, o = .returned v ∧ own_Q8_24 Z b9 w_NONE b8x4_8c1c18 h0 n0 v U'.heap L ∧ FrameEnd U o U' L ({ frames := 0, cells := 0, slots := 0, locals := 0 } : Room).cells ({ frames := 0, cells := 0, slots := 0, locals := 0 } : Room).slots) := by
  refine MetFree.of_bodySF (plainFor_of_name own_pn0) hisR ?_
  intro p e s m args below meth c s₁ Bd hml0 hP hK
  obtain ⟨rfl, hZ, hh⟩ := hP
  have hx := Bd.exec
  have hlk := Bd.notSynchronized
  have hret := Bd.returns
  have hby := Bd.bytes
  have hml : c.maxLocals = 1 := hml0
  have hown : s.vm.findClass "com/example/backchannel/backchannel/server/ByteQueue" = some m.cls := findClass_of_methodNamed Bd.named
  have hnm := (name_of_methodNamed Bd.named Bd.method).1
  have X0 : Stand p l e ({ frames := 0, cells := 0, slots := 0, locals := 0 } : Room) s m #[(.ref b9)] below meth c s₁ [] 0 0 := Stand.of_body Bd
  have e0 : s₁.heap = h0 := by rw [← hh, Bd.state]; rfl
  have N0 := Fr.nil n0
  refine own_open (Q := own_Q8_24 Z b9 w_NONE b8x4_8c1c18 h0 n0) (own_ef8 m b9) ?_
  show own_Go _ _ _ _ s₁ (mkF m 0 #[.val (.ref b9)] [])
  refine own_st (fun t k => XS.aloadN X0.here hx rfl (hb hby own_d8_0) rfl rfl k) ?_
  show own_Go _ _ _ _ s₁ (mkF m 1 #[.val (.ref b9)] [(.ref b9)])
  obtain ⟨T1, X1, e1, st1⟩ := getS2 X0 hx hZ hown (host := "") (Or.inl (own_w hw 10 rfl)) Via.refl e0 P0 (g := (mkF m 1 #[.val (.ref b9)] [(.ref b9)])) rfl (hb hby own_d8_1)
  refine own_st st1 ?_
  show own_Go _ _ _ _ T1 (mkF m 4 #[.val (.ref b9)] [(.ref w_NONE), (.ref b9)])
  obtain ⟨T2, h2, X2, e2, W2, st2⟩ := putF X1 hx hZ hown (host := "") (Or.inl (own_w hw 12 rfl)) Via.refl e1 P2 P1 (Or.inl (own_w hw 13 rfl)) (own_w hw 2 rfl) (ty := (.array .byte)) (by decide) rfl rfl (g := (mkF m 4 #[.val (.ref b9)] [(.ref w_NONE), (.ref b9)])) rfl rfl (hb hby own_d8_4)
  refine own_st st2 ?_
  have K2 : Keep h0 h2 [b9] := (Keep.refl h0 [b9]).wr W2 (Or.inl (List.mem_of_getElem? (i := 0) rfl))
  have Z2 := Nat.le_trans Z0 (Keep.of_wr W2).1
  have N2 := Fr.snoc X2 N0 g_b9
  have F2 := P2.same W2
  show own_Go _ _ _ _ T2 (mkF m 7 #[.val (.ref b9)] [])
  refine own_st (fun t k => XS.aloadN X2.here hx rfl (hb hby own_d8_7) rfl rfl k) ?_
  show own_Go _ _ _ _ T2 (mkF m 8 #[.val (.ref b9)] [(.ref b9)])
  refine own_st (fun t k => XS.iconst X2.here hx rfl (hb hby own_d8_8) k) ?_
  show own_Go _ _ _ _ T2 (mkF m 9 #[.val (.ref b9)] [(.int (0 : Int32)), (.ref b9)])
  have f3 := (P1.wr W2)
  have f4 := (P4.other W2 (Or.inr (slot_ne (Or.inl (own_w hw 31 rfl)) (Or.inl (own_w hw 13 rfl)) (by decide) (t := .int) (t' := (.array .byte)) (by decide) (by decide))))
  obtain ⟨T5, h5, X5, e5, W5, st5⟩ := putF X2 hx hZ hown (host := "") (Or.inl (own_w hw 30 rfl)) Via.refl e2 f4 f3 (Or.inl (own_w hw 31 rfl)) (own_w hw 2 rfl) (ty := .int) (by decide) rfl rfl (g := (mkF m 9 #[.val (.ref b9)] [(.int (0 : Int32)), (.ref b9)])) rfl rfl (hb hby own_d8_9)
  refine own_st st5 ?_
  have K5 : Keep h0 h5 [b9] := K2.wr W5 (Or.inl (List.mem_of_getElem? (i := 0) rfl))
  have Z5 := Nat.le_trans Z2 (Keep.of_wr W5).1
  have N5 := Fr.snoc X5 N2 g_b9
  have F5 := f4.same W5
  show own_Go _ _ _ _ T5 (mkF m 12 #[.val (.ref b9)] [])
  refine own_st (fun t k => XS.aloadN X5.here hx rfl (hb hby own_d8_12) rfl rfl k) ?_
  show own_Go _ _ _ _ T5 (mkF m 13 #[.val (.ref b9)] [(.ref b9)])
  refine own_st (fun t k => XS.iconst X5.here hx rfl (hb hby own_d8_13) k) ?_
  show own_Go _ _ _ _ T5 (mkF m 14 #[.val (.ref b9)] [(.int (0 : Int32)), (.ref b9)])
  have f6 := (f3.wr W5)
  have f7 := ((P5.other W2 (Or.inr (slot_ne (Or.inl (own_w hw 24 rfl)) (Or.inl (own_w hw 13 rfl)) (by decide) (t := .int) (t' := (.array .byte)) (by decide) (by decide)))).other W5 (Or.inr (slot_ne (Or.inl (own_w hw 24 rfl)) (Or.inl (own_w hw 31 rfl)) (by decide) (t := .int) (t' := .int) (by decide) (by decide))))
  obtain ⟨T8, h8, X8, e8, W8, st8⟩ := putF X5 hx hZ hown (host := "") (Or.inl (own_w hw 23 rfl)) Via.refl e5 f7 f6 (Or.inl (own_w hw 24 rfl)) (own_w hw 2 rfl) (ty := .int) (by decide) rfl rfl (g := (mkF m 14 #[.val (.ref b9)] [(.int (0 : Int32)), (.ref b9)])) rfl rfl (hb hby own_d8_14)
  refine own_st st8 ?_
  have K8 : Keep h0 h8 [b9] := K5.wr W8 (Or.inl (List.mem_of_getElem? (i := 0) rfl))
  have Z8 := Nat.le_trans Z5 (Keep.of_wr W8).1
  have N8 := Fr.snoc X8 N5 g_b9
  have F8 := f7.same W8
  show own_Go _ _ _ _ T8 (mkF m 17 #[.val (.ref b9)] [])
  have f9 := ((F2.other W5 (Or.inr (slot_ne (Or.inl (own_w hw 13 rfl)) (Or.inl (own_w hw 31 rfl)) (by decide) (t := (.array .byte)) (t' := .int) (by decide) (by decide)))).other W8 (Or.inr (slot_ne (Or.inl (own_w hw 13 rfl)) (Or.inl (own_w hw 24 rfl)) (by decide) (t := (.array .byte)) (t' := .int) (by decide) (by decide))))
  have f10 := (F5.other W8 (Or.inr (slot_ne (Or.inl (own_w hw 31 rfl)) (Or.inl (own_w hw 24 rfl)) (by decide) (t := .int) (t' := .int) (by decide) (by decide))))
  exact own_retV X8 hx hlk hret (hb hby own_d8_17) (by decide) (by decide) e8 ⟨N8, K8, ⟨rfl, f9, f10, F8, trivial⟩⟩
def own_Q7_26 (Z : State) (b9 : Addr) (b8x4_8c1c18 : Addr) (h0 : Heap) (n0 : Nat) (v : Option Value) (h : Heap) (L : List Loc) : Prop := Fr n0 L ∧ Keep h0 h [b9] ∧ ((v = none ∧ Fld Z h b9 "com/example/backchannel/backchannel/server/ByteQueue" "end" "I" (.int (((0 : Int32) - (0 : Int32)) + (3 : Int32))) ∧ Fld Z h b9 "com/example/backchannel/backchannel/server/ByteQueue" "start" "I" (.int ((0 : Int32) + (2 : Int32))) ∧ Fld Z h b9 "com/example/backchannel/backchannel/server/ByteQueue" "bytes" "[B" (.ref b8x4_8c1c18) ∧ True))
set_option maxRecDepth 65536 in
set_option maxHeartbeats 40000000 in
theorem own_rm7_26 (l : Launch) (Z : State) (a0 : Array Value) (hw : ∀ d ∈ tables_1, d.before a0 Z = true) (ws : List Jvm.Cond) (b9 : Addr) (b8x4_8c1c18 : Addr) (h0 : Heap) (n0 : Nat) (Z0 : n0 ≤ h0.size) (P0 : Fld Z h0 b9 "com/example/backchannel/backchannel/server/ByteQueue" "end" "I" (.int (((0 : Int32) - (0 : Int32)) + (3 : Int32)))) (P1 : Fld Z h0 b9 "com/example/backchannel/backchannel/server/ByteQueue" "start" "I" (.int (0 : Int32))) (P2 : Exa Z h0 b9 "com/example/backchannel/backchannel/server/ByteQueue") (g_b9 : n0 ≤ b9) (P4 : Fld Z h0 b9 "com/example/backchannel/backchannel/server/ByteQueue" "bytes" "[B" (.ref b8x4_8c1c18)) :
    MetFree l (⟨"com/example/backchannel/backchannel/server/ByteQueue", "remove", "(I)V"⟩ : MethodName) (head1 (Jvm.Cond.code (⟨"com/example/backchannel/backchannel/server/ByteQueue", "remove", "(I)V"⟩ : MethodName) prog_47_method_9_code 2 none :: ws) ({ frames := 1, cells := 0, slots := 0, locals := 13 } : Room)) (fun a U => a = #[(.ref b9), (.int (2 : Int32))] ∧ Z.Warmed39 U.vm ∧ U.heap = h0) (fun _ _ _ _ _ => True) (fun _ U o U' => ∃ v L, o = .returned v ∧ own_Q7_26 Z b9 b8x4_8c1c18 h0 n0 v U'.heap L ∧ FrameEnd U o U' L ({ frames := 1, cells := 0, slots := 0, locals := 13 } : Room).cells ({ frames := 1, cells := 0, slots := 0, locals := 13 } : Room).slots) := by
  refine MetFree.of_bodySF (plainFor_of_name own_pn0) hisR ?_
  intro p e s m args below meth c s₁ Bd hml0 hP hK
  obtain ⟨rfl, hZ, hh⟩ := hP
  have hx := Bd.exec
  have hlk := Bd.notSynchronized
  have hret := Bd.returns
  have hby := Bd.bytes
  have hml : c.maxLocals = 2 := hml0
  have hown : s.vm.findClass "com/example/backchannel/backchannel/server/ByteQueue" = some m.cls := findClass_of_methodNamed Bd.named
  have hnm := (name_of_methodNamed Bd.named Bd.method).1
  have X0 : Stand p l e ({ frames := 1, cells := 0, slots := 0, locals := 13 } : Room) s m #[(.ref b9), (.int (2 : Int32))] below meth c s₁ [] 0 0 := Stand.of_body Bd
  have e0 : s₁.heap = h0 := by rw [← hh, Bd.state]; rfl
  have N0 := Fr.nil n0
  refine own_open (Q := own_Q7_26 Z b9 b8x4_8c1c18 h0 n0) (own_ef7 m b9 (2 : Int32)) ?_
  show own_Go _ _ _ _ s₁ (mkF m 0 #[.val (.ref b9), .val (.int (2 : Int32))] [])
  refine own_st (fun t k => XS.iloadN X0.here hx rfl (hb hby own_d7_0) rfl k) ?_
  show own_Go _ _ _ _ s₁ (mkF m 1 #[.val (.ref b9), .val (.int (2 : Int32))] [(.int (2 : Int32))])
  refine own_st (fun t k => XS.ifNo X0.here hx rfl (hb hby own_d7_1) rfl ((if0 _ _).trans (flt (by decide : ¬ ((2 : Int32) < (0 : Int32)))).1) k) ?_
  show own_Go _ _ _ _ s₁ (mkF m 4 #[.val (.ref b9), .val (.int (2 : Int32))] [])
  refine own_st (fun t k => XS.iloadN X0.here hx rfl (hb hby own_d7_4) rfl k) ?_
  show own_Go _ _ _ _ s₁ (mkF m 5 #[.val (.ref b9), .val (.int (2 : Int32))] [(.int (2 : Int32))])
  refine own_st (fun t k => XS.aloadN X0.here hx rfl (hb hby own_d7_5) rfl rfl k) ?_
  show own_Go _ _ _ _ s₁ (mkF m 6 #[.val (.ref b9), .val (.int (2 : Int32))] [(.ref b9), (.int (2 : Int32))])
  obtain ⟨cq1, kq1, q1a, q1b, q1c⟩ := isOf hZ e0 P2
  obtain ⟨_, _, ⟨T1, L1, k1, n1⟩, -, X1, ⟨Lc1, hQ1, l1, y1, z1⟩, st1⟩ := X0.virtualBack hx (y := (⟨"com/example/backchannel/backchannel/server/ByteQueue", "size", "()I"⟩ : MethodName)) (z := (⟨"com/example/backchannel/backchannel/server/ByteQueue", "size", "()I"⟩ : MethodName)) hown (mvT hZ (own_w hw 25 rfl)) (mvT hZ (own_w hw 26 rfl)) (notFace_of_selects (args := #[]) (mvT hZ (own_w hw 28 rfl))) (mvT hZ (own_w hw 28 rfl)) (mvT hZ (own_w hw 27 rfl)) (by decide) (backOf (W := 1) (own_rm5 l Z a0 hw [] b9 (((0 : Int32) - (0 : Int32)) + (3 : Int32)) (0 : Int32) h0 n0 Z0 P0 P1) hZ (own_w hw 29 rfl) (own_w hw 3 rfl) (by decide) (by decide)) q1a q1c (g := (mkF m 6 #[.val (.ref b9), .val (.int (2 : Int32))] [(.ref b9), (.int (2 : Int32))])) rfl (by rw [hml]; rfl) (Steps.refl _) (argsL := []) (rest := [(.int (2 : Int32))]) (lenOf own_pd1 rfl) rfl (by show 2 * 0 + _ ≤ _; exact Nat.le_of_eq rfl) (hb hby own_d7_6) (fun _ _ => ⟨rfl, e0, (by decide : 0 + 0 ≤ _), (by decide : 0 + 0 ≤ _)⟩)
  dsimp only [Pt.U, Pt.locs, Pt.cells, Pt.slots] at X1 l1 y1 z1 st1 hQ1
  subst l1 y1 z1
  obtain ⟨N1q, e1, hL1⟩ := hQ1
  have N1 := Fr.app N0 N1q
  rcases hL1 with ⟨rfl, -⟩
  · skip
    refine own_st (fun t k => st1.trans k) ?_
    show own_Go _ _ _ _ T1 (mkF m 9 #[.val (.ref b9), .val (.int (2 : Int32))] [(.int ((((0 : Int32) - (0 : Int32)) + (3 : Int32)) - (0 : Int32))), (.int (2 : Int32))])
    refine own_st (fun t k => XS.icmpYes X1.here hx rfl (pc0 := 9) (pc' := 21) rfl (hb hby own_d7_9) rfl (flt (by decide : ¬ (((((0 : Int32) - (0 : Int32)) + (3 : Int32)) - (0 : Int32)) < (2 : Int32)))).2.2.2 (by decide) (by decide) k) ?_
    show own_Go _ _ _ _ T1 (mkF m 21 #[.val (.ref b9), .val (.int (2 : Int32))] [])
    refine own_st (fun t k => XS.aloadN X1.here hx rfl (hb hby own_d7_21) rfl rfl k) ?_
    show own_Go _ _ _ _ T1 (mkF m 22 #[.val (.ref b9), .val (.int (2 : Int32))] [(.ref b9)])
    refine own_st (fun t k => XS.dup X1.here hx rfl (hb hby own_d7_22) rfl rfl k) ?_
    show own_Go _ _ _ _ T1 (mkF m 23 #[.val (.ref b9), .val (.int (2 : Int32))] [(.ref b9), (.ref b9)])
    obtain ⟨T2, X2, e2, st2⟩ := getF X1 hx hZ hown (host := "") (Or.inl (own_w hw 30 rfl)) Via.refl e1 P1 (g := (mkF m 23 #[.val (.ref b9), .val (.int (2 : Int32))] [(.ref b9), (.ref b9)])) rfl rfl (hb hby own_d7_23)
    refine own_st st2 ?_
    show own_Go _ _ _ _ T2 (mkF m 26 #[.val (.ref b9), .val (.int (2 : Int32))] [(.int (0 : Int32)), (.ref b9)])
    refine own_st (fun t k => XS.iloadN X2.here hx rfl (hb hby own_d7_26) rfl k) ?_
    show own_Go _ _ _ _ T2 (mkF m 27 #[.val (.ref b9), .val (.int (2 : Int32))] [(.int (2 : Int32)), (.int (0 : Int32)), (.ref b9)])
    refine own_st (fun t k => XS.iadd X2.here hx rfl (hb hby own_d7_27) rfl k) ?_
    show own_Go _ _ _ _ T2 (mkF m 28 #[.val (.ref b9), .val (.int (2 : Int32))] [(.int ((0 : Int32) + (2 : Int32))), (.ref b9)])
    obtain ⟨T3, h3, X3, e3, W3, st3⟩ := putF X2 hx hZ hown (host := "") (Or.inl (own_w hw 30 rfl)) Via.refl e2 P1 P2 (Or.inl (own_w hw 31 rfl)) (own_w hw 2 rfl) (ty := .int) (by decide) rfl rfl (g := (mkF m 28 #[.val (.ref b9), .val (.int (2 : Int32))] [(.int ((0 : Int32) + (2 : Int32))), (.ref b9)])) rfl rfl (hb hby own_d7_28)
    refine own_st st3 ?_
    have K3 : Keep h0 h3 [b9] := (Keep.refl h0 [b9]).wr W3 (Or.inl (List.mem_of_getElem? (i := 0) rfl))
    have Z3 := Nat.le_trans Z0 (Keep.of_wr W3).1
    have N3 := Fr.snoc X3 N1 g_b9
    have F3 := P1.same W3
    show own_Go _ _ _ _ T3 (mkF m 31 #[.val (.ref b9), .val (.int (2 : Int32))] [])
    refine own_st (fun t k => XS.aloadN X3.here hx rfl (hb hby own_d7_31) rfl rfl k) ?_
    show own_Go _ _ _ _ T3 (mkF m 32 #[.val (.ref b9), .val (.int (2 : Int32))] [(.ref b9)])
    obtain ⟨T4, X4, e4, st4⟩ := getF X3 hx hZ hown (host := "") (Or.inl (own_w hw 30 rfl)) Via.refl e3 F3 (g := (mkF m 32 #[.val (.ref b9), .val (.int (2 : Int32))] [(.ref b9)])) rfl rfl (hb hby own_d7_32)
    refine own_st st4 ?_
    show own_Go _ _ _ _ T4 (mkF m 35 #[.val (.ref b9), .val (.int (2 : Int32))] [(.int ((0 : Int32) + (2 : Int32)))])
    refine own_st (fun t k => XS.aloadN X4.here hx rfl (hb hby own_d7_35) rfl rfl k) ?_
    show own_Go _ _ _ _ T4 (mkF m 36 #[.val (.ref b9), .val (.int (2 : Int32))] [(.ref b9), (.int ((0 : Int32) + (2 : Int32)))])
    have f5 := (P0.other W3 (Or.inr (slot_ne (Or.inl (own_w hw 24 rfl)) (Or.inl (own_w hw 31 rfl)) (by decide) (t := .int) (t' := .int) (by decide) (by decide))))
    obtain ⟨T6, X6, e6, st6⟩ := getF X4 hx hZ hown (host := "") (Or.inl (own_w hw 23 rfl)) Via.refl e4 f5 (g := (mkF m 36 #[.val (.ref b9), .val (.int (2 : Int32))] [(.ref b9), (.int ((0 : Int32) + (2 : Int32)))])) rfl rfl (hb hby own_d7_36)
    refine own_st st6 ?_
    show own_Go _ _ _ _ T6 (mkF m 39 #[.val (.ref b9), .val (.int (2 : Int32))] [(.int (((0 : Int32) - (0 : Int32)) + (3 : Int32))), (.int ((0 : Int32) + (2 : Int32)))])
    refine own_st (fun t k => XS.icmpYes X6.here hx rfl (pc0 := 39) (pc' := 46) rfl (hb hby own_d7_39) rfl (feq (by decide : ¬ (((0 : Int32) + (2 : Int32)) = (((0 : Int32) - (0 : Int32)) + (3 : Int32))))).2 (by decide) (by decide) k) ?_
    show own_Go _ _ _ _ T6 (mkF m 46 #[.val (.ref b9), .val (.int (2 : Int32))] [])
    have f7 := (P4.other W3 (Or.inr (slot_ne (Or.inl (own_w hw 13 rfl)) (Or.inl (own_w hw 31 rfl)) (by decide) (t := (.array .byte)) (t' := .int) (by decide) (by decide))))
    exact own_retV X6 hx hlk hret (hb hby own_d7_46) (by decide) (by decide) e6 ⟨N3, K3, ⟨rfl, f5, F3, f7, trivial⟩⟩
def own_Q8_28 (Z : State) (b9 : Addr) (w_NONE : Addr) (b8x4_8c1c18 : Addr) (h0 : Heap) (n0 : Nat) (v : Option Value) (h : Heap) (L : List Loc) : Prop := Fr n0 L ∧ Keep h0 h [b9] ∧ ((v = none ∧ Fld Z h b9 "com/example/backchannel/backchannel/server/ByteQueue" "bytes" "[B" (.ref w_NONE) ∧ Fld Z h b9 "com/example/backchannel/backchannel/server/ByteQueue" "start" "I" (.int (0 : Int32)) ∧ Fld Z h b9 "com/example/backchannel/backchannel/server/ByteQueue" "end" "I" (.int (0 : Int32)) ∧ True))
set_option maxRecDepth 65536 in
set_option maxHeartbeats 40000000 in
theorem own_rm8_28 (l : Launch) (Z : State) (a0 : Array Value) (hw : ∀ d ∈ tables_1, d.before a0 Z = true) (ws : List Jvm.Cond) (b9 : Addr) (w_NONE : Addr) (b8x4_8c1c18 : Addr) (h0 : Heap) (n0 : Nat) (Z0 : n0 ≤ h0.size) (P0 : Sta Z h0 "com/example/backchannel/backchannel/server/ByteQueue" "NONE" "[B" (.ref w_NONE)) (P1 : Exa Z h0 b9 "com/example/backchannel/backchannel/server/ByteQueue") (P2 : Fld Z h0 b9 "com/example/backchannel/backchannel/server/ByteQueue" "bytes" "[B" (.ref b8x4_8c1c18)) (g_b9 : n0 ≤ b9) (P4 : Fld Z h0 b9 "com/example/backchannel/backchannel/server/ByteQueue" "start" "I" (.int ((0 : Int32) + (2 : Int32)))) (P5 : Fld Z h0 b9 "com/example/backchannel/backchannel/server/ByteQueue" "end" "I" (.int (((0 : Int32) - (0 : Int32)) + (3 : Int32)))) :
    MetFree l (⟨"com/example/backchannel/backchannel/server/ByteQueue", "clear", "()V"⟩ : MethodName) (head1 (Jvm.Cond.code (⟨"com/example/backchannel/backchannel/server/ByteQueue", "clear", "()V"⟩ : MethodName) prog_47_method_11_code 1 none :: ws) ({ frames := 0, cells := 0, slots := 0, locals := 0 } : Room)) (fun a U => a = #[(.ref b9)] ∧ Z.Warmed39 U.vm ∧ U.heap = h0) (fun _ _ _ _ _ => True) (fun _ U o U' => ∃ v L, o = .returned v ∧ own_Q8_28 Z b9 w_NONE b8x4_8c1c18 h0 n0 v U'.heap L ∧ FrameEnd U o U' L ({ frames := 0, cells := 0, slots := 0, locals := 0 } : Room).cells ({ frames := 0, cells := 0, slots := 0, locals := 0 } : Room).slots) := by
  refine MetFree.of_bodySF (plainFor_of_name own_pn0) hisR ?_
  intro p e s m args below meth c s₁ Bd hml0 hP hK
  obtain ⟨rfl, hZ, hh⟩ := hP
  have hx := Bd.exec
  have hlk := Bd.notSynchronized
  have hret := Bd.returns
  have hby := Bd.bytes
  have hml : c.maxLocals = 1 := hml0
  have hown : s.vm.findClass "com/example/backchannel/backchannel/server/ByteQueue" = some m.cls := findClass_of_methodNamed Bd.named
  have hnm := (name_of_methodNamed Bd.named Bd.method).1
  have X0 : Stand p l e ({ frames := 0, cells := 0, slots := 0, locals := 0 } : Room) s m #[(.ref b9)] below meth c s₁ [] 0 0 := Stand.of_body Bd
  have e0 : s₁.heap = h0 := by rw [← hh, Bd.state]; rfl
  have N0 := Fr.nil n0
  refine own_open (Q := own_Q8_28 Z b9 w_NONE b8x4_8c1c18 h0 n0) (own_ef8 m b9) ?_
  show own_Go _ _ _ _ s₁ (mkF m 0 #[.val (.ref b9)] [])
  refine own_st (fun t k => XS.aloadN X0.here hx rfl (hb hby own_d8_0) rfl rfl k) ?_
  show own_Go _ _ _ _ s₁ (mkF m 1 #[.val (.ref b9)] [(.ref b9)])
  obtain ⟨T1, X1, e1, st1⟩ := getS2 X0 hx hZ hown (host := "") (Or.inl (own_w hw 10 rfl)) Via.refl e0 P0 (g := (mkF m 1 #[.val (.ref b9)] [(.ref b9)])) rfl (hb hby own_d8_1)
  refine own_st st1 ?_
  show own_Go _ _ _ _ T1 (mkF m 4 #[.val (.ref b9)] [(.ref w_NONE), (.ref b9)])
  obtain ⟨T2, h2, X2, e2, W2, st2⟩ := putF X1 hx hZ hown (host := "") (Or.inl (own_w hw 12 rfl)) Via.refl e1 P2 P1 (Or.inl (own_w hw 13 rfl)) (own_w hw 2 rfl) (ty := (.array .byte)) (by decide) rfl rfl (g := (mkF m 4 #[.val (.ref b9)] [(.ref w_NONE), (.ref b9)])) rfl rfl (hb hby own_d8_4)
  refine own_st st2 ?_
  have K2 : Keep h0 h2 [b9] := (Keep.refl h0 [b9]).wr W2 (Or.inl (List.mem_of_getElem? (i := 0) rfl))
  have Z2 := Nat.le_trans Z0 (Keep.of_wr W2).1
  have N2 := Fr.snoc X2 N0 g_b9
  have F2 := P2.same W2
  show own_Go _ _ _ _ T2 (mkF m 7 #[.val (.ref b9)] [])
  refine own_st (fun t k => XS.aloadN X2.here hx rfl (hb hby own_d8_7) rfl rfl k) ?_
  show own_Go _ _ _ _ T2 (mkF m 8 #[.val (.ref b9)] [(.ref b9)])
  refine own_st (fun t k => XS.iconst X2.here hx rfl (hb hby own_d8_8) k) ?_
  show own_Go _ _ _ _ T2 (mkF m 9 #[.val (.ref b9)] [(.int (0 : Int32)), (.ref b9)])
  have f3 := (P1.wr W2)
  have f4 := (P4.other W2 (Or.inr (slot_ne (Or.inl (own_w hw 31 rfl)) (Or.inl (own_w hw 13 rfl)) (by decide) (t := .int) (t' := (.array .byte)) (by decide) (by decide))))
  obtain ⟨T5, h5, X5, e5, W5, st5⟩ := putF X2 hx hZ hown (host := "") (Or.inl (own_w hw 30 rfl)) Via.refl e2 f4 f3 (Or.inl (own_w hw 31 rfl)) (own_w hw 2 rfl) (ty := .int) (by decide) rfl rfl (g := (mkF m 9 #[.val (.ref b9)] [(.int (0 : Int32)), (.ref b9)])) rfl rfl (hb hby own_d8_9)
  refine own_st st5 ?_
  have K5 : Keep h0 h5 [b9] := K2.wr W5 (Or.inl (List.mem_of_getElem? (i := 0) rfl))
  have Z5 := Nat.le_trans Z2 (Keep.of_wr W5).1
  have N5 := Fr.snoc X5 N2 g_b9
  have F5 := f4.same W5
  show own_Go _ _ _ _ T5 (mkF m 12 #[.val (.ref b9)] [])
  refine own_st (fun t k => XS.aloadN X5.here hx rfl (hb hby own_d8_12) rfl rfl k) ?_
  show own_Go _ _ _ _ T5 (mkF m 13 #[.val (.ref b9)] [(.ref b9)])
  refine own_st (fun t k => XS.iconst X5.here hx rfl (hb hby own_d8_13) k) ?_
  show own_Go _ _ _ _ T5 (mkF m 14 #[.val (.ref b9)] [(.int (0 : Int32)), (.ref b9)])
  have f6 := (f3.wr W5)
  have f7 := ((P5.other W2 (Or.inr (slot_ne (Or.inl (own_w hw 24 rfl)) (Or.inl (own_w hw 13 rfl)) (by decide) (t := .int) (t' := (.array .byte)) (by decide) (by decide)))).other W5 (Or.inr (slot_ne (Or.inl (own_w hw 24 rfl)) (Or.inl (own_w hw 31 rfl)) (by decide) (t := .int) (t' := .int) (by decide) (by decide))))
  obtain ⟨T8, h8, X8, e8, W8, st8⟩ := putF X5 hx hZ hown (host := "") (Or.inl (own_w hw 23 rfl)) Via.refl e5 f7 f6 (Or.inl (own_w hw 24 rfl)) (own_w hw 2 rfl) (ty := .int) (by decide) rfl rfl (g := (mkF m 14 #[.val (.ref b9)] [(.int (0 : Int32)), (.ref b9)])) rfl rfl (hb hby own_d8_14)
  refine own_st st8 ?_
  have K8 : Keep h0 h8 [b9] := K5.wr W8 (Or.inl (List.mem_of_getElem? (i := 0) rfl))
  have Z8 := Nat.le_trans Z5 (Keep.of_wr W8).1
  have N8 := Fr.snoc X8 N5 g_b9
  have F8 := f7.same W8
  show own_Go _ _ _ _ T8 (mkF m 17 #[.val (.ref b9)] [])
  have f9 := ((F2.other W5 (Or.inr (slot_ne (Or.inl (own_w hw 13 rfl)) (Or.inl (own_w hw 31 rfl)) (by decide) (t := (.array .byte)) (t' := .int) (by decide) (by decide)))).other W8 (Or.inr (slot_ne (Or.inl (own_w hw 13 rfl)) (Or.inl (own_w hw 24 rfl)) (by decide) (t := (.array .byte)) (t' := .int) (by decide) (by decide))))
  have f10 := (F5.other W8 (Or.inr (slot_ne (Or.inl (own_w hw 31 rfl)) (Or.inl (own_w hw 24 rfl)) (by decide) (t := .int) (t' := .int) (by decide) (by decide))))
  exact own_retV X8 hx hlk hret (hb hby own_d8_17) (by decide) (by decide) e8 ⟨N8, K8, ⟨rfl, f9, f10, F8, trivial⟩⟩
def own_Q8_34 (Z : State) (b9 : Addr) (w_NONE : Addr) (b8x4_8c1c18 : Addr) (h0 : Heap) (n0 : Nat) (v : Option Value) (h : Heap) (L : List Loc) : Prop := Fr n0 L ∧ Keep h0 h [b9] ∧ ((v = none ∧ Fld Z h b9 "com/example/backchannel/backchannel/server/ByteQueue" "bytes" "[B" (.ref w_NONE) ∧ Fld Z h b9 "com/example/backchannel/backchannel/server/ByteQueue" "start" "I" (.int (0 : Int32)) ∧ Fld Z h b9 "com/example/backchannel/backchannel/server/ByteQueue" "end" "I" (.int (0 : Int32)) ∧ True))
set_option maxRecDepth 65536 in
set_option maxHeartbeats 40000000 in
theorem own_rm8_34 (l : Launch) (Z : State) (a0 : Array Value) (hw : ∀ d ∈ tables_1, d.before a0 Z = true) (ws : List Jvm.Cond) (b9 : Addr) (w_NONE : Addr) (b8x4_8c1c18 : Addr) (h0 : Heap) (n0 : Nat) (Z0 : n0 ≤ h0.size) (P0 : Sta Z h0 "com/example/backchannel/backchannel/server/ByteQueue" "NONE" "[B" (.ref w_NONE)) (P1 : Exa Z h0 b9 "com/example/backchannel/backchannel/server/ByteQueue") (P2 : Fld Z h0 b9 "com/example/backchannel/backchannel/server/ByteQueue" "bytes" "[B" (.ref b8x4_8c1c18)) (g_b9 : n0 ≤ b9) (P4 : Fld Z h0 b9 "com/example/backchannel/backchannel/server/ByteQueue" "start" "I" (.int ((0 : Int32) + (3 : Int32)))) (P5 : Fld Z h0 b9 "com/example/backchannel/backchannel/server/ByteQueue" "end" "I" (.int (((0 : Int32) - (0 : Int32)) + (3 : Int32)))) :
    MetFree l (⟨"com/example/backchannel/backchannel/server/ByteQueue", "clear", "()V"⟩ : MethodName) (head1 (Jvm.Cond.code (⟨"com/example/backchannel/backchannel/server/ByteQueue", "clear", "()V"⟩ : MethodName) prog_47_method_11_code 1 none :: ws) ({ frames := 0, cells := 0, slots := 0, locals := 0 } : Room)) (fun a U => a = #[(.ref b9)] ∧ Z.Warmed39 U.vm ∧ U.heap = h0) (fun _ _ _ _ _ => True) (fun _ U o U' => ∃ v L, o = .returned v ∧ own_Q8_34 Z b9 w_NONE b8x4_8c1c18 h0 n0 v U'.heap L ∧ FrameEnd U o U' L ({ frames := 0, cells := 0, slots := 0, locals := 0 } : Room).cells ({ frames := 0, cells := 0, slots := 0, locals := 0 } : Room).slots) := by
  refine MetFree.of_bodySF (plainFor_of_name own_pn0) hisR ?_
  intro p e s m args below meth c s₁ Bd hml0 hP hK
  obtain ⟨rfl, hZ, hh⟩ := hP
  have hx := Bd.exec
  have hlk := Bd.notSynchronized
  have hret := Bd.returns
  have hby := Bd.bytes
  have hml : c.maxLocals = 1 := hml0
  have hown : s.vm.findClass "com/example/backchannel/backchannel/server/ByteQueue" = some m.cls := findClass_of_methodNamed Bd.named
  have hnm := (name_of_methodNamed Bd.named Bd.method).1
  have X0 : Stand p l e ({ frames := 0, cells := 0, slots := 0, locals := 0 } : Room) s m #[(.ref b9)] below meth c s₁ [] 0 0 := Stand.of_body Bd
  have e0 : s₁.heap = h0 := by rw [← hh, Bd.state]; rfl
  have N0 := Fr.nil n0
  refine own_open (Q := own_Q8_34 Z b9 w_NONE b8x4_8c1c18 h0 n0) (own_ef8 m b9) ?_
  show own_Go _ _ _ _ s₁ (mkF m 0 #[.val (.ref b9)] [])
  refine own_st (fun t k => XS.aloadN X0.here hx rfl (hb hby own_d8_0) rfl rfl k) ?_
  show own_Go _ _ _ _ s₁ (mkF m 1 #[.val (.ref b9)] [(.ref b9)])
  obtain ⟨T1, X1, e1, st1⟩ := getS2 X0 hx hZ hown (host := "") (Or.inl (own_w hw 10 rfl)) Via.refl e0 P0 (g := (mkF m 1 #[.val (.ref b9)] [(.ref b9)])) rfl (hb hby own_d8_1)
  refine own_st st1 ?_
  show own_Go _ _ _ _ T1 (mkF m 4 #[.val (.ref b9)] [(.ref w_NONE), (.ref b9)])
  obtain ⟨T2, h2, X2, e2, W2, st2⟩ := putF X1 hx hZ hown (host := "") (Or.inl (own_w hw 12 rfl)) Via.refl e1 P2 P1 (Or.inl (own_w hw 13 rfl)) (own_w hw 2 rfl) (ty := (.array .byte)) (by decide) rfl rfl (g := (mkF m 4 #[.val (.ref b9)] [(.ref w_NONE), (.ref b9)])) rfl rfl (hb hby own_d8_4)
  refine own_st st2 ?_
  have K2 : Keep h0 h2 [b9] := (Keep.refl h0 [b9]).wr W2 (Or.inl (List.mem_of_getElem? (i := 0) rfl))
  have Z2 := Nat.le_trans Z0 (Keep.of_wr W2).1
  have N2 := Fr.snoc X2 N0 g_b9
  have F2 := P2.same W2
  show own_Go _ _ _ _ T2 (mkF m 7 #[.val (.ref b9)] [])
  refine own_st (fun t k => XS.aloadN X2.here hx rfl (hb hby own_d8_7) rfl rfl k) ?_
  show own_Go _ _ _ _ T2 (mkF m 8 #[.val (.ref b9)] [(.ref b9)])
  refine own_st (fun t k => XS.iconst X2.here hx rfl (hb hby own_d8_8) k) ?_
  show own_Go _ _ _ _ T2 (mkF m 9 #[.val (.ref b9)] [(.int (0 : Int32)), (.ref b9)])
  have f3 := (P1.wr W2)
  have f4 := (P4.other W2 (Or.inr (slot_ne (Or.inl (own_w hw 31 rfl)) (Or.inl (own_w hw 13 rfl)) (by decide) (t := .int) (t' := (.array .byte)) (by decide) (by decide))))
  obtain ⟨T5, h5, X5, e5, W5, st5⟩ := putF X2 hx hZ hown (host := "") (Or.inl (own_w hw 30 rfl)) Via.refl e2 f4 f3 (Or.inl (own_w hw 31 rfl)) (own_w hw 2 rfl) (ty := .int) (by decide) rfl rfl (g := (mkF m 9 #[.val (.ref b9)] [(.int (0 : Int32)), (.ref b9)])) rfl rfl (hb hby own_d8_9)
  refine own_st st5 ?_
  have K5 : Keep h0 h5 [b9] := K2.wr W5 (Or.inl (List.mem_of_getElem? (i := 0) rfl))
  have Z5 := Nat.le_trans Z2 (Keep.of_wr W5).1
  have N5 := Fr.snoc X5 N2 g_b9
  have F5 := f4.same W5
  show own_Go _ _ _ _ T5 (mkF m 12 #[.val (.ref b9)] [])
  refine own_st (fun t k => XS.aloadN X5.here hx rfl (hb hby own_d8_12) rfl rfl k) ?_
  show own_Go _ _ _ _ T5 (mkF m 13 #[.val (.ref b9)] [(.ref b9)])
  refine own_st (fun t k => XS.iconst X5.here hx rfl (hb hby own_d8_13) k) ?_
  show own_Go _ _ _ _ T5 (mkF m 14 #[.val (.ref b9)] [(.int (0 : Int32)), (.ref b9)])
  have f6 := (f3.wr W5)
  have f7 := ((P5.other W2 (Or.inr (slot_ne (Or.inl (own_w hw 24 rfl)) (Or.inl (own_w hw 13 rfl)) (by decide) (t := .int) (t' := (.array .byte)) (by decide) (by decide)))).other W5 (Or.inr (slot_ne (Or.inl (own_w hw 24 rfl)) (Or.inl (own_w hw 31 rfl)) (by decide) (t := .int) (t' := .int) (by decide) (by decide))))
  obtain ⟨T8, h8, X8, e8, W8, st8⟩ := putF X5 hx hZ hown (host := "") (Or.inl (own_w hw 23 rfl)) Via.refl e5 f7 f6 (Or.inl (own_w hw 24 rfl)) (own_w hw 2 rfl) (ty := .int) (by decide) rfl rfl (g := (mkF m 14 #[.val (.ref b9)] [(.int (0 : Int32)), (.ref b9)])) rfl rfl (hb hby own_d8_14)
  refine own_st st8 ?_
  have K8 : Keep h0 h8 [b9] := K5.wr W8 (Or.inl (List.mem_of_getElem? (i := 0) rfl))
  have Z8 := Nat.le_trans Z5 (Keep.of_wr W8).1
  have N8 := Fr.snoc X8 N5 g_b9
  have F8 := f7.same W8
  show own_Go _ _ _ _ T8 (mkF m 17 #[.val (.ref b9)] [])
  have f9 := ((F2.other W5 (Or.inr (slot_ne (Or.inl (own_w hw 13 rfl)) (Or.inl (own_w hw 31 rfl)) (by decide) (t := (.array .byte)) (t' := .int) (by decide) (by decide)))).other W8 (Or.inr (slot_ne (Or.inl (own_w hw 13 rfl)) (Or.inl (own_w hw 24 rfl)) (by decide) (t := (.array .byte)) (t' := .int) (by decide) (by decide))))
  have f10 := (F5.other W8 (Or.inr (slot_ne (Or.inl (own_w hw 31 rfl)) (Or.inl (own_w hw 24 rfl)) (by decide) (t := .int) (t' := .int) (by decide) (by decide))))
  exact own_retV X8 hx hlk hret (hb hby own_d8_17) (by decide) (by decide) e8 ⟨N8, K8, ⟨rfl, f9, f10, F8, trivial⟩⟩
theorem own_d7_42 : decode prog_47_method_9_code 42 = .ok (.aload_n 0, 1) := by decide +kernel
theorem own_d7_43 : decode prog_47_method_9_code 43 = .ok (.invokevirtual 59, 3) := by decide +kernel
def own_Q7_32 (Z : State) (b9 : Addr) (w_NONE : Addr) (b8x4_8c1c18 : Addr) (h0 : Heap) (n0 : Nat) (v : Option Value) (h : Heap) (L : List Loc) : Prop := Fr n0 L ∧ Keep h0 h [b9] ∧ ((v = none ∧ Fld Z h b9 "com/example/backchannel/backchannel/server/ByteQueue" "end" "I" (.int (0 : Int32)) ∧ Fld Z h b9 "com/example/backchannel/backchannel/server/ByteQueue" "start" "I" (.int (0 : Int32)) ∧ Fld Z h b9 "com/example/backchannel/backchannel/server/ByteQueue" "bytes" "[B" (.ref w_NONE) ∧ True))
set_option maxRecDepth 65536 in
set_option maxHeartbeats 40000000 in
theorem own_rm7_32 (l : Launch) (Z : State) (a0 : Array Value) (hw : ∀ d ∈ tables_1, d.before a0 Z = true) (ws : List Jvm.Cond) (b9 : Addr) (w_NONE : Addr) (b8x4_8c1c18 : Addr) (h0 : Heap) (n0 : Nat) (Z0 : n0 ≤ h0.size) (P0 : Fld Z h0 b9 "com/example/backchannel/backchannel/server/ByteQueue" "end" "I" (.int (((0 : Int32) - (0 : Int32)) + (3 : Int32)))) (P1 : Fld Z h0 b9 "com/example/backchannel/backchannel/server/ByteQueue" "start" "I" (.int (0 : Int32))) (P2 : Exa Z h0 b9 "com/example/backchannel/backchannel/server/ByteQueue") (g_b9 : n0 ≤ b9) (P4 : Sta Z h0 "com/example/backchannel/backchannel/server/ByteQueue" "NONE" "[B" (.ref w_NONE)) (P5 : Fld Z h0 b9 "com/example/backchannel/backchannel/server/ByteQueue" "bytes" "[B" (.ref b8x4_8c1c18)) :
    MetFree l (⟨"com/example/backchannel/backchannel/server/ByteQueue", "remove", "(I)V"⟩ : MethodName) (head1 (Jvm.Cond.code (⟨"com/example/backchannel/backchannel/server/ByteQueue", "remove", "(I)V"⟩ : MethodName) prog_47_method_9_code 2 none :: ws) ({ frames := 1, cells := 0, slots := 0, locals := 13 } : Room)) (fun a U => a = #[(.ref b9), (.int (3 : Int32))] ∧ Z.Warmed39 U.vm ∧ U.heap = h0) (fun _ _ _ _ _ => True) (fun _ U o U' => ∃ v L, o = .returned v ∧ own_Q7_32 Z b9 w_NONE b8x4_8c1c18 h0 n0 v U'.heap L ∧ FrameEnd U o U' L ({ frames := 1, cells := 0, slots := 0, locals := 13 } : Room).cells ({ frames := 1, cells := 0, slots := 0, locals := 13 } : Room).slots) := by
  refine MetFree.of_bodySF (plainFor_of_name own_pn0) hisR ?_
  intro p e s m args below meth c s₁ Bd hml0 hP hK
  obtain ⟨rfl, hZ, hh⟩ := hP
  have hx := Bd.exec
  have hlk := Bd.notSynchronized
  have hret := Bd.returns
  have hby := Bd.bytes
  have hml : c.maxLocals = 2 := hml0
  have hown : s.vm.findClass "com/example/backchannel/backchannel/server/ByteQueue" = some m.cls := findClass_of_methodNamed Bd.named
  have hnm := (name_of_methodNamed Bd.named Bd.method).1
  have X0 : Stand p l e ({ frames := 1, cells := 0, slots := 0, locals := 13 } : Room) s m #[(.ref b9), (.int (3 : Int32))] below meth c s₁ [] 0 0 := Stand.of_body Bd
  have e0 : s₁.heap = h0 := by rw [← hh, Bd.state]; rfl
  have N0 := Fr.nil n0
  refine own_open (Q := own_Q7_32 Z b9 w_NONE b8x4_8c1c18 h0 n0) (own_ef7 m b9 (3 : Int32)) ?_
  show own_Go _ _ _ _ s₁ (mkF m 0 #[.val (.ref b9), .val (.int (3 : Int32))] [])
  refine own_st (fun t k => XS.iloadN X0.here hx rfl (hb hby own_d7_0) rfl k) ?_
  show own_Go _ _ _ _ s₁ (mkF m 1 #[.val (.ref b9), .val (.int (3 : Int32))] [(.int (3 : Int32))])
  refine own_st (fun t k => XS.ifNo X0.here hx rfl (hb hby own_d7_1) rfl ((if0 _ _).trans (flt (by decide : ¬ ((3 : Int32) < (0 : Int32)))).1) k) ?_
  show own_Go _ _ _ _ s₁ (mkF m 4 #[.val (.ref b9), .val (.int (3 : Int32))] [])
  refine own_st (fun t k => XS.iloadN X0.here hx rfl (hb hby own_d7_4) rfl k) ?_
  show own_Go _ _ _ _ s₁ (mkF m 5 #[.val (.ref b9), .val (.int (3 : Int32))] [(.int (3 : Int32))])
  refine own_st (fun t k => XS.aloadN X0.here hx rfl (hb hby own_d7_5) rfl rfl k) ?_
  show own_Go _ _ _ _ s₁ (mkF m 6 #[.val (.ref b9), .val (.int (3 : Int32))] [(.ref b9), (.int (3 : Int32))])
  obtain ⟨cq1, kq1, q1a, q1b, q1c⟩ := isOf hZ e0 P2
  obtain ⟨_, _, ⟨T1, L1, k1, n1⟩, -, X1, ⟨Lc1, hQ1, l1, y1, z1⟩, st1⟩ := X0.virtualBack hx (y := (⟨"com/example/backchannel/backchannel/server/ByteQueue", "size", "()I"⟩ : MethodName)) (z := (⟨"com/example/backchannel/backchannel/server/ByteQueue", "size", "()I"⟩ : MethodName)) hown (mvT hZ (own_w hw 25 rfl)) (mvT hZ (own_w hw 26 rfl)) (notFace_of_selects (args := #[]) (mvT hZ (own_w hw 28 rfl))) (mvT hZ (own_w hw 28 rfl)) (mvT hZ (own_w hw 27 rfl)) (by decide) (backOf (W := 1) (own_rm5 l Z a0 hw [] b9 (((0 : Int32) - (0 : Int32)) + (3 : Int32)) (0 : Int32) h0 n0 Z0 P0 P1) hZ (own_w hw 29 rfl) (own_w hw 3 rfl) (by decide) (by decide)) q1a q1c (g := (mkF m 6 #[.val (.ref b9), .val (.int (3 : Int32))] [(.ref b9), (.int (3 : Int32))])) rfl (by rw [hml]; rfl) (Steps.refl _) (argsL := []) (rest := [(.int (3 : Int32))]) (lenOf own_pd1 rfl) rfl (by show 2 * 0 + _ ≤ _; exact Nat.le_of_eq rfl) (hb hby own_d7_6) (fun _ _ => ⟨rfl, e0, (by decide : 0 + 0 ≤ _), (by decide : 0 + 0 ≤ _)⟩)
  dsimp only [Pt.U, Pt.locs, Pt.cells, Pt.slots] at X1 l1 y1 z1 st1 hQ1
  subst l1 y1 z1
  obtain ⟨N1q, e1, hL1⟩ := hQ1
  have N1 := Fr.app N0 N1q
  rcases hL1 with ⟨rfl, -⟩
  · skip
    refine own_st (fun t k => st1.trans k) ?_
    show own_Go _ _ _ _ T1 (mkF m 9 #[.val (.ref b9), .val (.int (3 : Int32))] [(.int ((((0 : Int32) - (0 : Int32)) + (3 : Int32)) - (0 : Int32))), (.int (3 : Int32))])
    refine own_st (fun t k => XS.icmpYes X1.here hx rfl (pc0 := 9) (pc' := 21) rfl (hb hby own_d7_9) rfl (flt (by decide : ¬ (((((0 : Int32) - (0 : Int32)) + (3 : Int32)) - (0 : Int32)) < (3 : Int32)))).2.2.2 (by decide) (by decide) k) ?_
    show own_Go _ _ _ _ T1 (mkF m 21 #[.val (.ref b9), .val (.int (3 : Int32))] [])
    refine own_st (fun t k => XS.aloadN X1.here hx rfl (hb hby own_d7_21) rfl rfl k) ?_
    show own_Go _ _ _ _ T1 (mkF m 22 #[.val (.ref b9), .val (.int (3 : Int32))] [(.ref b9)])
    refine own_st (fun t k => XS.dup X1.here hx rfl (hb hby own_d7_22) rfl rfl k) ?_
    show own_Go _ _ _ _ T1 (mkF m 23 #[.val (.ref b9), .val (.int (3 : Int32))] [(.ref b9), (.ref b9)])
    obtain ⟨T2, X2, e2, st2⟩ := getF X1 hx hZ hown (host := "") (Or.inl (own_w hw 30 rfl)) Via.refl e1 P1 (g := (mkF m 23 #[.val (.ref b9), .val (.int (3 : Int32))] [(.ref b9), (.ref b9)])) rfl rfl (hb hby own_d7_23)
    refine own_st st2 ?_
    show own_Go _ _ _ _ T2 (mkF m 26 #[.val (.ref b9), .val (.int (3 : Int32))] [(.int (0 : Int32)), (.ref b9)])
    refine own_st (fun t k => XS.iloadN X2.here hx rfl (hb hby own_d7_26) rfl k) ?_
    show own_Go _ _ _ _ T2 (mkF m 27 #[.val (.ref b9), .val (.int (3 : Int32))] [(.int (3 : Int32)), (.int (0 : Int32)), (.ref b9)])
    refine own_st (fun t k => XS.iadd X2.here hx rfl (hb hby own_d7_27) rfl k) ?_
    show own_Go _ _ _ _ T2 (mkF m 28 #[.val (.ref b9), .val (.int (3 : Int32))] [(.int ((0 : Int32) + (3 : Int32))), (.ref b9)])
    obtain ⟨T3, h3, X3, e3, W3, st3⟩ := putF X2 hx hZ hown (host := "") (Or.inl (own_w hw 30 rfl)) Via.refl e2 P1 P2 (Or.inl (own_w hw 31 rfl)) (own_w hw 2 rfl) (ty := .int) (by decide) rfl rfl (g := (mkF m 28 #[.val (.ref b9), .val (.int (3 : Int32))] [(.int ((0 : Int32) + (3 : Int32))), (.ref b9)])) rfl rfl (hb hby own_d7_28)
    refine own_st st3 ?_
    have K3 : Keep h0 h3 [b9] := (Keep.refl h0 [b9]).wr W3 (Or.inl (List.mem_of_getElem? (i := 0) rfl))
    have Z3 := Nat.le_trans Z0 (Keep.of_wr W3).1
    have N3 := Fr.snoc X3 N1 g_b9
    have F3 := P1.same W3
    show own_Go _ _ _ _ T3 (mkF m 31 #[.val (.ref b9), .val (.int (3 : Int32))] [])
    refine own_st (fun t k => XS.aloadN X3.here hx rfl (hb hby own_d7_31) rfl rfl k) ?_
    show own_Go _ _ _ _ T3 (mkF m 32 #[.val (.ref b9), .val (.int (3 : Int32))] [(.ref b9)])
    obtain ⟨T4, X4, e4, st4⟩ := getF X3 hx hZ hown (host := "") (Or.inl (own_w hw 30 rfl)) Via.refl e3 F3 (g := (mkF m 32 #[.val (.ref b9), .val (.int (3 : Int32))] [(.ref b9)])) rfl rfl (hb hby own_d7_32)
    refine own_st st4 ?_
    show own_Go _ _ _ _ T4 (mkF m 35 #[.val (.ref b9), .val (.int (3 : Int32))] [(.int ((0 : Int32) + (3 : Int32)))])
    refine own_st (fun t k => XS.aloadN X4.here hx rfl (hb hby own_d7_35) rfl rfl k) ?_
    show own_Go _ _ _ _ T4 (mkF m 36 #[.val (.ref b9), .val (.int (3 : Int32))] [(.ref b9), (.int ((0 : Int32) + (3 : Int32)))])
    have f5 := (P0.other W3 (Or.inr (slot_ne (Or.inl (own_w hw 24 rfl)) (Or.inl (own_w hw 31 rfl)) (by decide) (t := .int) (t' := .int) (by decide) (by decide))))
    obtain ⟨T6, X6, e6, st6⟩ := getF X4 hx hZ hown (host := "") (Or.inl (own_w hw 23 rfl)) Via.refl e4 f5 (g := (mkF m 36 #[.val (.ref b9), .val (.int (3 : Int32))] [(.ref b9), (.int ((0 : Int32) + (3 : Int32)))])) rfl rfl (hb hby own_d7_36)
    refine own_st st6 ?_
    show own_Go _ _ _ _ T6 (mkF m 39 #[.val (.ref b9), .val (.int (3 : Int32))] [(.int (((0 : Int32) - (0 : Int32)) + (3 : Int32))), (.int ((0 : Int32) + (3 : Int32)))])
    refine own_st (fun t k => XS.icmpNo X6.here hx rfl (hb hby own_d7_39) rfl (teq (by decide : ((0 : Int32) + (3 : Int32)) = (((0 : Int32) - (0 : Int32)) + (3 : Int32)))).2 k) ?_
    show own_Go _ _ _ _ T6 (mkF m 42 #[.val (.ref b9), .val (.int (3 : Int32))] [])
    refine own_st (fun t k => XS.aloadN X6.here hx rfl (hb hby own_d7_42) rfl rfl k) ?_
    show own_Go _ _ _ _ T6 (mkF m 43 #[.val (.ref b9), .val (.int (3 : Int32))] [(.ref b9)])
    have f7 := (P4.wr W3)
    have f8 := (P2.wr W3)
    have f9 := (P5.other W3 (Or.inr (slot_ne (Or.inl (own_w hw 13 rfl)) (Or.inl (own_w hw 31 rfl)) (by decide) (t := (.array .byte)) (t' := .int) (by decide) (by decide))))
    obtain ⟨cq10, kq10, q10a, q10b, q10c⟩ := isOf hZ e6 f8
    obtain ⟨_, _, ⟨T10, L10, k10, n10⟩, -, X10, ⟨Lc10, hQ10, l10, y10, z10⟩, st10⟩ := X6.virtualBack hx (y := (⟨"com/example/backchannel/backchannel/server/ByteQueue", "clear", "()V"⟩ : MethodName)) (z := (⟨"com/example/backchannel/backchannel/server/ByteQueue", "clear", "()V"⟩ : MethodName)) hown (mvT hZ (own_w hw 45 rfl)) (mvT hZ (own_w hw 46 rfl)) (notFace_of_selects (args := #[]) (mvT hZ (own_w hw 48 rfl))) (mvT hZ (own_w hw 48 rfl)) (mvT hZ (own_w hw 47 rfl)) (by decide) (backOf (W := 0) (own_rm8_34 l Z a0 hw [] b9 w_NONE b8x4_8c1c18 h3 n0 Z3 f7 f8 f9 g_b9 F3 f5) hZ (own_w hw 49 rfl) (own_w hw 3 rfl) (by decide) (by decide)) q10a q10c (g := (mkF m 43 #[.val (.ref b9), .val (.int (3 : Int32))] [(.ref b9)])) rfl (by rw [hml]; rfl) (Steps.refl _) (argsL := []) (rest := []) (lenOf own_pd0 rfl) rfl (by show 2 * 0 + _ ≤ _; exact Nat.le_of_eq rfl) (hb hby own_d7_43) (fun _ _ => ⟨rfl, e6, (by decide : 0 + 0 ≤ _), (by decide : 0 + 0 ≤ _)⟩)
    dsimp only [Pt.U, Pt.locs, Pt.cells, Pt.slots] at X10 l10 y10 z10 st10 hQ10
    subst l10 y10 z10
    obtain ⟨N10q, Kq10, hL10⟩ := hQ10
    have N10 := Fr.app N3 N10q
    have K10 : Keep h0 T10.heap [b9] := K3.trans Kq10 (allS (Or.inl (List.mem_of_getElem? (i := 0) rfl)) all0)
    have Z10 := Nat.le_trans Z3 Kq10.1
    rcases hL10 with ⟨rfl, Fc10_0_0, Fc10_0_1, Fc10_0_2, -⟩
    · skip
      refine own_st (fun t k => st10.trans k) ?_
      show own_Go _ _ _ _ T10 (mkF m 46 #[.val (.ref b9), .val (.int (3 : Int32))] [])
      exact own_retV X10 hx hlk hret (hb hby own_d7_46) (by decide) (by decide) rfl ⟨N10, K10, ⟨rfl, Fc10_0_2, Fc10_0_1, Fc10_0_0, trivial⟩⟩
def own_Q8_36 (Z : State) (b9 : Addr) (w_NONE : Addr) (h0 : Heap) (n0 : Nat) (v : Option Value) (h : Heap) (L : List Loc) : Prop := Fr n0 L ∧ Keep h0 h [b9] ∧ ((v = none ∧ Fld Z h b9 "com/example/backchannel/backchannel/server/ByteQueue" "bytes" "[B" (.ref w_NONE) ∧ Fld Z h b9 "com/example/backchannel/backchannel/server/ByteQueue" "start" "I" (.int (0 : Int32)) ∧ Fld Z h b9 "com/example/backchannel/backchannel/server/ByteQueue" "end" "I" (.int (0 : Int32)) ∧ True))
set_option maxRecDepth 65536 in
set_option maxHeartbeats 40000000 in
theorem own_rm8_36 (l : Launch) (Z : State) (a0 : Array Value) (hw : ∀ d ∈ tables_1, d.before a0 Z = true) (ws : List Jvm.Cond) (b9 : Addr) (w_NONE : Addr) (h0 : Heap) (n0 : Nat) (Z0 : n0 ≤ h0.size) (P0 : Sta Z h0 "com/example/backchannel/backchannel/server/ByteQueue" "NONE" "[B" (.ref w_NONE)) (P1 : Exa Z h0 b9 "com/example/backchannel/backchannel/server/ByteQueue") (P2 : Fld Z h0 b9 "com/example/backchannel/backchannel/server/ByteQueue" "bytes" "[B" (.ref w_NONE)) (g_b9 : n0 ≤ b9) (P4 : Fld Z h0 b9 "com/example/backchannel/backchannel/server/ByteQueue" "start" "I" (.int (0 : Int32))) (P5 : Fld Z h0 b9 "com/example/backchannel/backchannel/server/ByteQueue" "end" "I" (.int (0 : Int32))) :
    MetFree l (⟨"com/example/backchannel/backchannel/server/ByteQueue", "clear", "()V"⟩ : MethodName) (head1 (Jvm.Cond.code (⟨"com/example/backchannel/backchannel/server/ByteQueue", "clear", "()V"⟩ : MethodName) prog_47_method_11_code 1 none :: ws) ({ frames := 0, cells := 0, slots := 0, locals := 0 } : Room)) (fun a U => a = #[(.ref b9)] ∧ Z.Warmed39 U.vm ∧ U.heap = h0) (fun _ _ _ _ _ => True) (fun _ U o U' => ∃ v L, o = .returned v ∧ own_Q8_36 Z b9 w_NONE h0 n0 v U'.heap L ∧ FrameEnd U o U' L ({ frames := 0, cells := 0, slots := 0, locals := 0 } : Room).cells ({ frames := 0, cells := 0, slots := 0, locals := 0 } : Room).slots) := by
  refine MetFree.of_bodySF (plainFor_of_name own_pn0) hisR ?_
  intro p e s m args below meth c s₁ Bd hml0 hP hK
  obtain ⟨rfl, hZ, hh⟩ := hP
  have hx := Bd.exec
  have hlk := Bd.notSynchronized
  have hret := Bd.returns
  have hby := Bd.bytes
  have hml : c.maxLocals = 1 := hml0
  have hown : s.vm.findClass "com/example/backchannel/backchannel/server/ByteQueue" = some m.cls := findClass_of_methodNamed Bd.named
  have hnm := (name_of_methodNamed Bd.named Bd.method).1
  have X0 : Stand p l e ({ frames := 0, cells := 0, slots := 0, locals := 0 } : Room) s m #[(.ref b9)] below meth c s₁ [] 0 0 := Stand.of_body Bd
  have e0 : s₁.heap = h0 := by rw [← hh, Bd.state]; rfl
  have N0 := Fr.nil n0
  refine own_open (Q := own_Q8_36 Z b9 w_NONE h0 n0) (own_ef8 m b9) ?_
  show own_Go _ _ _ _ s₁ (mkF m 0 #[.val (.ref b9)] [])
  refine own_st (fun t k => XS.aloadN X0.here hx rfl (hb hby own_d8_0) rfl rfl k) ?_
  show own_Go _ _ _ _ s₁ (mkF m 1 #[.val (.ref b9)] [(.ref b9)])
  obtain ⟨T1, X1, e1, st1⟩ := getS2 X0 hx hZ hown (host := "") (Or.inl (own_w hw 10 rfl)) Via.refl e0 P0 (g := (mkF m 1 #[.val (.ref b9)] [(.ref b9)])) rfl (hb hby own_d8_1)
  refine own_st st1 ?_
  show own_Go _ _ _ _ T1 (mkF m 4 #[.val (.ref b9)] [(.ref w_NONE), (.ref b9)])
  obtain ⟨T2, h2, X2, e2, W2, st2⟩ := putF X1 hx hZ hown (host := "") (Or.inl (own_w hw 12 rfl)) Via.refl e1 P2 P1 (Or.inl (own_w hw 13 rfl)) (own_w hw 2 rfl) (ty := (.array .byte)) (by decide) rfl rfl (g := (mkF m 4 #[.val (.ref b9)] [(.ref w_NONE), (.ref b9)])) rfl rfl (hb hby own_d8_4)
  refine own_st st2 ?_
  have K2 : Keep h0 h2 [b9] := (Keep.refl h0 [b9]).wr W2 (Or.inl (List.mem_of_getElem? (i := 0) rfl))
  have Z2 := Nat.le_trans Z0 (Keep.of_wr W2).1
  have N2 := Fr.snoc X2 N0 g_b9
  have F2 := P2.same W2
  show own_Go _ _ _ _ T2 (mkF m 7 #[.val (.ref b9)] [])
  refine own_st (fun t k => XS.aloadN X2.here hx rfl (hb hby own_d8_7) rfl rfl k) ?_
  show own_Go _ _ _ _ T2 (mkF m 8 #[.val (.ref b9)] [(.ref b9)])
  refine own_st (fun t k => XS.iconst X2.here hx rfl (hb hby own_d8_8) k) ?_
  show own_Go _ _ _ _ T2 (mkF m 9 #[.val (.ref b9)] [(.int (0 : Int32)), (.ref b9)])
  have f3 := (P1.wr W2)
  have f4 := (P4.other W2 (Or.inr (slot_ne (Or.inl (own_w hw 31 rfl)) (Or.inl (own_w hw 13 rfl)) (by decide) (t := .int) (t' := (.array .byte)) (by decide) (by decide))))
  obtain ⟨T5, h5, X5, e5, W5, st5⟩ := putF X2 hx hZ hown (host := "") (Or.inl (own_w hw 30 rfl)) Via.refl e2 f4 f3 (Or.inl (own_w hw 31 rfl)) (own_w hw 2 rfl) (ty := .int) (by decide) rfl rfl (g := (mkF m 9 #[.val (.ref b9)] [(.int (0 : Int32)), (.ref b9)])) rfl rfl (hb hby own_d8_9)
  refine own_st st5 ?_
  have K5 : Keep h0 h5 [b9] := K2.wr W5 (Or.inl (List.mem_of_getElem? (i := 0) rfl))
  have Z5 := Nat.le_trans Z2 (Keep.of_wr W5).1
  have N5 := Fr.snoc X5 N2 g_b9
  have F5 := f4.same W5
  show own_Go _ _ _ _ T5 (mkF m 12 #[.val (.ref b9)] [])
  refine own_st (fun t k => XS.aloadN X5.here hx rfl (hb hby own_d8_12) rfl rfl k) ?_
  show own_Go _ _ _ _ T5 (mkF m 13 #[.val (.ref b9)] [(.ref b9)])
  refine own_st (fun t k => XS.iconst X5.here hx rfl (hb hby own_d8_13) k) ?_
  show own_Go _ _ _ _ T5 (mkF m 14 #[.val (.ref b9)] [(.int (0 : Int32)), (.ref b9)])
  have f6 := (f3.wr W5)
  have f7 := ((P5.other W2 (Or.inr (slot_ne (Or.inl (own_w hw 24 rfl)) (Or.inl (own_w hw 13 rfl)) (by decide) (t := .int) (t' := (.array .byte)) (by decide) (by decide)))).other W5 (Or.inr (slot_ne (Or.inl (own_w hw 24 rfl)) (Or.inl (own_w hw 31 rfl)) (by decide) (t := .int) (t' := .int) (by decide) (by decide))))
  obtain ⟨T8, h8, X8, e8, W8, st8⟩ := putF X5 hx hZ hown (host := "") (Or.inl (own_w hw 23 rfl)) Via.refl e5 f7 f6 (Or.inl (own_w hw 24 rfl)) (own_w hw 2 rfl) (ty := .int) (by decide) rfl rfl (g := (mkF m 14 #[.val (.ref b9)] [(.int (0 : Int32)), (.ref b9)])) rfl rfl (hb hby own_d8_14)
  refine own_st st8 ?_
  have K8 : Keep h0 h8 [b9] := K5.wr W8 (Or.inl (List.mem_of_getElem? (i := 0) rfl))
  have Z8 := Nat.le_trans Z5 (Keep.of_wr W8).1
  have N8 := Fr.snoc X8 N5 g_b9
  have F8 := f7.same W8
  show own_Go _ _ _ _ T8 (mkF m 17 #[.val (.ref b9)] [])
  have f9 := ((F2.other W5 (Or.inr (slot_ne (Or.inl (own_w hw 13 rfl)) (Or.inl (own_w hw 31 rfl)) (by decide) (t := (.array .byte)) (t' := .int) (by decide) (by decide)))).other W8 (Or.inr (slot_ne (Or.inl (own_w hw 13 rfl)) (Or.inl (own_w hw 24 rfl)) (by decide) (t := (.array .byte)) (t' := .int) (by decide) (by decide))))
  have f10 := (F5.other W8 (Or.inr (slot_ne (Or.inl (own_w hw 31 rfl)) (Or.inl (own_w hw 24 rfl)) (by decide) (t := .int) (t' := .int) (by decide) (by decide))))
  exact own_retV X8 hx hlk hret (hb hby own_d8_17) (by decide) (by decide) e8 ⟨N8, K8, ⟨rfl, f9, f10, F8, trivial⟩⟩
theorem own_d4_14 : decode prog_47_method_12_code 14 = .ok (.return_, 1) := by decide +kernel
def own_Q4_40 (Z : State) (b114 : Addr) (w_NONE : Addr) (k_w_NONE : ClassId) (h0 : Heap) (n0 : Nat) (v : Option Value) (h : Heap) (L : List Loc) : Prop := Fr n0 L ∧ Keep h0 h [] ∧ ((v = none ∧ True))
set_option maxRecDepth 65536 in
set_option maxHeartbeats 40000000 in
theorem own_rm4_40 (l : Launch) (Z : State) (a0 : Array Value) (hw : ∀ d ∈ tables_1, d.before a0 Z = true) (ws : List Jvm.Cond) (b114 : Addr) (w_NONE : Addr) (k_w_NONE : ClassId) (h0 : Heap) (n0 : Nat) (Z0 : n0 ≤ h0.size) (P0 : Fld Z h0 b114 "com/example/backchannel/backchannel/server/ByteQueue" "bytes" "[B" (.ref w_NONE)) (P1 : Arv Z h0 w_NONE k_w_NONE .byte (0 : Int32) [] (.int (0 : Int32))) (P2 : Fld Z h0 b114 "com/example/backchannel/backchannel/server/ByteQueue" "end" "I" (.int (0 : Int32))) :
    MetFree l (⟨"com/example/backchannel/backchannel/server/ByteQueue", "room", "(I)V"⟩ : MethodName) (head1 (Jvm.Cond.code (⟨"com/example/backchannel/backchannel/server/ByteQueue", "room", "(I)V"⟩ : MethodName) prog_47_method_12_code 6 none :: ws) ({ frames := 0, cells := 0, slots := 0, locals := 0 } : Room)) (fun a U => a = #[(.ref b114), (.int (0 : Int32))] ∧ Z.Warmed39 U.vm ∧ U.heap = h0) (fun _ _ _ _ _ => True) (fun _ U o U' => ∃ v L, o = .returned v ∧ own_Q4_40 Z b114 w_NONE k_w_NONE h0 n0 v U'.heap L ∧ FrameEnd U o U' L ({ frames := 0, cells := 0, slots := 0, locals := 0 } : Room).cells ({ frames := 0, cells := 0, slots := 0, locals := 0 } : Room).slots) := by
  refine MetFree.of_bodySF (plainFor_of_name own_pn0) hisR ?_
  intro p e s m args below meth c s₁ Bd hml0 hP hK
  obtain ⟨rfl, hZ, hh⟩ := hP
  have hx := Bd.exec
  have hlk := Bd.notSynchronized
  have hret := Bd.returns
  have hby := Bd.bytes
  have hml : c.maxLocals = 6 := hml0
  have hown : s.vm.findClass "com/example/backchannel/backchannel/server/ByteQueue" = some m.cls := findClass_of_methodNamed Bd.named
  have hnm := (name_of_methodNamed Bd.named Bd.method).1
  have X0 : Stand p l e ({ frames := 0, cells := 0, slots := 0, locals := 0 } : Room) s m #[(.ref b114), (.int (0 : Int32))] below meth c s₁ [] 0 0 := Stand.of_body Bd
  have e0 : s₁.heap = h0 := by rw [← hh, Bd.state]; rfl
  have N0 := Fr.nil n0
  refine own_open (Q := own_Q4_40 Z b114 w_NONE k_w_NONE h0 n0) (own_ef4 m b114 (0 : Int32)) ?_
  show own_Go _ _ _ _ s₁ (mkF m 0 #[.val (.ref b114), .val (.int (0 : Int32)), .unset, .unset, .unset, .unset] [])
  refine own_st (fun t k => XS.aloadN X0.here hx rfl (hb hby own_d4_0) rfl rfl k) ?_
  show own_Go _ _ _ _ s₁ (mkF m 1 #[.val (.ref b114), .val (.int (0 : Int32)), .unset, .unset, .unset, .unset] [(.ref b114)])
  obtain ⟨T1, X1, e1, st1⟩ := getF X0 hx hZ hown (host := "") (Or.inl (own_w hw 12 rfl)) Via.refl e0 P0 (g := (mkF m 1 #[.val (.ref b114), .val (.int (0 : Int32)), .unset, .unset, .unset, .unset] [(.ref b114)])) rfl rfl (hb hby own_d4_1)
  refine own_st st1 ?_
  show own_Go _ _ _ _ T1 (mkF m 4 #[.val (.ref b114), .val (.int (0 : Int32)), .unset, .unset, .unset, .unset] [(.ref w_NONE)])
  refine own_st (own_alen X1 hx hZ e1 P1 (g := (mkF m 4 #[.val (.ref b114), .val (.int (0 : Int32)), .unset, .unset, .unset, .unset] [(.ref w_NONE)])) rfl rfl (hb hby own_d4_4)) ?_
  show own_Go _ _ _ _ T1 (mkF m 5 #[.val (.ref b114), .val (.int (0 : Int32)), .unset, .unset, .unset, .unset] [(.int (0 : Int32))])
  refine own_st (fun t k => XS.aloadN X1.here hx rfl (hb hby own_d4_5) rfl rfl k) ?_
  show own_Go _ _ _ _ T1 (mkF m 6 #[.val (.ref b114), .val (.int (0 : Int32)), .unset, .unset, .unset, .unset] [(.ref b114), (.int (0 : Int32))])
  obtain ⟨T2, X2, e2, st2⟩ := getF X1 hx hZ hown (host := "") (Or.inl (own_w hw 23 rfl)) Via.refl e1 P2 (g := (mkF m 6 #[.val (.ref b114), .val (.int (0 : Int32)), .unset, .unset, .unset, .unset] [(.ref b114), (.int (0 : Int32))])) rfl rfl (hb hby own_d4_6)
  refine own_st st2 ?_
  show own_Go _ _ _ _ T2 (mkF m 9 #[.val (.ref b114), .val (.int (0 : Int32)), .unset, .unset, .unset, .unset] [(.int (0 : Int32)), (.int (0 : Int32))])
  refine own_st (fun t k => XS.isub X2.here hx rfl (hb hby own_d4_9) rfl k) ?_
  show own_Go _ _ _ _ T2 (mkF m 10 #[.val (.ref b114), .val (.int (0 : Int32)), .unset, .unset, .unset, .unset] [(.int ((0 : Int32) - (0 : Int32)))])
  refine own_st (fun t k => XS.iloadN X2.here hx rfl (hb hby own_d4_10) rfl k) ?_
  show own_Go _ _ _ _ T2 (mkF m 11 #[.val (.ref b114), .val (.int (0 : Int32)), .unset, .unset, .unset, .unset] [(.int (0 : Int32)), (.int ((0 : Int32) - (0 : Int32)))])
  refine own_st (fun t k => XS.icmpNo X2.here hx rfl (hb hby own_d4_11) rfl (flt (by decide : ¬ (((0 : Int32) - (0 : Int32)) < (0 : Int32)))).1 k) ?_
  show own_Go _ _ _ _ T2 (mkF m 14 #[.val (.ref b114), .val (.int (0 : Int32)), .unset, .unset, .unset, .unset] [])
  exact own_retV X2 hx hlk hret (hb hby own_d4_14) (by decide) (by decide) e2 ⟨N0, (Keep.refl h0 []), ⟨rfl, trivial⟩⟩
def own_Q3_39 (Z : State) (b114 : Addr) (b110 : Addr) (k110 : ClassId) (w_NONE : Addr) (k_w_NONE : ClassId) (h0 : Heap) (n0 : Nat) (v : Option Value) (h : Heap) (L : List Loc) : Prop := Fr n0 L ∧ Keep h0 h [b114] ∧ ((v = none ∧ Fld Z h b114 "com/example/backchannel/backchannel/server/ByteQueue" "bytes" "[B" (.ref w_NONE) ∧ Fld Z h b114 "com/example/backchannel/backchannel/server/ByteQueue" "end" "I" (.int ((0 : Int32) + (0 : Int32))) ∧ Fld Z h b114 "com/example/backchannel/backchannel/server/ByteQueue" "start" "I" (.int (0 : Int32)) ∧ True))
set_option maxRecDepth 65536 in
set_option maxHeartbeats 40000000 in
theorem own_rm3_39 (l : Launch) (Z : State) (a0 : Array Value) (hw : ∀ d ∈ tables_1, d.before a0 Z = true) (ws : List Jvm.Cond) (b114 : Addr) (b110 : Addr) (k110 : ClassId) (w_NONE : Addr) (k_w_NONE : ClassId) (h0 : Heap) (n0 : Nat) (Z0 : n0 ≤ h0.size) (P0 : Arv Z h0 b110 k110 .byte (0 : Int32) [] (.int (0 : Int32))) (P1 : Fld Z h0 b114 "com/example/backchannel/backchannel/server/ByteQueue" "bytes" "[B" (.ref w_NONE)) (P2 : Arv Z h0 w_NONE k_w_NONE .byte (0 : Int32) [] (.int (0 : Int32))) (P3 : Fld Z h0 b114 "com/example/backchannel/backchannel/server/ByteQueue" "end" "I" (.int (0 : Int32))) (P4 : Exa Z h0 b114 "com/example/backchannel/backchannel/server/ByteQueue") (g_b114 : n0 ≤ b114) (P6 : Fld Z h0 b114 "com/example/backchannel/backchannel/server/ByteQueue" "start" "I" (.int (0 : Int32))) :
    MetFree l (⟨"com/example/backchannel/backchannel/server/ByteQueue", "append", "([B)V"⟩ : MethodName) (head1 (Jvm.Cond.code (⟨"com/example/backchannel/backchannel/server/ByteQueue", "append", "([B)V"⟩ : MethodName) prog_47_method_7_code 2 none :: ws) ({ frames := 1, cells := 0, slots := 0, locals := 18 } : Room)) (fun a U => a = #[(.ref b114), (.ref b110)] ∧ Z.Warmed39 U.vm ∧ U.heap = h0) (fun _ _ _ _ _ => True) (fun _ U o U' => ∃ v L, o = .returned v ∧ own_Q3_39 Z b114 b110 k110 w_NONE k_w_NONE h0 n0 v U'.heap L ∧ FrameEnd U o U' L ({ frames := 1, cells := 0, slots := 0, locals := 18 } : Room).cells ({ frames := 1, cells := 0, slots := 0, locals := 18 } : Room).slots) := by
  refine MetFree.of_bodySF (plainFor_of_name own_pn0) hisR ?_
  intro p e s m args below meth c s₁ Bd hml0 hP hK
  obtain ⟨rfl, hZ, hh⟩ := hP
  have hx := Bd.exec
  have hlk := Bd.notSynchronized
  have hret := Bd.returns
  have hby := Bd.bytes
  have hml : c.maxLocals = 2 := hml0
  have hown : s.vm.findClass "com/example/backchannel/backchannel/server/ByteQueue" = some m.cls := findClass_of_methodNamed Bd.named
  have hnm := (name_of_methodNamed Bd.named Bd.method).1
  have X0 : Stand p l e ({ frames := 1, cells := 0, slots := 0, locals := 18 } : Room) s m #[(.ref b114), (.ref b110)] below meth c s₁ [] 0 0 := Stand.of_body Bd
  have e0 : s₁.heap = h0 := by rw [← hh, Bd.state]; rfl
  have N0 := Fr.nil n0
  refine own_open (Q := own_Q3_39 Z b114 b110 k110 w_NONE k_w_NONE h0 n0) (own_ef3 m b114 b110) ?_
  show own_Go _ _ _ _ s₁ (mkF m 0 #[.val (.ref b114), .val (.ref b110)] [])
  refine own_st (fun t k => XS.aloadN X0.here hx rfl (hb hby own_d3_0) rfl rfl k) ?_
  show own_Go _ _ _ _ s₁ (mkF m 1 #[.val (.ref b114), .val (.ref b110)] [(.ref b114)])
  refine own_st (fun t k => XS.aloadN X0.here hx rfl (hb hby own_d3_1) rfl rfl k) ?_
  show own_Go _ _ _ _ s₁ (mkF m 2 #[.val (.ref b114), .val (.ref b110)] [(.ref b110), (.ref b114)])
  refine own_st (own_alen X0 hx hZ e0 P0 (g := (mkF m 2 #[.val (.ref b114), .val (.ref b110)] [(.ref b110), (.ref b114)])) rfl rfl (hb hby own_d3_2)) ?_
  show own_Go _ _ _ _ s₁ (mkF m 3 #[.val (.ref b114), .val (.ref b110)] [(.int (0 : Int32)), (.ref b114)])
  obtain ⟨cq1, q1, q1'⟩ := P4.cell
  obtain ⟨_, _, ⟨T1, L1, k1, n1⟩, -, X1, ⟨Lc1, hQ1, l1, y1, z1⟩, st1⟩ := X0.privateBack hx (y := (⟨"com/example/backchannel/backchannel/server/ByteQueue", "room", "(I)V"⟩ : MethodName)) hown (mvT hZ (own_w hw 19 rfl)) (mvT hZ (own_w hw 20 rfl)) (own_psel hZ (own_w hw 2 rfl) (own_w hw 21 rfl) (own_w hw 20 rfl) (by decide)) (Cond.privateMethod_at (mvP hZ (own_w hw 21 rfl) (args := #[]))) (mvT hZ (own_w hw 22 rfl)) (by decide) (backOf (W := 0) (own_rm4_40 l Z a0 hw [] b114 w_NONE k_w_NONE h0 n0 Z0 P1 P2 P3) hZ (own_w hw 22 rfl) (own_w hw 3 rfl) (by decide) (by decide)) (g := (mkF m 3 #[.val (.ref b114), .val (.ref b110)] [(.int (0 : Int32)), (.ref b114)])) rfl (by rw [hml]; rfl) (Steps.refl _) (a := b114) (by rw [e0]; exact q1) q1' (argsL := [(.int (0 : Int32))]) (rest := []) (lenOf own_pd3 rfl) rfl (by show 2 * 0 + _ ≤ _; exact Nat.le_of_eq rfl) (hb hby own_d3_3) (fun _ _ => ⟨rfl, e0, (by decide : 0 + 0 ≤ _), (by decide : 0 + 0 ≤ _)⟩)
  dsimp only [Pt.U, Pt.locs, Pt.cells, Pt.slots] at X1 l1 y1 z1 st1 hQ1
  subst l1 y1 z1
  obtain ⟨N1q, Kq1, hL1⟩ := hQ1
  have N1 := Fr.app N0 N1q
  have K1 : Keep h0 T1.heap [b114] := (Keep.refl h0 [b114]).trans Kq1 all0
  have Z1 := Nat.le_trans Z0 Kq1.1
  rcases hL1 with ⟨rfl, -⟩
  · skip
    refine own_st (fun t k => st1.trans k) ?_
    show own_Go _ _ _ _ T1 (mkF m 6 #[.val (.ref b114), .val (.ref b110)] [])
    refine own_st (fun t k => XS.aloadN X1.here hx rfl (hb hby own_d3_6) rfl rfl k) ?_
    show own_Go _ _ _ _ T1 (mkF m 7 #[.val (.ref b114), .val (.ref b110)] [(.ref b110)])
    refine own_st (fun t k => XS.iconst X1.here hx rfl (hb hby own_d3_7) k) ?_
    show own_Go _ _ _ _ T1 (mkF m 8 #[.val (.ref b114), .val (.ref b110)] [(.int (0 : Int32)), (.ref b110)])
    refine own_st (fun t k => XS.aloadN X1.here hx rfl (hb hby own_d3_8) rfl rfl k) ?_
    show own_Go _ _ _ _ T1 (mkF m 9 #[.val (.ref b114), .val (.ref b110)] [(.ref b114), (.int (0 : Int32)), (.ref b110)])
    have f2 := (P1.keep Kq1 nin0)
    obtain ⟨T3, X3, e3, st3⟩ := getF X1 hx hZ hown (host := "") (Or.inl (own_w hw 12 rfl)) Via.refl rfl f2 (g := (mkF m 9 #[.val (.ref b114), .val (.ref b110)] [(.ref b114), (.int (0 : Int32)), (.ref b110)])) rfl rfl (hb hby own_d3_9)
    refine own_st st3 ?_
    show own_Go _ _ _ _ T3 (mkF m 12 #[.val (.ref b114), .val (.ref b110)] [(.ref w_NONE), (.int (0 : Int32)), (.ref b110)])
    refine own_st (fun t k => XS.aloadN X3.here hx rfl (hb hby own_d3_12) rfl rfl k) ?_
    show own_Go _ _ _ _ T3 (mkF m 13 #[.val (.ref b114), .val (.ref b110)] [(.ref b114), (.ref w_NONE), (.int (0 : Int32)), (.ref b110)])
    have f4 := (P3.keep Kq1 nin0)
    obtain ⟨T5, X5, e5, st5⟩ := getF X3 hx hZ hown (host := "") (Or.inl (own_w hw 23 rfl)) Via.refl e3 f4 (g := (mkF m 13 #[.val (.ref b114), .val (.ref b110)] [(.ref b114), (.ref w_NONE), (.int (0 : Int32)), (.ref b110)])) rfl rfl (hb hby own_d3_13)
    refine own_st st5 ?_
    show own_Go _ _ _ _ T5 (mkF m 16 #[.val (.ref b114), .val (.ref b110)] [(.int (0 : Int32)), (.ref w_NONE), (.int (0 : Int32)), (.ref b110)])
    refine own_st (fun t k => XS.aloadN X5.here hx rfl (hb hby own_d3_16) rfl rfl k) ?_
    show own_Go _ _ _ _ T5 (mkF m 17 #[.val (.ref b114), .val (.ref b110)] [(.ref b110), (.int (0 : Int32)), (.ref w_NONE), (.int (0 : Int32)), (.ref b110)])
    have f6 := (P0.keep Kq1 nin0)
    refine own_st (own_alen X5 hx hZ e5 f6 (g := (mkF m 17 #[.val (.ref b114), .val (.ref b110)] [(.ref b110), (.int (0 : Int32)), (.ref w_NONE), (.int (0 : Int32)), (.ref b110)])) rfl rfl (hb hby own_d3_17)) ?_
    show own_Go _ _ _ _ T5 (mkF m 18 #[.val (.ref b114), .val (.ref b110)] [(.int (0 : Int32)), (.int (0 : Int32)), (.ref w_NONE), (.int (0 : Int32)), (.ref b110)])
    have f8 := (P2.keep Kq1 nin0)
    obtain ⟨T7, X7, e7, st7⟩ := own_cp0 X5 hx hZ hown (own_w hw 36 rfl) (own_w hw 39 rfl) (own_w hw 37 rfl) (own_w hw 38 rfl) e5 f6 f8 (sp := (0 : Int32)) (dp := (0 : Int32)) (nn := (0 : Int32)) rfl (Or.inl ⟨rfl, rfl⟩) (by decide) (by decide) (by decide) (by decide) (g := (mkF m 18 #[.val (.ref b114), .val (.ref b110)] [(.int (0 : Int32)), (.int (0 : Int32)), (.ref w_NONE), (.int (0 : Int32)), (.ref b110)])) rfl (by rw [hml]; rfl) rfl (hb hby own_d3_18) (by decide) (W := 0) (by show 2 * 0 + _ ≤ _; exact Nat.le_of_eq rfl) (by decide)
    refine own_st st7 ?_
    show own_Go _ _ _ _ T7 (mkF m 21 #[.val (.ref b114), .val (.ref b110)] [])
    refine own_st (fun t k => XS.aloadN X7.here hx rfl (hb hby own_d3_21) rfl rfl k) ?_
    show own_Go _ _ _ _ T7 (mkF m 22 #[.val (.ref b114), .val (.ref b110)] [(.ref b114)])
    refine own_st (fun t k => XS.dup X7.here hx rfl (hb hby own_d3_22) rfl rfl k) ?_
    show own_Go _ _ _ _ T7 (mkF m 23 #[.val (.ref b114), .val (.ref b110)] [(.ref b114), (.ref b114)])
    obtain ⟨T9, X9, e9, st9⟩ := getF X7 hx hZ hown (host := "") (Or.inl (own_w hw 23 rfl)) Via.refl e7 f4 (g := (mkF m 23 #[.val (.ref b114), .val (.ref b110)] [(.ref b114), (.ref b114)])) rfl rfl (hb hby own_d3_23)
    refine own_st st9 ?_
    show own_Go _ _ _ _ T9 (mkF m 26 #[.val (.ref b114), .val (.ref b110)] [(.int (0 : Int32)), (.ref b114)])
    refine own_st (fun t k => XS.aloadN X9.here hx rfl (hb hby own_d3_26) rfl rfl k) ?_
    show own_Go _ _ _ _ T9 (mkF m 27 #[.val (.ref b114), .val (.ref b110)] [(.ref b110), (.int (0 : Int32)), (.ref b114)])
    refine own_st (own_alen X9 hx hZ e9 f6 (g := (mkF m 27 #[.val (.ref b114), .val (.ref b110)] [(.ref b110), (.int (0 : Int32)), (.ref b114)])) rfl rfl (hb hby own_d3_27)) ?_
    show own_Go _ _ _ _ T9 (mkF m 28 #[.val (.ref b114), .val (.ref b110)] [(.int (0 : Int32)), (.int (0 : Int32)), (.ref b114)])
    refine own_st (fun t k => XS.iadd X9.here hx rfl (hb hby own_d3_28) rfl k) ?_
    show own_Go _ _ _ _ T9 (mkF m 29 #[.val (.ref b114), .val (.ref b110)] [(.int ((0 : Int32) + (0 : Int32))), (.ref b114)])
    have f10 := (P4.keep Kq1)
    obtain ⟨T11, h11, X11, e11, W11, st11⟩ := putF X9 hx hZ hown (host := "") (Or.inl (own_w hw 23 rfl)) Via.refl e9 f4 f10 (Or.inl (own_w hw 24 rfl)) (own_w hw 2 rfl) (ty := .int) (by decide) rfl rfl (g := (mkF m 29 #[.val (.ref b114), .val (.ref b110)] [(.int ((0 : Int32) + (0 : Int32))), (.ref b114)])) rfl rfl (hb hby own_d3_29)
    refine own_st st11 ?_
    have K11 : Keep h0 h11 [b114] := K1.wr W11 (Or.inl (List.mem_of_getElem? (i := 0) rfl))
    have Z11 := Nat.le_trans Z1 (Keep.of_wr W11).1
    have N11 := Fr.snoc X11 N1 g_b114
    have F11 := f4.same W11
    show own_Go _ _ _ _ T11 (mkF m 32 #[.val (.ref b114), .val (.ref b110)] [])
    have f12 := (f2.other W11 (Or.inr (slot_ne (Or.inl (own_w hw 13 rfl)) (Or.inl (own_w hw 24 rfl)) (by decide) (t := (.array .byte)) (t' := .int) (by decide) (by decide))))
    have f13 := ((P6.keep Kq1 nin0).other W11 (Or.inr (slot_ne (Or.inl (own_w hw 31 rfl)) (Or.inl (own_w hw 24 rfl)) (by decide) (t := .int) (t' := .int) (by decide) (by decide))))
    exact own_retV X11 hx hlk hret (hb hby own_d3_32) (by decide) (by decide) e11 ⟨N11, K11, ⟨rfl, f12, F11, f13, trivial⟩⟩
theorem own_rem1 (x : Int32) : (x &&& (3 : Int32)) % ((0 : Int32) + (1 : Int32)) = (0 : Int32) := by
  have e1 : (x &&& (3 : Int32)).toInt = x.toInt % 2 ^ 2 := Jvm.Kit.i32_mask x 3 (k := 2) (by decide) (by decide)
  have e2 : ((x &&& (3 : Int32)) % ((0 : Int32) + (1 : Int32))).toInt = (x &&& (3 : Int32)).toInt % ((0 : Int32) + (1 : Int32)).toInt := Jvm.Kit.i32_rem_nonneg (by omega)
  have e3 : ((0 : Int32) + (1 : Int32)).toInt = 1 := rfl
  rw [e3] at e2
  have z0 : (0 : Int32).toInt = 0 := rfl
  simp only [← Int32.toInt_inj]
  omega
def own_Q8_46 (Z : State) (b114 : Addr) (w_NONE : Addr) (h0 : Heap) (n0 : Nat) (v : Option Value) (h : Heap) (L : List Loc) : Prop := Fr n0 L ∧ Keep h0 h [b114] ∧ ((v = none ∧ Fld Z h b114 "com/example/backchannel/backchannel/server/ByteQueue" "bytes" "[B" (.ref w_NONE) ∧ Fld Z h b114 "com/example/backchannel/backchannel/server/ByteQueue" "start" "I" (.int (0 : Int32)) ∧ Fld Z h b114 "com/example/backchannel/backchannel/server/ByteQueue" "end" "I" (.int (0 : Int32)) ∧ True))
set_option maxRecDepth 65536 in
set_option maxHeartbeats 40000000 in
theorem own_rm8_46 (l : Launch) (Z : State) (a0 : Array Value) (hw : ∀ d ∈ tables_1, d.before a0 Z = true) (ws : List Jvm.Cond) (b114 : Addr) (w_NONE : Addr) (h0 : Heap) (n0 : Nat) (Z0 : n0 ≤ h0.size) (P0 : Sta Z h0 "com/example/backchannel/backchannel/server/ByteQueue" "NONE" "[B" (.ref w_NONE)) (P1 : Exa Z h0 b114 "com/example/backchannel/backchannel/server/ByteQueue") (P2 : Fld Z h0 b114 "com/example/backchannel/backchannel/server/ByteQueue" "bytes" "[B" (.ref w_NONE)) (g_b114 : n0 ≤ b114) (P4 : Fld Z h0 b114 "com/example/backchannel/backchannel/server/ByteQueue" "start" "I" (.int ((0 : Int32) + (0 : Int32)))) (P5 : Fld Z h0 b114 "com/example/backchannel/backchannel/server/ByteQueue" "end" "I" (.int ((0 : Int32) + (0 : Int32)))) :
    MetFree l (⟨"com/example/backchannel/backchannel/server/ByteQueue", "clear", "()V"⟩ : MethodName) (head1 (Jvm.Cond.code (⟨"com/example/backchannel/backchannel/server/ByteQueue", "clear", "()V"⟩ : MethodName) prog_47_method_11_code 1 none :: ws) ({ frames := 0, cells := 0, slots := 0, locals := 0 } : Room)) (fun a U => a = #[(.ref b114)] ∧ Z.Warmed39 U.vm ∧ U.heap = h0) (fun _ _ _ _ _ => True) (fun _ U o U' => ∃ v L, o = .returned v ∧ own_Q8_46 Z b114 w_NONE h0 n0 v U'.heap L ∧ FrameEnd U o U' L ({ frames := 0, cells := 0, slots := 0, locals := 0 } : Room).cells ({ frames := 0, cells := 0, slots := 0, locals := 0 } : Room).slots) := by
  refine MetFree.of_bodySF (plainFor_of_name own_pn0) hisR ?_
  intro p e s m args below meth c s₁ Bd hml0 hP hK
  obtain ⟨rfl, hZ, hh⟩ := hP
  have hx := Bd.exec
  have hlk := Bd.notSynchronized
  have hret := Bd.returns
  have hby := Bd.bytes
  have hml : c.maxLocals = 1 := hml0
  have hown : s.vm.findClass "com/example/backchannel/backchannel/server/ByteQueue" = some m.cls := findClass_of_methodNamed Bd.named
  have hnm := (name_of_methodNamed Bd.named Bd.method).1
  have X0 : Stand p l e ({ frames := 0, cells := 0, slots := 0, locals := 0 } : Room) s m #[(.ref b114)] below meth c s₁ [] 0 0 := Stand.of_body Bd
  have e0 : s₁.heap = h0 := by rw [← hh, Bd.state]; rfl
  have N0 := Fr.nil n0
  refine own_open (Q := own_Q8_46 Z b114 w_NONE h0 n0) (own_ef8 m b114) ?_
  show own_Go _ _ _ _ s₁ (mkF m 0 #[.val (.ref b114)] [])
  refine own_st (fun t k => XS.aloadN X0.here hx rfl (hb hby own_d8_0) rfl rfl k) ?_
  show own_Go _ _ _ _ s₁ (mkF m 1 #[.val (.ref b114)] [(.ref b114)])
  obtain ⟨T1, X1, e1, st1⟩ := getS2 X0 hx hZ hown (host := "") (Or.inl (own_w hw 10 rfl)) Via.refl e0 P0 (g := (mkF m 1 #[.val (.ref b114)] [(.ref b114)])) rfl (hb hby own_d8_1)
  refine own_st st1 ?_
  show own_Go _ _ _ _ T1 (mkF m 4 #[.val (.ref b114)] [(.ref w_NONE), (.ref b114)])
  obtain ⟨T2, h2, X2, e2, W2, st2⟩ := putF X1 hx hZ hown (host := "") (Or.inl (own_w hw 12 rfl)) Via.refl e1 P2 P1 (Or.inl (own_w hw 13 rfl)) (own_w hw 2 rfl) (ty := (.array .byte)) (by decide) rfl rfl (g := (mkF m 4 #[.val (.ref b114)] [(.ref w_NONE), (.ref b114)])) rfl rfl (hb hby own_d8_4)
  refine own_st st2 ?_
  have K2 : Keep h0 h2 [b114] := (Keep.refl h0 [b114]).wr W2 (Or.inl (List.mem_of_getElem? (i := 0) rfl))
  have Z2 := Nat.le_trans Z0 (Keep.of_wr W2).1
  have N2 := Fr.snoc X2 N0 g_b114
  have F2 := P2.same W2
  show own_Go _ _ _ _ T2 (mkF m 7 #[.val (.ref b114)] [])
  refine own_st (fun t k => XS.aloadN X2.here hx rfl (hb hby own_d8_7) rfl rfl k) ?_
  show own_Go _ _ _ _ T2 (mkF m 8 #[.val (.ref b114)] [(.ref b114)])
  refine own_st (fun t k => XS.iconst X2.here hx rfl (hb hby own_d8_8) k) ?_
  show own_Go _ _ _ _ T2 (mkF m 9 #[.val (.ref b114)] [(.int (0 : Int32)), (.ref b114)])
  have f3 := (P1.wr W2)
  have f4 := (P4.other W2 (Or.inr (slot_ne (Or.inl (own_w hw 31 rfl)) (Or.inl (own_w hw 13 rfl)) (by decide) (t := .int) (t' := (.array .byte)) (by decide) (by decide))))
  obtain ⟨T5, h5, X5, e5, W5, st5⟩ := putF X2 hx hZ hown (host := "") (Or.inl (own_w hw 30 rfl)) Via.refl e2 f4 f3 (Or.inl (own_w hw 31 rfl)) (own_w hw 2 rfl) (ty := .int) (by decide) rfl rfl (g := (mkF m 9 #[.val (.ref b114)] [(.int (0 : Int32)), (.ref b114)])) rfl rfl (hb hby own_d8_9)
  refine own_st st5 ?_
  have K5 : Keep h0 h5 [b114] := K2.wr W5 (Or.inl (List.mem_of_getElem? (i := 0) rfl))
  have Z5 := Nat.le_trans Z2 (Keep.of_wr W5).1
  have N5 := Fr.snoc X5 N2 g_b114
  have F5 := f4.same W5
  show own_Go _ _ _ _ T5 (mkF m 12 #[.val (.ref b114)] [])
  refine own_st (fun t k => XS.aloadN X5.here hx rfl (hb hby own_d8_12) rfl rfl k) ?_
  show own_Go _ _ _ _ T5 (mkF m 13 #[.val (.ref b114)] [(.ref b114)])
  refine own_st (fun t k => XS.iconst X5.here hx rfl (hb hby own_d8_13) k) ?_
  show own_Go _ _ _ _ T5 (mkF m 14 #[.val (.ref b114)] [(.int (0 : Int32)), (.ref b114)])
  have f6 := (f3.wr W5)
  have f7 := ((P5.other W2 (Or.inr (slot_ne (Or.inl (own_w hw 24 rfl)) (Or.inl (own_w hw 13 rfl)) (by decide) (t := .int) (t' := (.array .byte)) (by decide) (by decide)))).other W5 (Or.inr (slot_ne (Or.inl (own_w hw 24 rfl)) (Or.inl (own_w hw 31 rfl)) (by decide) (t := .int) (t' := .int) (by decide) (by decide))))
  obtain ⟨T8, h8, X8, e8, W8, st8⟩ := putF X5 hx hZ hown (host := "") (Or.inl (own_w hw 23 rfl)) Via.refl e5 f7 f6 (Or.inl (own_w hw 24 rfl)) (own_w hw 2 rfl) (ty := .int) (by decide) rfl rfl (g := (mkF m 14 #[.val (.ref b114)] [(.int (0 : Int32)), (.ref b114)])) rfl rfl (hb hby own_d8_14)
  refine own_st st8 ?_
  have K8 : Keep h0 h8 [b114] := K5.wr W8 (Or.inl (List.mem_of_getElem? (i := 0) rfl))
  have Z8 := Nat.le_trans Z5 (Keep.of_wr W8).1
  have N8 := Fr.snoc X8 N5 g_b114
  have F8 := f7.same W8
  show own_Go _ _ _ _ T8 (mkF m 17 #[.val (.ref b114)] [])
  have f9 := ((F2.other W5 (Or.inr (slot_ne (Or.inl (own_w hw 13 rfl)) (Or.inl (own_w hw 31 rfl)) (by decide) (t := (.array .byte)) (t' := .int) (by decide) (by decide)))).other W8 (Or.inr (slot_ne (Or.inl (own_w hw 13 rfl)) (Or.inl (own_w hw 24 rfl)) (by decide) (t := (.array .byte)) (t' := .int) (by decide) (by decide))))
  have f10 := (F5.other W8 (Or.inr (slot_ne (Or.inl (own_w hw 31 rfl)) (Or.inl (own_w hw 24 rfl)) (by decide) (t := .int) (t' := .int) (by decide) (by decide))))
  exact own_retV X8 hx hlk hret (hb hby own_d8_17) (by decide) (by decide) e8 ⟨N8, K8, ⟨rfl, f9, f10, F8, trivial⟩⟩
def own_Q7_44 (Z : State) (b114 : Addr) (w_NONE : Addr) (h0 : Heap) (n0 : Nat) (v : Option Value) (h : Heap) (L : List Loc) : Prop := Fr n0 L ∧ Keep h0 h [b114] ∧ ((v = none ∧ Fld Z h b114 "com/example/backchannel/backchannel/server/ByteQueue" "end" "I" (.int (0 : Int32)) ∧ Fld Z h b114 "com/example/backchannel/backchannel/server/ByteQueue" "start" "I" (.int (0 : Int32)) ∧ Fld Z h b114 "com/example/backchannel/backchannel/server/ByteQueue" "bytes" "[B" (.ref w_NONE) ∧ True))
set_option maxRecDepth 65536 in
set_option maxHeartbeats 40000000 in
theorem own_rm7_44 (l : Launch) (Z : State) (a0 : Array Value) (hw : ∀ d ∈ tables_1, d.before a0 Z = true) (ws : List Jvm.Cond) (b114 : Addr) (w_NONE : Addr) (h0 : Heap) (n0 : Nat) (Z0 : n0 ≤ h0.size) (P0 : Fld Z h0 b114 "com/example/backchannel/backchannel/server/ByteQueue" "end" "I" (.int ((0 : Int32) + (0 : Int32)))) (P1 : Fld Z h0 b114 "com/example/backchannel/backchannel/server/ByteQueue" "start" "I" (.int (0 : Int32))) (P2 : Exa Z h0 b114 "com/example/backchannel/backchannel/server/ByteQueue") (g_b114 : n0 ≤ b114) (P4 : Sta Z h0 "com/example/backchannel/backchannel/server/ByteQueue" "NONE" "[B" (.ref w_NONE)) (P5 : Fld Z h0 b114 "com/example/backchannel/backchannel/server/ByteQueue" "bytes" "[B" (.ref w_NONE)) :
    MetFree l (⟨"com/example/backchannel/backchannel/server/ByteQueue", "remove", "(I)V"⟩ : MethodName) (head1 (Jvm.Cond.code (⟨"com/example/backchannel/backchannel/server/ByteQueue", "remove", "(I)V"⟩ : MethodName) prog_47_method_9_code 2 none :: ws) ({ frames := 1, cells := 0, slots := 0, locals := 13 } : Room)) (fun a U => a = #[(.ref b114), (.int (0 : Int32))] ∧ Z.Warmed39 U.vm ∧ U.heap = h0) (fun _ _ _ _ _ => True) (fun _ U o U' => ∃ v L, o = .returned v ∧ own_Q7_44 Z b114 w_NONE h0 n0 v U'.heap L ∧ FrameEnd U o U' L ({ frames := 1, cells := 0, slots := 0, locals := 13 } : Room).cells ({ frames := 1, cells := 0, slots := 0, locals := 13 } : Room).slots) := by
  refine MetFree.of_bodySF (plainFor_of_name own_pn0) hisR ?_
  intro p e s m args below meth c s₁ Bd hml0 hP hK
  obtain ⟨rfl, hZ, hh⟩ := hP
  have hx := Bd.exec
  have hlk := Bd.notSynchronized
  have hret := Bd.returns
  have hby := Bd.bytes
  have hml : c.maxLocals = 2 := hml0
  have hown : s.vm.findClass "com/example/backchannel/backchannel/server/ByteQueue" = some m.cls := findClass_of_methodNamed Bd.named
  have hnm := (name_of_methodNamed Bd.named Bd.method).1
  have X0 : Stand p l e ({ frames := 1, cells := 0, slots := 0, locals := 13 } : Room) s m #[(.ref b114), (.int (0 : Int32))] below meth c s₁ [] 0 0 := Stand.of_body Bd
  have e0 : s₁.heap = h0 := by rw [← hh, Bd.state]; rfl
  have N0 := Fr.nil n0
  refine own_open (Q := own_Q7_44 Z b114 w_NONE h0 n0) (own_ef7 m b114 (0 : Int32)) ?_
  show own_Go _ _ _ _ s₁ (mkF m 0 #[.val (.ref b114), .val (.int (0 : Int32))] [])
  refine own_st (fun t k => XS.iloadN X0.here hx rfl (hb hby own_d7_0) rfl k) ?_
  show own_Go _ _ _ _ s₁ (mkF m 1 #[.val (.ref b114), .val (.int (0 : Int32))] [(.int (0 : Int32))])
  refine own_st (fun t k => XS.ifNo X0.here hx rfl (hb hby own_d7_1) rfl ((if0 _ _).trans (flt (by decide : ¬ ((0 : Int32) < (0 : Int32)))).1) k) ?_
  show own_Go _ _ _ _ s₁ (mkF m 4 #[.val (.ref b114), .val (.int (0 : Int32))] [])
  refine own_st (fun t k => XS.iloadN X0.here hx rfl (hb hby own_d7_4) rfl k) ?_
  show own_Go _ _ _ _ s₁ (mkF m 5 #[.val (.ref b114), .val (.int (0 : Int32))] [(.int (0 : Int32))])
  refine own_st (fun t k => XS.aloadN X0.here hx rfl (hb hby own_d7_5) rfl rfl k) ?_
  show own_Go _ _ _ _ s₁ (mkF m 6 #[.val (.ref b114), .val (.int (0 : Int32))] [(.ref b114), (.int (0 : Int32))])
  obtain ⟨cq1, kq1, q1a, q1b, q1c⟩ := isOf hZ e0 P2
  obtain ⟨_, _, ⟨T1, L1, k1, n1⟩, -, X1, ⟨Lc1, hQ1, l1, y1, z1⟩, st1⟩ := X0.virtualBack hx (y := (⟨"com/example/backchannel/backchannel/server/ByteQueue", "size", "()I"⟩ : MethodName)) (z := (⟨"com/example/backchannel/backchannel/server/ByteQueue", "size", "()I"⟩ : MethodName)) hown (mvT hZ (own_w hw 25 rfl)) (mvT hZ (own_w hw 26 rfl)) (notFace_of_selects (args := #[]) (mvT hZ (own_w hw 28 rfl))) (mvT hZ (own_w hw 28 rfl)) (mvT hZ (own_w hw 27 rfl)) (by decide) (backOf (W := 1) (own_rm5 l Z a0 hw [] b114 ((0 : Int32) + (0 : Int32)) (0 : Int32) h0 n0 Z0 P0 P1) hZ (own_w hw 29 rfl) (own_w hw 3 rfl) (by decide) (by decide)) q1a q1c (g := (mkF m 6 #[.val (.ref b114), .val (.int (0 : Int32))] [(.ref b114), (.int (0 : Int32))])) rfl (by rw [hml]; rfl) (Steps.refl _) (argsL := []) (rest := [(.int (0 : Int32))]) (lenOf own_pd1 rfl) rfl (by show 2 * 0 + _ ≤ _; exact Nat.le_of_eq rfl) (hb hby own_d7_6) (fun _ _ => ⟨rfl, e0, (by decide : 0 + 0 ≤ _), (by decide : 0 + 0 ≤ _)⟩)
  dsimp only [Pt.U, Pt.locs, Pt.cells, Pt.slots] at X1 l1 y1 z1 st1 hQ1
  subst l1 y1 z1
  obtain ⟨N1q, e1, hL1⟩ := hQ1
  have N1 := Fr.app N0 N1q
  rcases hL1 with ⟨rfl, -⟩
  · skip
    refine own_st (fun t k => st1.trans k) ?_
    show own_Go _ _ _ _ T1 (mkF m 9 #[.val (.ref b114), .val (.int (0 : Int32))] [(.int (((0 : Int32) + (0 : Int32)) - (0 : Int32))), (.int (0 : Int32))])
    refine own_st (fun t k => XS.icmpYes X1.here hx rfl (pc0 := 9) (pc' := 21) rfl (hb hby own_d7_9) rfl (flt (by decide : ¬ ((((0 : Int32) + (0 : Int32)) - (0 : Int32)) < (0 : Int32)))).2.2.2 (by decide) (by decide) k) ?_
    show own_Go _ _ _ _ T1 (mkF m 21 #[.val (.ref b114), .val (.int (0 : Int32))] [])
    refine own_st (fun t k => XS.aloadN X1.here hx rfl (hb hby own_d7_21) rfl rfl k) ?_
    show own_Go _ _ _ _ T1 (mkF m 22 #[.val (.ref b114), .val (.int (0 : Int32))] [(.ref b114)])
    refine own_st (fun t k => XS.dup X1.here hx rfl (hb hby own_d7_22) rfl rfl k) ?_
    show own_Go _ _ _ _ T1 (mkF m 23 #[.val (.ref b114), .val (.int (0 : Int32))] [(.ref b114), (.ref b114)])
    obtain ⟨T2, X2, e2, st2⟩ := getF X1 hx hZ hown (host := "") (Or.inl (own_w hw 30 rfl)) Via.refl e1 P1 (g := (mkF m 23 #[.val (.ref b114), .val (.int (0 : Int32))] [(.ref b114), (.ref b114)])) rfl rfl (hb hby own_d7_23)
    refine own_st st2 ?_
    show own_Go _ _ _ _ T2 (mkF m 26 #[.val (.ref b114), .val (.int (0 : Int32))] [(.int (0 : Int32)), (.ref b114)])
    refine own_st (fun t k => XS.iloadN X2.here hx rfl (hb hby own_d7_26) rfl k) ?_
    show own_Go _ _ _ _ T2 (mkF m 27 #[.val (.ref b114), .val (.int (0 : Int32))] [(.int (0 : Int32)), (.int (0 : Int32)), (.ref b114)])
    refine own_st (fun t k => XS.iadd X2.here hx rfl (hb hby own_d7_27) rfl k) ?_
    show own_Go _ _ _ _ T2 (mkF m 28 #[.val (.ref b114), .val (.int (0 : Int32))] [(.int ((0 : Int32) + (0 : Int32))), (.ref b114)])
    obtain ⟨T3, h3, X3, e3, W3, st3⟩ := putF X2 hx hZ hown (host := "") (Or.inl (own_w hw 30 rfl)) Via.refl e2 P1 P2 (Or.inl (own_w hw 31 rfl)) (own_w hw 2 rfl) (ty := .int) (by decide) rfl rfl (g := (mkF m 28 #[.val (.ref b114), .val (.int (0 : Int32))] [(.int ((0 : Int32) + (0 : Int32))), (.ref b114)])) rfl rfl (hb hby own_d7_28)
    refine own_st st3 ?_
    have K3 : Keep h0 h3 [b114] := (Keep.refl h0 [b114]).wr W3 (Or.inl (List.mem_of_getElem? (i := 0) rfl))
    have Z3 := Nat.le_trans Z0 (Keep.of_wr W3).1
    have N3 := Fr.snoc X3 N1 g_b114
    have F3 := P1.same W3
    show own_Go _ _ _ _ T3 (mkF m 31 #[.val (.ref b114), .val (.int (0 : Int32))] [])
    refine own_st (fun t k => XS.aloadN X3.here hx rfl (hb hby own_d7_31) rfl rfl k) ?_
    show own_Go _ _ _ _ T3 (mkF m 32 #[.val (.ref b114), .val (.int (0 : Int32))] [(.ref b114)])
    obtain ⟨T4, X4, e4, st4⟩ := getF X3 hx hZ hown (host := "") (Or.inl (own_w hw 30 rfl)) Via.refl e3 F3 (g := (mkF m 32 #[.val (.ref b114), .val (.int (0 : Int32))] [(.ref b114)])) rfl rfl (hb hby own_d7_32)
    refine own_st st4 ?_
    show own_Go _ _ _ _ T4 (mkF m 35 #[.val (.ref b114), .val (.int (0 : Int32))] [(.int ((0 : Int32) + (0 : Int32)))])
    refine own_st (fun t k => XS.aloadN X4.here hx rfl (hb hby own_d7_35) rfl rfl k) ?_
    show own_Go _ _ _ _ T4 (mkF m 36 #[.val (.ref b114), .val (.int (0 : Int32))] [(.ref b114), (.int ((0 : Int32) + (0 : Int32)))])
    have f5 := (P0.other W3 (Or.inr (slot_ne (Or.inl (own_w hw 24 rfl)) (Or.inl (own_w hw 31 rfl)) (by decide) (t := .int) (t' := .int) (by decide) (by decide))))
    obtain ⟨T6, X6, e6, st6⟩ := getF X4 hx hZ hown (host := "") (Or.inl (own_w hw 23 rfl)) Via.refl e4 f5 (g := (mkF m 36 #[.val (.ref b114), .val (.int (0 : Int32))] [(.ref b114), (.int ((0 : Int32) + (0 : Int32)))])) rfl rfl (hb hby own_d7_36)
    refine own_st st6 ?_
    show own_Go _ _ _ _ T6 (mkF m 39 #[.val (.ref b114), .val (.int (0 : Int32))] [(.int ((0 : Int32) + (0 : Int32))), (.int ((0 : Int32) + (0 : Int32)))])
    refine own_st (fun t k => XS.icmpNo X6.here hx rfl (hb hby own_d7_39) rfl (teq (by decide : ((0 : Int32) + (0 : Int32)) = ((0 : Int32) + (0 : Int32)))).2 k) ?_
    show own_Go _ _ _ _ T6 (mkF m 42 #[.val (.ref b114), .val (.int (0 : Int32))] [])
    refine own_st (fun t k => XS.aloadN X6.here hx rfl (hb hby own_d7_42) rfl rfl k) ?_
    show own_Go _ _ _ _ T6 (mkF m 43 #[.val (.ref b114), .val (.int (0 : Int32))] [(.ref b114)])
    have f7 := (P4.wr W3)
    have f8 := (P2.wr W3)
    have f9 := (P5.other W3 (Or.inr (slot_ne (Or.inl (own_w hw 13 rfl)) (Or.inl (own_w hw 31 rfl)) (by decide) (t := (.array .byte)) (t' := .int) (by decide) (by decide))))
    obtain ⟨cq10, kq10, q10a, q10b, q10c⟩ := isOf hZ e6 f8
    obtain ⟨_, _, ⟨T10, L10, k10, n10⟩, -, X10, ⟨Lc10, hQ10, l10, y10, z10⟩, st10⟩ := X6.virtualBack hx (y := (⟨"com/example/backchannel/backchannel/server/ByteQueue", "clear", "()V"⟩ : MethodName)) (z := (⟨"com/example/backchannel/backchannel/server/ByteQueue", "clear", "()V"⟩ : MethodName)) hown (mvT hZ (own_w hw 45 rfl)) (mvT hZ (own_w hw 46 rfl)) (notFace_of_selects (args := #[]) (mvT hZ (own_w hw 48 rfl))) (mvT hZ (own_w hw 48 rfl)) (mvT hZ (own_w hw 47 rfl)) (by decide) (backOf (W := 0) (own_rm8_46 l Z a0 hw [] b114 w_NONE h3 n0 Z3 f7 f8 f9 g_b114 F3 f5) hZ (own_w hw 49 rfl) (own_w hw 3 rfl) (by decide) (by decide)) q10a q10c (g := (mkF m 43 #[.val (.ref b114), .val (.int (0 : Int32))] [(.ref b114)])) rfl (by rw [hml]; rfl) (Steps.refl _) (argsL := []) (rest := []) (lenOf own_pd0 rfl) rfl (by show 2 * 0 + _ ≤ _; exact Nat.le_of_eq rfl) (hb hby own_d7_43) (fun _ _ => ⟨rfl, e6, (by decide : 0 + 0 ≤ _), (by decide : 0 + 0 ≤ _)⟩)
    dsimp only [Pt.U, Pt.locs, Pt.cells, Pt.slots] at X10 l10 y10 z10 st10 hQ10
    subst l10 y10 z10
    obtain ⟨N10q, Kq10, hL10⟩ := hQ10
    have N10 := Fr.app N3 N10q
    have K10 : Keep h0 T10.heap [b114] := K3.trans Kq10 (allS (Or.inl (List.mem_of_getElem? (i := 0) rfl)) all0)
    have Z10 := Nat.le_trans Z3 Kq10.1
    rcases hL10 with ⟨rfl, Fc10_0_0, Fc10_0_1, Fc10_0_2, -⟩
    · skip
      refine own_st (fun t k => st10.trans k) ?_
      show own_Go _ _ _ _ T10 (mkF m 46 #[.val (.ref b114), .val (.int (0 : Int32))] [])
      exact own_retV X10 hx hlk hret (hb hby own_d7_46) (by decide) (by decide) rfl ⟨N10, K10, ⟨rfl, Fc10_0_2, Fc10_0_1, Fc10_0_0, trivial⟩⟩
theorem own_ef0 (m : MethodId) (x0 : Int32) (x1 : Int32) (x2 : Int32) (x3 : Int32) : entryFrame m #[(.int x0), (.int x1), (.int x2), (.int x3)] maxLocals = mkF m 0 #[.val (.int x0), .val (.int x1), .val (.int x2), .val (.int x3), .unset, .unset, .unset, .unset, .unset, .unset] [] := by first | (simp [entryFrame, mkF, argsToLocals, Value.category, maxLocals]; done) | rfl
theorem own_pn1 : plainName "com/example/backchannel/backchannel/server/ByteQueueClearPinLaw" = true := by first | (simp [plainName, overriddenIn]; done) | decide +kernel
def own_Q0 (n0 : Nat) (v : Option Value) (h : Heap) (L : List Loc) : Prop := v = some (.int (1 : Int32)) ∧ Fr n0 L
set_option maxRecDepth 65536 in
set_option maxHeartbeats 40000000 in
theorem own_rm0 (l : Launch) (Z : State) (a0 : Array Value) (hw : ∀ d ∈ tables_1, d.before a0 Z = true) (ws : List Jvm.Cond) (ip0 : Int32) (ip1 : Int32) (ip2 : Int32) (ip3 : Int32) (w_NONE : Addr) (k_w_NONE : ClassId) (h0 : Heap) (n0 : Nat) (Z0 : n0 ≤ h0.size) (S_NONE : Sta Z h0 "com/example/backchannel/backchannel/server/ByteQueue" "NONE" "[B" (.ref w_NONE)) (E_w_NONE : Exa Z h0 w_NONE "[B") (V_w_NONE : Arv Z h0 w_NONE k_w_NONE .byte (0 : Int32) [] (.int (0 : Int32))) :
    MetFree l x (head1 (Jvm.Cond.code x code maxLocals ret :: ws) room_1) (fun a U => a = #[(.int ip0), (.int ip1), (.int ip2), (.int ip3)] ∧ Z.Warmed39 U.vm ∧ U.heap = h0) (fun _ _ _ _ _ => True) (fun _ U o U' => ∃ v L, o = .returned v ∧ own_Q0 n0 v U'.heap L ∧ FrameEnd U o U' L room_1.cells room_1.slots) := by
  refine MetFree.of_bodySF (plainFor_of_name own_pn1) hisR ?_
  intro p e s m args below meth c s₁ Bd hml0 hP hK
  obtain ⟨rfl, hZ, hh⟩ := hP
  have hx := Bd.exec
  have hlk := Bd.notSynchronized
  have hret := Bd.returns
  have hby := Bd.bytes
  have hml : c.maxLocals = 10 := hml0
  have hown : s.vm.findClass "com/example/backchannel/backchannel/server/ByteQueueClearPinLaw" = some m.cls := findClass_of_methodNamed Bd.named
  have hnm := (name_of_methodNamed Bd.named Bd.method).1
  have X0 : Stand p l e room_1 s m #[(.int ip0), (.int ip1), (.int ip2), (.int ip3)] below meth c s₁ [] 0 0 := Stand.of_body Bd
  have e0 : s₁.heap = h0 := by rw [← hh, Bd.state]; rfl
  have N0 := Fr.nil n0
  refine own_open (Q := own_Q0 n0) (own_ef0 m ip0 ip1 ip2 ip3) ?_
  show own_Go _ _ _ _ s₁ (mkF m 0 #[.val (.int ip0), .val (.int ip1), .val (.int ip2), .val (.int ip3), .unset, .unset, .unset, .unset, .unset, .unset] [])
  refine own_st (fun t k => XS.iloadN X0.here hx rfl (hb hby at_0) rfl k) ?_
  show own_Go _ _ _ _ s₁ (mkF m 1 #[.val (.int ip0), .val (.int ip1), .val (.int ip2), .val (.int ip3), .unset, .unset, .unset, .unset, .unset, .unset] [(.int ip0)])
  refine own_st (fun t k => XS.iconst X0.here hx rfl (hb hby at_1) k) ?_
  show own_Go _ _ _ _ s₁ (mkF m 2 #[.val (.int ip0), .val (.int ip1), .val (.int ip2), .val (.int ip3), .unset, .unset, .unset, .unset, .unset, .unset] [(.int (4 : Int32)), (.int ip0)])
  refine own_st (fun t k => XS.iand X0.here hx rfl (hb hby at_2) rfl k) ?_
  show own_Go _ _ _ _ s₁ (mkF m 3 #[.val (.int ip0), .val (.int ip1), .val (.int ip2), .val (.int ip3), .unset, .unset, .unset, .unset, .unset, .unset] [(.int (ip0 &&& (4 : Int32)))])
  by_cases hc1 : (ip0 &&& (4 : Int32)) = (0 : Int32)
  · skip
    refine own_st (fun t k => XS.ifYes X0.here hx rfl (pc0 := 3) (pc' := 14) rfl (hb hby at_3) rfl ((if0 _ _).trans (teq hc1).1) (by decide) (by decide) k) ?_
    show own_Go _ _ _ _ s₁ (mkF m 14 #[.val (.int ip0), .val (.int ip1), .val (.int ip2), .val (.int ip3), .unset, .unset, .unset, .unset, .unset, .unset] [])
    refine own_st (fun t k => XS.iconst X0.here hx rfl (hb hby at_14) k) ?_
    show own_Go _ _ _ _ s₁ (mkF m 15 #[.val (.int ip0), .val (.int ip1), .val (.int ip2), .val (.int ip3), .unset, .unset, .unset, .unset, .unset, .unset] [(.int (3 : Int32))])
    obtain ⟨T2, h2, k2, X2, e2, E2, A2, Ex2, st2⟩ := newPE X0 hx hZ (own_w hw 0 rfl) e0 (g := (mkF m 15 #[.val (.int ip0), .val (.int ip1), .val (.int ip2), .val (.int ip3), .unset, .unset, .unset, .unset, .unset, .unset] [(.int (3 : Int32))])) rfl (hb hby at_15) rfl (by decide) (cap := 3) (by decide) (by decide) (by decide) (by decide) (ad := "[B") (by decide +kernel)
    obtain ⟨b2, g2⟩ : ∃ z, z = h0.size := ⟨_, rfl⟩
    rw [← g2] at A2 Ex2 st2
    have g_b2 : n0 ≤ b2 := Nat.le_trans Z0 (Nat.le_of_eq g2.symm)
    have sz_b2 : h0.size ≤ b2 := Nat.le_trans (Keep.refl h0 []).1 (Nat.le_of_eq g2.symm)
    refine own_st st2 ?_
    have K2 : Keep h0 h2 [] := (Keep.refl h0 []).ext E2
    have Z2 := Nat.le_trans Z0 E2.1
    have V2 : Arv Z h2 b2 k2 .byte (3 : Int32) [(.int (0 : Int32)), (.int (0 : Int32)), (.int (0 : Int32))] (.int (0 : Int32)) := (Arv.new A2 (by decide)).pad (pad_rep [] (.int (0 : Int32)) 3)
    show own_Go _ _ _ _ T2 (mkF m 17 #[.val (.int ip0), .val (.int ip1), .val (.int ip2), .val (.int ip3), .unset, .unset, .unset, .unset, .unset, .unset] [(.ref b2)])
    refine own_st (fun t k => XS.dup X2.here hx rfl (hb hby at_17) rfl rfl k) ?_
    show own_Go _ _ _ _ T2 (mkF m 18 #[.val (.int ip0), .val (.int ip1), .val (.int ip2), .val (.int ip3), .unset, .unset, .unset, .unset, .unset, .unset] [(.ref b2), (.ref b2)])
    refine own_st (fun t k => XS.iconst X2.here hx rfl (hb hby at_18) k) ?_
    show own_Go _ _ _ _ T2 (mkF m 19 #[.val (.int ip0), .val (.int ip1), .val (.int ip2), .val (.int ip3), .unset, .unset, .unset, .unset, .unset, .unset] [(.int (0 : Int32)), (.ref b2), (.ref b2)])
    refine own_st (fun t k => XS.iloadN X2.here hx rfl (hb hby at_19) rfl k) ?_
    show own_Go _ _ _ _ T2 (mkF m 20 #[.val (.int ip0), .val (.int ip1), .val (.int ip2), .val (.int ip3), .unset, .unset, .unset, .unset, .unset, .unset] [(.int ip0), (.int (0 : Int32)), (.ref b2), (.ref b2)])
    refine own_st (fun t k => XS.bipush X2.here hx rfl (hb hby at_20) k) ?_
    show own_Go _ _ _ _ T2 (mkF m 22 #[.val (.int ip0), .val (.int ip1), .val (.int ip2), .val (.int ip3), .unset, .unset, .unset, .unset, .unset, .unset] [(.int (8 : Int32)), (.int ip0), (.int (0 : Int32)), (.ref b2), (.ref b2)])
    refine own_st (fun t k => XS.ishr X2.here hx rfl (hb hby at_22) rfl k) ?_
    show own_Go _ _ _ _ T2 (mkF m 23 #[.val (.int ip0), .val (.int ip1), .val (.int ip2), .val (.int ip3), .unset, .unset, .unset, .unset, .unset, .unset] [(.int (ip0 >>> ((8 : Int32) &&& 31))), (.int (0 : Int32)), (.ref b2), (.ref b2)])
    refine own_st (fun t k => XS.i2b X2.here hx rfl (hb hby at_23) rfl k) ?_
    show own_Go _ _ _ _ T2 (mkF m 24 #[.val (.int ip0), .val (.int ip1), .val (.int ip2), .val (.int ip3), .unset, .unset, .unset, .unset, .unset, .unset] [(.int ((ip0 >>> ((8 : Int32) &&& 31)).toInt8.toInt32)), (.int (0 : Int32)), (.ref b2), (.ref b2)])
    obtain ⟨c3, A3, q3, S3, M3, H3, G3⟩ := V2
    obtain ⟨T3, h3, X3, e3, W3, st3⟩ := stB X2 hx hZ e2 A3 (j := (0 : Int32)) (inb_of S3 ⟨by decide, by decide⟩) (g := (mkF m 24 #[.val (.int ip0), .val (.int ip1), .val (.int ip2), .val (.int ip3), .unset, .unset, .unset, .unset, .unset, .unset] [(.int ((ip0 >>> ((8 : Int32) &&& 31)).toInt8.toInt32)), (.int (0 : Int32)), (.ref b2), (.ref b2)])) rfl rfl (hb hby at_24)
    refine own_st st3 ?_
    have K3 : Keep h0 h3 [] := K2.wr W3 (Or.inr sz_b2)
    have Z3 := Nat.le_trans Z2 (Keep.of_wr W3).1
    have N3 := Fr.snoc X3 N0 g_b2
    have V3 : Arv Z h3 b2 k2 .byte (3 : Int32) [(.int (nar .byte ((ip0 >>> ((8 : Int32) &&& 31)).toInt8.toInt32))), (.int (0 : Int32)), (.int (0 : Int32))] (.int (0 : Int32)) := Arv.set A3 q3 S3 M3 H3 G3 (fits_nar_byte _) W3 0 rfl (Nat.le_of_ble_eq_true rfl)
    show own_Go _ _ _ _ T3 (mkF m 25 #[.val (.int ip0), .val (.int ip1), .val (.int ip2), .val (.int ip3), .unset, .unset, .unset, .unset, .unset, .unset] [(.ref b2)])
    refine own_st (fun t k => XS.dup X3.here hx rfl (hb hby at_25) rfl rfl k) ?_
    show own_Go _ _ _ _ T3 (mkF m 26 #[.val (.int ip0), .val (.int ip1), .val (.int ip2), .val (.int ip3), .unset, .unset, .unset, .unset, .unset, .unset] [(.ref b2), (.ref b2)])
    refine own_st (fun t k => XS.iconst X3.here hx rfl (hb hby at_26) k) ?_
    show own_Go _ _ _ _ T3 (mkF m 27 #[.val (.int ip0), .val (.int ip1), .val (.int ip2), .val (.int ip3), .unset, .unset, .unset, .unset, .unset, .unset] [(.int (1 : Int32)), (.ref b2), (.ref b2)])
    refine own_st (fun t k => XS.iloadN X3.here hx rfl (hb hby at_27) rfl k) ?_
    show own_Go _ _ _ _ T3 (mkF m 28 #[.val (.int ip0), .val (.int ip1), .val (.int ip2), .val (.int ip3), .unset, .unset, .unset, .unset, .unset, .unset] [(.int ip0), (.int (1 : Int32)), (.ref b2), (.ref b2)])
    refine own_st (fun t k => XS.bipush X3.here hx rfl (hb hby at_28) k) ?_
    show own_Go _ _ _ _ T3 (mkF m 30 #[.val (.int ip0), .val (.int ip1), .val (.int ip2), .val (.int ip3), .unset, .unset, .unset, .unset, .unset, .unset] [(.int (16 : Int32)), (.int ip0), (.int (1 : Int32)), (.ref b2), (.ref b2)])
    refine own_st (fun t k => XS.ishr X3.here hx rfl (hb hby at_30) rfl k) ?_
    show own_Go _ _ _ _ T3 (mkF m 31 #[.val (.int ip0), .val (.int ip1), .val (.int ip2), .val (.int ip3), .unset, .unset, .unset, .unset, .unset, .unset] [(.int (ip0 >>> ((16 : Int32) &&& 31))), (.int (1 : Int32)), (.ref b2), (.ref b2)])
    refine own_st (fun t k => XS.i2b X3.here hx rfl (hb hby at_31) rfl k) ?_
    show own_Go _ _ _ _ T3 (mkF m 32 #[.val (.int ip0), .val (.int ip1), .val (.int ip2), .val (.int ip3), .unset, .unset, .unset, .unset, .unset, .unset] [(.int ((ip0 >>> ((16 : Int32) &&& 31)).toInt8.toInt32)), (.int (1 : Int32)), (.ref b2), (.ref b2)])
    obtain ⟨c4, A4, q4, S4, M4, H4, G4⟩ := V3
    obtain ⟨T4, h4, X4, e4, W4, st4⟩ := stB X3 hx hZ e3 A4 (j := (1 : Int32)) (inb_of S4 ⟨by decide, by decide⟩) (g := (mkF m 32 #[.val (.int ip0), .val (.int ip1), .val (.int ip2), .val (.int ip3), .unset, .unset, .unset, .unset, .unset, .unset] [(.int ((ip0 >>> ((16 : Int32) &&& 31)).toInt8.toInt32)), (.int (1 : Int32)), (.ref b2), (.ref b2)])) rfl rfl (hb hby at_32)
    refine own_st st4 ?_
    have K4 : Keep h0 h4 [] := K3.wr W4 (Or.inr sz_b2)
    have Z4 := Nat.le_trans Z3 (Keep.of_wr W4).1
    have N4 := Fr.snoc X4 N3 g_b2
    have V4 : Arv Z h4 b2 k2 .byte (3 : Int32) [(.int (nar .byte ((ip0 >>> ((8 : Int32) &&& 31)).toInt8.toInt32))), (.int (nar .byte ((ip0 >>> ((16 : Int32) &&& 31)).toInt8.toInt32))), (.int (0 : Int32))] (.int (0 : Int32)) := Arv.set A4 q4 S4 M4 H4 G4 (fits_nar_byte _) W4 1 rfl (Nat.le_of_ble_eq_true rfl)
    show own_Go _ _ _ _ T4 (mkF m 33 #[.val (.int ip0), .val (.int ip1), .val (.int ip2), .val (.int ip3), .unset, .unset, .unset, .unset, .unset, .unset] [(.ref b2)])
    refine own_st (fun t k => XS.dup X4.here hx rfl (hb hby at_33) rfl rfl k) ?_
    show own_Go _ _ _ _ T4 (mkF m 34 #[.val (.int ip0), .val (.int ip1), .val (.int ip2), .val (.int ip3), .unset, .unset, .unset, .unset, .unset, .unset] [(.ref b2), (.ref b2)])
    refine own_st (fun t k => XS.iconst X4.here hx rfl (hb hby at_34) k) ?_
    show own_Go _ _ _ _ T4 (mkF m 35 #[.val (.int ip0), .val (.int ip1), .val (.int ip2), .val (.int ip3), .unset, .unset, .unset, .unset, .unset, .unset] [(.int (2 : Int32)), (.ref b2), (.ref b2)])
    refine own_st (fun t k => XS.iloadN X4.here hx rfl (hb hby at_35) rfl k) ?_
    show own_Go _ _ _ _ T4 (mkF m 36 #[.val (.int ip0), .val (.int ip1), .val (.int ip2), .val (.int ip3), .unset, .unset, .unset, .unset, .unset, .unset] [(.int ip0), (.int (2 : Int32)), (.ref b2), (.ref b2)])
    refine own_st (fun t k => XS.bipush X4.here hx rfl (hb hby at_36) k) ?_
    show own_Go _ _ _ _ T4 (mkF m 38 #[.val (.int ip0), .val (.int ip1), .val (.int ip2), .val (.int ip3), .unset, .unset, .unset, .unset, .unset, .unset] [(.int (24 : Int32)), (.int ip0), (.int (2 : Int32)), (.ref b2), (.ref b2)])
    refine own_st (fun t k => XS.ishr X4.here hx rfl (hb hby at_38) rfl k) ?_
    show own_Go _ _ _ _ T4 (mkF m 39 #[.val (.int ip0), .val (.int ip1), .val (.int ip2), .val (.int ip3), .unset, .unset, .unset, .unset, .unset, .unset] [(.int (ip0 >>> ((24 : Int32) &&& 31))), (.int (2 : Int32)), (.ref b2), (.ref b2)])
    refine own_st (fun t k => XS.i2b X4.here hx rfl (hb hby at_39) rfl k) ?_
    show own_Go _ _ _ _ T4 (mkF m 40 #[.val (.int ip0), .val (.int ip1), .val (.int ip2), .val (.int ip3), .unset, .unset, .unset, .unset, .unset, .unset] [(.int ((ip0 >>> ((24 : Int32) &&& 31)).toInt8.toInt32)), (.int (2 : Int32)), (.ref b2), (.ref b2)])
    obtain ⟨c5, A5, q5, S5, M5, H5, G5⟩ := V4
    obtain ⟨T5, h5, X5, e5, W5, st5⟩ := stB X4 hx hZ e4 A5 (j := (2 : Int32)) (inb_of S5 ⟨by decide, by decide⟩) (g := (mkF m 40 #[.val (.int ip0), .val (.int ip1), .val (.int ip2), .val (.int ip3), .unset, .unset, .unset, .unset, .unset, .unset] [(.int ((ip0 >>> ((24 : Int32) &&& 31)).toInt8.toInt32)), (.int (2 : Int32)), (.ref b2), (.ref b2)])) rfl rfl (hb hby at_40)
    refine own_st st5 ?_
    have K5 : Keep h0 h5 [] := K4.wr W5 (Or.inr sz_b2)
    have Z5 := Nat.le_trans Z4 (Keep.of_wr W5).1
    have N5 := Fr.snoc X5 N4 g_b2
    have V5 : Arv Z h5 b2 k2 .byte (3 : Int32) [(.int (nar .byte ((ip0 >>> ((8 : Int32) &&& 31)).toInt8.toInt32))), (.int (nar .byte ((ip0 >>> ((16 : Int32) &&& 31)).toInt8.toInt32))), (.int (nar .byte ((ip0 >>> ((24 : Int32) &&& 31)).toInt8.toInt32)))] (.int (0 : Int32)) := Arv.set A5 q5 S5 M5 H5 G5 (fits_nar_byte _) W5 2 rfl (Nat.le_of_ble_eq_true rfl)
    show own_Go _ _ _ _ T5 (mkF m 41 #[.val (.int ip0), .val (.int ip1), .val (.int ip2), .val (.int ip3), .unset, .unset, .unset, .unset, .unset, .unset] [(.ref b2)])
    refine own_st (fun t k => XS.astore X5.here hx rfl (hb hby at_41) rfl rfl (l' := #[.val (.int ip0), .val (.int ip1), .val (.int ip2), .val (.int ip3), .val (.ref b2), .unset, .unset, .unset, .unset, .unset]) rfl k) ?_
    show own_Go _ _ _ _ T5 (mkF m 43 #[.val (.int ip0), .val (.int ip1), .val (.int ip2), .val (.int ip3), .val (.ref b2), .unset, .unset, .unset, .unset, .unset] [])
    refine own_st (fun t k => XS.iconst X5.here hx rfl (hb hby at_43) k) ?_
    show own_Go _ _ _ _ T5 (mkF m 44 #[.val (.int ip0), .val (.int ip1), .val (.int ip2), .val (.int ip3), .val (.ref b2), .unset, .unset, .unset, .unset, .unset] [(.int (2 : Int32))])
    obtain ⟨T6, h6, k6, X6, e6, E6, A6, Ex6, st6⟩ := newPE X5 hx hZ (own_w hw 0 rfl) e5 (g := (mkF m 44 #[.val (.int ip0), .val (.int ip1), .val (.int ip2), .val (.int ip3), .val (.ref b2), .unset, .unset, .unset, .unset, .unset] [(.int (2 : Int32))])) rfl (hb hby at_44) rfl (by decide) (cap := 2) (by decide) (by decide) (by decide) (by decide) (ad := "[B") (by decide +kernel)
    obtain ⟨b6, g6⟩ : ∃ z, z = h5.size := ⟨_, rfl⟩
    rw [← g6] at A6 Ex6 st6
    have g_b6 : n0 ≤ b6 := Nat.le_trans Z5 (Nat.le_of_eq g6.symm)
    have sz_b6 : h0.size ≤ b6 := Nat.le_trans K5.1 (Nat.le_of_eq g6.symm)
    refine own_st st6 ?_
    have K6 : Keep h0 h6 [] := K5.ext E6
    have Z6 := Nat.le_trans Z5 E6.1
    have V6 : Arv Z h6 b6 k6 .byte (2 : Int32) [(.int (0 : Int32)), (.int (0 : Int32))] (.int (0 : Int32)) := (Arv.new A6 (by decide)).pad (pad_rep [] (.int (0 : Int32)) 2)
    show own_Go _ _ _ _ T6 (mkF m 46 #[.val (.int ip0), .val (.int ip1), .val (.int ip2), .val (.int ip3), .val (.ref b2), .unset, .unset, .unset, .unset, .unset] [(.ref b6)])
    refine own_st (fun t k => XS.dup X6.here hx rfl (hb hby at_46) rfl rfl k) ?_
    show own_Go _ _ _ _ T6 (mkF m 47 #[.val (.int ip0), .val (.int ip1), .val (.int ip2), .val (.int ip3), .val (.ref b2), .unset, .unset, .unset, .unset, .unset] [(.ref b6), (.ref b6)])
    refine own_st (fun t k => XS.iconst X6.here hx rfl (hb hby at_47) k) ?_
    show own_Go _ _ _ _ T6 (mkF m 48 #[.val (.int ip0), .val (.int ip1), .val (.int ip2), .val (.int ip3), .val (.ref b2), .unset, .unset, .unset, .unset, .unset] [(.int (0 : Int32)), (.ref b6), (.ref b6)])
    refine own_st (fun t k => XS.iloadN X6.here hx rfl (hb hby at_48) rfl k) ?_
    show own_Go _ _ _ _ T6 (mkF m 49 #[.val (.int ip0), .val (.int ip1), .val (.int ip2), .val (.int ip3), .val (.ref b2), .unset, .unset, .unset, .unset, .unset] [(.int ip2), (.int (0 : Int32)), (.ref b6), (.ref b6)])
    refine own_st (fun t k => XS.i2b X6.here hx rfl (hb hby at_49) rfl k) ?_
    show own_Go _ _ _ _ T6 (mkF m 50 #[.val (.int ip0), .val (.int ip1), .val (.int ip2), .val (.int ip3), .val (.ref b2), .unset, .unset, .unset, .unset, .unset] [(.int (ip2.toInt8.toInt32)), (.int (0 : Int32)), (.ref b6), (.ref b6)])
    obtain ⟨c7, A7, q7, S7, M7, H7, G7⟩ := V6
    obtain ⟨T7, h7, X7, e7, W7, st7⟩ := stB X6 hx hZ e6 A7 (j := (0 : Int32)) (inb_of S7 ⟨by decide, by decide⟩) (g := (mkF m 50 #[.val (.int ip0), .val (.int ip1), .val (.int ip2), .val (.int ip3), .val (.ref b2), .unset, .unset, .unset, .unset, .unset] [(.int (ip2.toInt8.toInt32)), (.int (0 : Int32)), (.ref b6), (.ref b6)])) rfl rfl (hb hby at_50)
    refine own_st st7 ?_
    have K7 : Keep h0 h7 [] := K6.wr W7 (Or.inr sz_b6)
    have Z7 := Nat.le_trans Z6 (Keep.of_wr W7).1
    have N7 := Fr.snoc X7 N5 g_b6
    have V7 : Arv Z h7 b6 k6 .byte (2 : Int32) [(.int (nar .byte (ip2.toInt8.toInt32))), (.int (0 : Int32))] (.int (0 : Int32)) := Arv.set A7 q7 S7 M7 H7 G7 (fits_nar_byte _) W7 0 rfl (Nat.le_of_ble_eq_true rfl)
    show own_Go _ _ _ _ T7 (mkF m 51 #[.val (.int ip0), .val (.int ip1), .val (.int ip2), .val (.int ip3), .val (.ref b2), .unset, .unset, .unset, .unset, .unset] [(.ref b6)])
    refine own_st (fun t k => XS.dup X7.here hx rfl (hb hby at_51) rfl rfl k) ?_
    show own_Go _ _ _ _ T7 (mkF m 52 #[.val (.int ip0), .val (.int ip1), .val (.int ip2), .val (.int ip3), .val (.ref b2), .unset, .unset, .unset, .unset, .unset] [(.ref b6), (.ref b6)])
    refine own_st (fun t k => XS.iconst X7.here hx rfl (hb hby at_52) k) ?_
    show own_Go _ _ _ _ T7 (mkF m 53 #[.val (.int ip0), .val (.int ip1), .val (.int ip2), .val (.int ip3), .val (.ref b2), .unset, .unset, .unset, .unset, .unset] [(.int (1 : Int32)), (.ref b6), (.ref b6)])
    refine own_st (fun t k => XS.iloadN X7.here hx rfl (hb hby at_53) rfl k) ?_
    show own_Go _ _ _ _ T7 (mkF m 54 #[.val (.int ip0), .val (.int ip1), .val (.int ip2), .val (.int ip3), .val (.ref b2), .unset, .unset, .unset, .unset, .unset] [(.int ip3), (.int (1 : Int32)), (.ref b6), (.ref b6)])
    refine own_st (fun t k => XS.i2b X7.here hx rfl (hb hby at_54) rfl k) ?_
    show own_Go _ _ _ _ T7 (mkF m 55 #[.val (.int ip0), .val (.int ip1), .val (.int ip2), .val (.int ip3), .val (.ref b2), .unset, .unset, .unset, .unset, .unset] [(.int (ip3.toInt8.toInt32)), (.int (1 : Int32)), (.ref b6), (.ref b6)])
    obtain ⟨c8, A8, q8, S8, M8, H8, G8⟩ := V7
    obtain ⟨T8, h8, X8, e8, W8, st8⟩ := stB X7 hx hZ e7 A8 (j := (1 : Int32)) (inb_of S8 ⟨by decide, by decide⟩) (g := (mkF m 55 #[.val (.int ip0), .val (.int ip1), .val (.int ip2), .val (.int ip3), .val (.ref b2), .unset, .unset, .unset, .unset, .unset] [(.int (ip3.toInt8.toInt32)), (.int (1 : Int32)), (.ref b6), (.ref b6)])) rfl rfl (hb hby at_55)
    refine own_st st8 ?_
    have K8 : Keep h0 h8 [] := K7.wr W8 (Or.inr sz_b6)
    have Z8 := Nat.le_trans Z7 (Keep.of_wr W8).1
    have N8 := Fr.snoc X8 N7 g_b6
    have V8 : Arv Z h8 b6 k6 .byte (2 : Int32) [(.int (nar .byte (ip2.toInt8.toInt32))), (.int (nar .byte (ip3.toInt8.toInt32)))] (.int (0 : Int32)) := Arv.set A8 q8 S8 M8 H8 G8 (fits_nar_byte _) W8 1 rfl (Nat.le_of_ble_eq_true rfl)
    show own_Go _ _ _ _ T8 (mkF m 56 #[.val (.int ip0), .val (.int ip1), .val (.int ip2), .val (.int ip3), .val (.ref b2), .unset, .unset, .unset, .unset, .unset] [(.ref b6)])
    refine own_st (fun t k => XS.astore X8.here hx rfl (hb hby at_56) rfl rfl (l' := #[.val (.int ip0), .val (.int ip1), .val (.int ip2), .val (.int ip3), .val (.ref b2), .val (.ref b6), .unset, .unset, .unset, .unset]) rfl k) ?_
    show own_Go _ _ _ _ T8 (mkF m 58 #[.val (.int ip0), .val (.int ip1), .val (.int ip2), .val (.int ip3), .val (.ref b2), .val (.ref b6), .unset, .unset, .unset, .unset] [])
    obtain ⟨T9, h9, X9, e9, E9, A9, D9, -, st9⟩ := newO X8 hx hZ hown (own_w hw 1 rfl) (own_w hw 2 rfl) (own_w hw 3 rfl) e8 (g := (mkF m 58 #[.val (.int ip0), .val (.int ip1), .val (.int ip2), .val (.int ip3), .val (.ref b2), .val (.ref b6), .unset, .unset, .unset, .unset] [])) rfl (hb hby at_58) (by decide) (by decide)
    obtain ⟨b9, g9⟩ : ∃ z, z = h8.size := ⟨_, rfl⟩
    rw [← g9] at A9 D9 st9
    have g_b9 : n0 ≤ b9 := Nat.le_trans Z8 (Nat.le_of_eq g9.symm)
    have sz_b9 : h0.size ≤ b9 := Nat.le_trans K8.1 (Nat.le_of_eq g9.symm)
    refine own_st st9 ?_
    have K9 : Keep h0 h9 [] := K8.ext E9
    have Z9 := Nat.le_trans Z8 E9.1
    have F9_13 : Fld Z h9 b9 "com/example/backchannel/backchannel/server/ByteQueue" "bytes" "[B" .null := D9 (Or.inl (own_w hw 13 rfl)) (ty := (.array .byte)) (by decide)
    have F9_24 : Fld Z h9 b9 "com/example/backchannel/backchannel/server/ByteQueue" "end" "I" (.int (0 : Int32)) := D9 (Or.inl (own_w hw 24 rfl)) (ty := .int) (by decide)
    have F9_31 : Fld Z h9 b9 "com/example/backchannel/backchannel/server/ByteQueue" "start" "I" (.int (0 : Int32)) := D9 (Or.inl (own_w hw 31 rfl)) (ty := .int) (by decide)
    show own_Go _ _ _ _ T9 (mkF m 61 #[.val (.int ip0), .val (.int ip1), .val (.int ip2), .val (.int ip3), .val (.ref b2), .val (.ref b6), .unset, .unset, .unset, .unset] [(.ref b9)])
    refine own_st (fun t k => XS.dup X9.here hx rfl (hb hby at_61) rfl rfl k) ?_
    show own_Go _ _ _ _ T9 (mkF m 62 #[.val (.int ip0), .val (.int ip1), .val (.int ip2), .val (.int ip3), .val (.ref b2), .val (.ref b6), .unset, .unset, .unset, .unset] [(.ref b9), (.ref b9)])
    have f10 := (own_stak S_NONE K9 all0)
    obtain ⟨_, _, ⟨T11, L11, k11, n11⟩, -, X11, ⟨Lc11, hQ11, l11, y11, z11⟩, st11⟩ := X9.specialBack hx (y := (⟨"com/example/backchannel/backchannel/server/ByteQueue", "<init>", "()V"⟩ : MethodName)) rfl hown (mvT hZ (own_w hw 4 rfl)) (mvT hZ (own_w hw 5 rfl)) (mvT hZ (own_w hw 6 rfl)) (by decide) (backOf (W := 1) (own_rm1_2 l Z a0 hw [] b9 w_NONE h9 n0 Z9 f10 A9 F9_13 g_b9 F9_24 F9_31) hZ (own_w hw 6 rfl) (own_w hw 3 rfl) (by decide) (by decide)) (g := (mkF m 62 #[.val (.int ip0), .val (.int ip1), .val (.int ip2), .val (.int ip3), .val (.ref b2), .val (.ref b6), .unset, .unset, .unset, .unset] [(.ref b9), (.ref b9)])) rfl (by rw [hml]; rfl) (Steps.refl _) (a := b9) (argsL := []) (rest := [(.ref b9)]) (lenOf own_pd0 rfl) rfl (by show 2 * 0 + _ ≤ _; exact Nat.le_of_eq rfl) (hb hby at_62) (fun _ _ => ⟨rfl, e9, (by decide : 3 + 0 ≤ _), (by decide : 8 + 0 ≤ _)⟩)
    dsimp only [Pt.U, Pt.locs, Pt.cells, Pt.slots] at X11 l11 y11 z11 st11 hQ11
    subst l11 y11 z11
    obtain ⟨N11q, Kq11, hL11⟩ := hQ11
    have N11 := Fr.app N8 N11q
    have K11 : Keep h0 T11.heap [] := K9.trans Kq11 (allS (Or.inr sz_b9) all0)
    have Z11 := Nat.le_trans Z9 Kq11.1
    rcases hL11 with ⟨rfl, Fc11_0_0, Fc11_0_1, Fc11_0_2, -⟩
    · skip
      refine own_st (fun t k => st11.trans k) ?_
      show own_Go _ _ _ _ T11 (mkF m 65 #[.val (.int ip0), .val (.int ip1), .val (.int ip2), .val (.int ip3), .val (.ref b2), .val (.ref b6), .unset, .unset, .unset, .unset] [(.ref b9)])
      refine own_st (fun t k => XS.astore X11.here hx rfl (hb hby at_65) rfl rfl (l' := #[.val (.int ip0), .val (.int ip1), .val (.int ip2), .val (.int ip3), .val (.ref b2), .val (.ref b6), .val (.ref b9), .unset, .unset, .unset]) rfl k) ?_
      show own_Go _ _ _ _ T11 (mkF m 67 #[.val (.int ip0), .val (.int ip1), .val (.int ip2), .val (.int ip3), .val (.ref b2), .val (.ref b6), .val (.ref b9), .unset, .unset, .unset] [])
      refine own_st (fun t k => XS.aload X11.here hx rfl (hb hby at_67) rfl rfl k) ?_
      show own_Go _ _ _ _ T11 (mkF m 69 #[.val (.int ip0), .val (.int ip1), .val (.int ip2), .val (.int ip3), .val (.ref b2), .val (.ref b6), .val (.ref b9), .unset, .unset, .unset] [(.ref b9)])
      refine own_st (fun t k => XS.aload X11.here hx rfl (hb hby at_69) rfl rfl k) ?_
      show own_Go _ _ _ _ T11 (mkF m 71 #[.val (.int ip0), .val (.int ip1), .val (.int ip2), .val (.int ip3), .val (.ref b2), .val (.ref b6), .val (.ref b9), .unset, .unset, .unset] [(.ref b2), (.ref b9)])
      have ne12 : b2 ≠ b6 := Nat.ne_of_lt (Nat.lt_of_lt_of_le V5.lt (Nat.le_of_eq g6.symm))
      have ne13 : b2 ≠ b9 := Nat.ne_of_lt (Nat.lt_of_lt_of_le (((V5.ext E6).other W7 ne12).other W8 ne12).lt (Nat.le_of_eq g9.symm))
      have f14 := (((((V5.ext E6).other W7 ne12).other W8 ne12).ext E9).keep Kq11 (ninS ne13 nin0))
      have f15 := (V_w_NONE.keep K11 nin0)
      have f16 := (A9.keep Kq11)
      have f17 := ((((((((Ex2.wr W3).wr W4).wr W5).ext E6).wr W7).wr W8).ext E9).keep Kq11)
      obtain ⟨cq18, kq18, q18a, q18b, q18c⟩ := isOf hZ rfl f16
      obtain ⟨_, _, ⟨T18, L18, k18, n18⟩, -, X18, ⟨Lc18, hQ18, l18, y18, z18⟩, st18⟩ := X11.virtualBack hx (y := (⟨"com/example/backchannel/backchannel/server/ByteQueue", "append", "([B)V"⟩ : MethodName)) (z := (⟨"com/example/backchannel/backchannel/server/ByteQueue", "append", "([B)V"⟩ : MethodName)) hown (mvT hZ (own_w hw 14 rfl)) (mvT hZ (own_w hw 15 rfl)) (notFace_of_selects (args := #[]) (mvT hZ (own_w hw 17 rfl))) (mvT hZ (own_w hw 17 rfl)) (mvT hZ (own_w hw 16 rfl)) (by decide) (backOf (W := 0) (own_rm3_6 l Z a0 hw [] b9 b2 k2 ip0 w_NONE k_w_NONE T11.heap n0 Z11 f14 Fc11_0_0 f15 Fc11_0_1 Fc11_0_2 f16 g_b9 f17) hZ (own_w hw 18 rfl) (own_w hw 3 rfl) (by decide) (by decide)) q18a q18c (g := (mkF m 71 #[.val (.int ip0), .val (.int ip1), .val (.int ip2), .val (.int ip3), .val (.ref b2), .val (.ref b6), .val (.ref b9), .unset, .unset, .unset] [(.ref b2), (.ref b9)])) rfl (by rw [hml]; rfl) (Steps.refl _) (argsL := [(.ref b2)]) (rest := []) (lenOf own_pd4 rfl) rfl (by show 2 * 0 + _ ≤ _; exact Nat.le_of_eq rfl) (hb hby at_71) (fun _ _ => ⟨rfl, rfl, (by decide : 3 + 1 ≤ _), (by decide : 8 + 512 ≤ _)⟩)
      dsimp only [Pt.U, Pt.locs, Pt.cells, Pt.slots] at X18 l18 y18 z18 st18 hQ18
      subst l18 y18 z18
      obtain ⟨N18q, Kq18, hL18⟩ := hQ18
      have N18 := Fr.app N11 N18q
      have K18 : Keep h0 T18.heap [] := K11.trans Kq18 (allS (Or.inr sz_b9) all0)
      have Z18 := Nat.le_trans Z11 Kq18.1
      rcases hL18 with ⟨b8x4_8c1c18, k8x4_8c1c18, rfl, hq18_0_0, sq_b8x4_8c1c18, Fc18_0_0, Fc18_0_1, Fc18_0_2, Fc18_0_3, Fc18_0_4, -⟩
      · skip
        have g_b8x4_8c1c18 : n0 ≤ b8x4_8c1c18 := Nat.le_trans Z11 sq_b8x4_8c1c18
        have sz_b8x4_8c1c18 : h0.size ≤ b8x4_8c1c18 := Nat.le_trans K11.1 sq_b8x4_8c1c18
        refine own_st (fun t k => st18.trans k) ?_
        show own_Go _ _ _ _ T18 (mkF m 74 #[.val (.int ip0), .val (.int ip1), .val (.int ip2), .val (.int ip3), .val (.ref b2), .val (.ref b6), .val (.ref b9), .unset, .unset, .unset] [])
        refine own_st (fun t k => XS.iloadN X18.here hx rfl (hb hby at_74) rfl k) ?_
        show own_Go _ _ _ _ T18 (mkF m 75 #[.val (.int ip0), .val (.int ip1), .val (.int ip2), .val (.int ip3), .val (.ref b2), .val (.ref b6), .val (.ref b9), .unset, .unset, .unset] [(.int ip1)])
        refine own_st (fun t k => XS.iconst X18.here hx rfl (hb hby at_75) k) ?_
        show own_Go _ _ _ _ T18 (mkF m 76 #[.val (.int ip0), .val (.int ip1), .val (.int ip2), .val (.int ip3), .val (.ref b2), .val (.ref b6), .val (.ref b9), .unset, .unset, .unset] [(.int (3 : Int32)), (.int ip1)])
        refine own_st (fun t k => XS.iand X18.here hx rfl (hb hby at_76) rfl k) ?_
        show own_Go _ _ _ _ T18 (mkF m 77 #[.val (.int ip0), .val (.int ip1), .val (.int ip2), .val (.int ip3), .val (.ref b2), .val (.ref b6), .val (.ref b9), .unset, .unset, .unset] [(.int (ip1 &&& (3 : Int32)))])
        refine own_st (fun t k => XS.aload X18.here hx rfl (hb hby at_77) rfl rfl k) ?_
        show own_Go _ _ _ _ T18 (mkF m 79 #[.val (.int ip0), .val (.int ip1), .val (.int ip2), .val (.int ip3), .val (.ref b2), .val (.ref b6), .val (.ref b9), .unset, .unset, .unset] [(.ref b2), (.int (ip1 &&& (3 : Int32)))])
        have f19 := (f14.keep Kq18 (ninS ne13 nin0))
        refine own_st (own_alen X18 hx hZ rfl f19 (g := (mkF m 79 #[.val (.int ip0), .val (.int ip1), .val (.int ip2), .val (.int ip3), .val (.ref b2), .val (.ref b6), .val (.ref b9), .unset, .unset, .unset] [(.ref b2), (.int (ip1 &&& (3 : Int32)))])) rfl rfl (hb hby at_79)) ?_
        show own_Go _ _ _ _ T18 (mkF m 80 #[.val (.int ip0), .val (.int ip1), .val (.int ip2), .val (.int ip3), .val (.ref b2), .val (.ref b6), .val (.ref b9), .unset, .unset, .unset] [(.int (3 : Int32)), (.int (ip1 &&& (3 : Int32)))])
        refine own_st (fun t k => XS.iconst X18.here hx rfl (hb hby at_80) k) ?_
        show own_Go _ _ _ _ T18 (mkF m 81 #[.val (.int ip0), .val (.int ip1), .val (.int ip2), .val (.int ip3), .val (.ref b2), .val (.ref b6), .val (.ref b9), .unset, .unset, .unset] [(.int (1 : Int32)), (.int (3 : Int32)), (.int (ip1 &&& (3 : Int32)))])
        refine own_st (fun t k => XS.iadd X18.here hx rfl (hb hby at_81) rfl k) ?_
        show own_Go _ _ _ _ T18 (mkF m 82 #[.val (.int ip0), .val (.int ip1), .val (.int ip2), .val (.int ip3), .val (.ref b2), .val (.ref b6), .val (.ref b9), .unset, .unset, .unset] [(.int ((3 : Int32) + (1 : Int32))), (.int (ip1 &&& (3 : Int32)))])
        refine own_st (fun t k => iremM X18 hx rfl (hb hby at_82) rfl (by decide) k) ?_
        show own_Go _ _ _ _ T18 (mkF m 83 #[.val (.int ip0), .val (.int ip1), .val (.int ip2), .val (.int ip3), .val (.ref b2), .val (.ref b6), .val (.ref b9), .unset, .unset, .unset] [(.int ((ip1 &&& (3 : Int32)) % ((3 : Int32) + (1 : Int32))))])
        rcases own_rem0 ip1 with qr20 | qr20 | qr20 | qr20
        · rw [qr20]
          show own_Go _ _ _ _ T18 (mkF m 83 #[.val (.int ip0), .val (.int ip1), .val (.int ip2), .val (.int ip3), .val (.ref b2), .val (.ref b6), .val (.ref b9), .unset, .unset, .unset] [(.int (0 : Int32))])
          refine own_st (fun t k => XS.istore X18.here hx rfl (hb hby at_83) rfl (l' := #[.val (.int ip0), .val (.int ip1), .val (.int ip2), .val (.int ip3), .val (.ref b2), .val (.ref b6), .val (.ref b9), .val (.int (0 : Int32)), .unset, .unset]) rfl k) ?_
          show own_Go _ _ _ _ T18 (mkF m 85 #[.val (.int ip0), .val (.int ip1), .val (.int ip2), .val (.int ip3), .val (.ref b2), .val (.ref b6), .val (.ref b9), .val (.int (0 : Int32)), .unset, .unset] [])
          refine own_st (fun t k => XS.aload X18.here hx rfl (hb hby at_85) rfl rfl k) ?_
          show own_Go _ _ _ _ T18 (mkF m 87 #[.val (.int ip0), .val (.int ip1), .val (.int ip2), .val (.int ip3), .val (.ref b2), .val (.ref b6), .val (.ref b9), .val (.int (0 : Int32)), .unset, .unset] [(.ref b9)])
          refine own_st (fun t k => XS.iload X18.here hx rfl (hb hby at_87) rfl k) ?_
          show own_Go _ _ _ _ T18 (mkF m 89 #[.val (.int ip0), .val (.int ip1), .val (.int ip2), .val (.int ip3), .val (.ref b2), .val (.ref b6), .val (.ref b9), .val (.int (0 : Int32)), .unset, .unset] [(.int (0 : Int32)), (.ref b9)])
          have f21 := (f16.keep Kq18)
          obtain ⟨cq22, kq22, q22a, q22b, q22c⟩ := isOf hZ rfl f21
          obtain ⟨_, _, ⟨T22, L22, k22, n22⟩, -, X22, ⟨Lc22, hQ22, l22, y22, z22⟩, st22⟩ := X18.virtualBack hx (y := (⟨"com/example/backchannel/backchannel/server/ByteQueue", "remove", "(I)V"⟩ : MethodName)) (z := (⟨"com/example/backchannel/backchannel/server/ByteQueue", "remove", "(I)V"⟩ : MethodName)) hown (mvT hZ (own_w hw 40 rfl)) (mvT hZ (own_w hw 41 rfl)) (notFace_of_selects (args := #[]) (mvT hZ (own_w hw 43 rfl))) (mvT hZ (own_w hw 43 rfl)) (mvT hZ (own_w hw 42 rfl)) (by decide) (backOf (W := 0) (own_rm7_10 l Z a0 hw [] b9 b8x4_8c1c18 T18.heap n0 Z18 Fc18_0_1 Fc18_0_2 f21 g_b9 Fc18_0_0) hZ (own_w hw 44 rfl) (own_w hw 3 rfl) (by decide) (by decide)) q22a q22c (g := (mkF m 89 #[.val (.int ip0), .val (.int ip1), .val (.int ip2), .val (.int ip3), .val (.ref b2), .val (.ref b6), .val (.ref b9), .val (.int (0 : Int32)), .unset, .unset] [(.int (0 : Int32)), (.ref b9)])) rfl (by rw [hml]; rfl) (Steps.refl _) (argsL := [(.int (0 : Int32))]) (rest := []) (lenOf own_pd3 rfl) rfl (by show 2 * 0 + _ ≤ _; exact Nat.le_of_eq rfl) (hb hby at_89) (fun _ _ => ⟨rfl, rfl, (by decide : 4 + 0 ≤ _), (by decide : 520 + 0 ≤ _)⟩)
          dsimp only [Pt.U, Pt.locs, Pt.cells, Pt.slots] at X22 l22 y22 z22 st22 hQ22
          subst l22 y22 z22
          obtain ⟨N22q, Kq22, hL22⟩ := hQ22
          have N22 := Fr.app N18 N22q
          have K22 : Keep h0 T22.heap [] := K18.trans Kq22 (allS (Or.inr sz_b9) all0)
          have Z22 := Nat.le_trans Z18 Kq22.1
          rcases hL22 with ⟨rfl, Fc22_0_0, Fc22_0_1, Fc22_0_2, -⟩
          · skip
            refine own_st (fun t k => st22.trans k) ?_
            show own_Go _ _ _ _ T22 (mkF m 92 #[.val (.int ip0), .val (.int ip1), .val (.int ip2), .val (.int ip3), .val (.ref b2), .val (.ref b6), .val (.ref b9), .val (.int (0 : Int32)), .unset, .unset] [])
            refine own_st (fun t k => XS.aload X22.here hx rfl (hb hby at_92) rfl rfl k) ?_
            show own_Go _ _ _ _ T22 (mkF m 94 #[.val (.int ip0), .val (.int ip1), .val (.int ip2), .val (.int ip3), .val (.ref b2), .val (.ref b6), .val (.ref b9), .val (.int (0 : Int32)), .unset, .unset] [(.ref b9)])
            have f23 := (own_stak S_NONE K22 all0)
            have f24 := (f21.keep Kq22)
            obtain ⟨cq25, kq25, q25a, q25b, q25c⟩ := isOf hZ rfl f24
            obtain ⟨_, _, ⟨T25, L25, k25, n25⟩, -, X25, ⟨Lc25, hQ25, l25, y25, z25⟩, st25⟩ := X22.virtualBack hx (y := (⟨"com/example/backchannel/backchannel/server/ByteQueue", "clear", "()V"⟩ : MethodName)) (z := (⟨"com/example/backchannel/backchannel/server/ByteQueue", "clear", "()V"⟩ : MethodName)) hown (mvT hZ (own_w hw 50 rfl)) (mvT hZ (own_w hw 46 rfl)) (notFace_of_selects (args := #[]) (mvT hZ (own_w hw 48 rfl))) (mvT hZ (own_w hw 48 rfl)) (mvT hZ (own_w hw 47 rfl)) (by decide) (backOf (W := 0) (own_rm8_12 l Z a0 hw [] b9 w_NONE b8x4_8c1c18 T22.heap n0 Z22 f23 f24 Fc22_0_2 g_b9 Fc22_0_1 Fc22_0_0) hZ (own_w hw 49 rfl) (own_w hw 3 rfl) (by decide) (by decide)) q25a q25c (g := (mkF m 94 #[.val (.int ip0), .val (.int ip1), .val (.int ip2), .val (.int ip3), .val (.ref b2), .val (.ref b6), .val (.ref b9), .val (.int (0 : Int32)), .unset, .unset] [(.ref b9)])) rfl (by rw [hml]; rfl) (Steps.refl _) (argsL := []) (rest := []) (lenOf own_pd0 rfl) rfl (by show 2 * 0 + _ ≤ _; exact Nat.le_of_eq rfl) (hb hby at_94) (fun _ _ => ⟨rfl, rfl, (by decide : 4 + 0 ≤ _), (by decide : 520 + 0 ≤ _)⟩)
            dsimp only [Pt.U, Pt.locs, Pt.cells, Pt.slots] at X25 l25 y25 z25 st25 hQ25
            subst l25 y25 z25
            obtain ⟨N25q, Kq25, hL25⟩ := hQ25
            have N25 := Fr.app N22 N25q
            have K25 : Keep h0 T25.heap [] := K22.trans Kq25 (allS (Or.inr sz_b9) all0)
            have Z25 := Nat.le_trans Z22 Kq25.1
            rcases hL25 with ⟨rfl, Fc25_0_0, Fc25_0_1, Fc25_0_2, -⟩
            · skip
              refine own_st (fun t k => st25.trans k) ?_
              show own_Go _ _ _ _ T25 (mkF m 97 #[.val (.int ip0), .val (.int ip1), .val (.int ip2), .val (.int ip3), .val (.ref b2), .val (.ref b6), .val (.ref b9), .val (.int (0 : Int32)), .unset, .unset] [])
              refine own_st (fun t k => XS.aload X25.here hx rfl (hb hby at_97) rfl rfl k) ?_
              show own_Go _ _ _ _ T25 (mkF m 99 #[.val (.int ip0), .val (.int ip1), .val (.int ip2), .val (.int ip3), .val (.ref b2), .val (.ref b6), .val (.ref b9), .val (.int (0 : Int32)), .unset, .unset] [(.ref b9)])
              have f27 := (f24.keep Kq25)
              obtain ⟨cq26, kq26, q26a, q26b, q26c⟩ := isOf hZ rfl f27
              obtain ⟨_, _, ⟨T26, L26, k26, n26⟩, -, X26, ⟨Lc26, hQ26, l26, y26, z26⟩, st26⟩ := X25.virtualBack hx (y := (⟨"com/example/backchannel/backchannel/server/ByteQueue", "size", "()I"⟩ : MethodName)) (z := (⟨"com/example/backchannel/backchannel/server/ByteQueue", "size", "()I"⟩ : MethodName)) hown (mvT hZ (own_w hw 51 rfl)) (mvT hZ (own_w hw 26 rfl)) (notFace_of_selects (args := #[]) (mvT hZ (own_w hw 28 rfl))) (mvT hZ (own_w hw 28 rfl)) (mvT hZ (own_w hw 27 rfl)) (by decide) (backOf (W := 0) (own_rm5 l Z a0 hw [] b9 (0 : Int32) (0 : Int32) T25.heap n0 Z25 Fc25_0_2 Fc25_0_1) hZ (own_w hw 29 rfl) (own_w hw 3 rfl) (by decide) (by decide)) q26a q26c (g := (mkF m 99 #[.val (.int ip0), .val (.int ip1), .val (.int ip2), .val (.int ip3), .val (.ref b2), .val (.ref b6), .val (.ref b9), .val (.int (0 : Int32)), .unset, .unset] [(.ref b9)])) rfl (by rw [hml]; rfl) (Steps.refl _) (argsL := []) (rest := []) (lenOf own_pd1 rfl) rfl (by show 2 * 0 + _ ≤ _; exact Nat.le_of_eq rfl) (hb hby at_99) (fun _ _ => ⟨rfl, rfl, (by decide : 4 + 0 ≤ _), (by decide : 520 + 0 ≤ _)⟩)
              dsimp only [Pt.U, Pt.locs, Pt.cells, Pt.slots] at X26 l26 y26 z26 st26 hQ26
              subst l26 y26 z26
              obtain ⟨N26q, e26, hL26⟩ := hQ26
              have N26 := Fr.app N25 N26q
              rcases hL26 with ⟨rfl, -⟩
              · skip
                refine own_st (fun t k => st26.trans k) ?_
                show own_Go _ _ _ _ T26 (mkF m 102 #[.val (.int ip0), .val (.int ip1), .val (.int ip2), .val (.int ip3), .val (.ref b2), .val (.ref b6), .val (.ref b9), .val (.int (0 : Int32)), .unset, .unset] [(.int ((0 : Int32) - (0 : Int32)))])
                refine own_st (fun t k => XS.ifNo X26.here hx rfl (hb hby at_102) rfl ((if0 _ _).trans (teq (by decide : ((0 : Int32) - (0 : Int32)) = (0 : Int32))).2) k) ?_
                show own_Go _ _ _ _ T26 (mkF m 105 #[.val (.int ip0), .val (.int ip1), .val (.int ip2), .val (.int ip3), .val (.ref b2), .val (.ref b6), .val (.ref b9), .val (.int (0 : Int32)), .unset, .unset] [])
                refine own_st (fun t k => XS.aload X26.here hx rfl (hb hby at_105) rfl rfl k) ?_
                show own_Go _ _ _ _ T26 (mkF m 107 #[.val (.int ip0), .val (.int ip1), .val (.int ip2), .val (.int ip3), .val (.ref b2), .val (.ref b6), .val (.ref b9), .val (.int (0 : Int32)), .unset, .unset] [(.ref b9)])
                obtain ⟨cq28, kq28, q28a, q28b, q28c⟩ := isOf hZ e26 f27
                obtain ⟨_, _, ⟨T28, L28, k28, n28⟩, -, X28, ⟨Lc28, hQ28, l28, y28, z28⟩, st28⟩ := X26.virtualBack hx (y := (⟨"com/example/backchannel/backchannel/server/ByteQueue", "isEmpty", "()Z"⟩ : MethodName)) (z := (⟨"com/example/backchannel/backchannel/server/ByteQueue", "isEmpty", "()Z"⟩ : MethodName)) hown (mvT hZ (own_w hw 52 rfl)) (mvT hZ (own_w hw 53 rfl)) (notFace_of_selects (args := #[]) (mvT hZ (own_w hw 55 rfl))) (mvT hZ (own_w hw 55 rfl)) (mvT hZ (own_w hw 54 rfl)) (by decide) (backOf (W := 0) (own_rm9 l Z a0 hw [] b9 (0 : Int32) (0 : Int32) T25.heap n0 Z25 Fc25_0_2 Fc25_0_1) hZ (own_w hw 56 rfl) (own_w hw 3 rfl) (by decide) (by decide)) q28a q28c (g := (mkF m 107 #[.val (.int ip0), .val (.int ip1), .val (.int ip2), .val (.int ip3), .val (.ref b2), .val (.ref b6), .val (.ref b9), .val (.int (0 : Int32)), .unset, .unset] [(.ref b9)])) rfl (by rw [hml]; rfl) (Steps.refl _) (argsL := []) (rest := []) (lenOf own_pd5 rfl) rfl (by show 2 * 0 + _ ≤ _; exact Nat.le_of_eq rfl) (hb hby at_107) (fun _ _ => ⟨rfl, e26, (by decide : 4 + 0 ≤ _), (by decide : 520 + 0 ≤ _)⟩)
                dsimp only [Pt.U, Pt.locs, Pt.cells, Pt.slots] at X28 l28 y28 z28 st28 hQ28
                subst l28 y28 z28
                obtain ⟨N28q, e28, hL28⟩ := hQ28
                have N28 := Fr.app N26 N28q
                rcases hL28 with ⟨rfl, hq28_0_0, -⟩ | ⟨rfl, hq28_1_0, -⟩
                · skip
                  refine own_st (fun t k => st28.trans k) ?_
                  show own_Go _ _ _ _ T28 (mkF m 110 #[.val (.int ip0), .val (.int ip1), .val (.int ip2), .val (.int ip3), .val (.ref b2), .val (.ref b6), .val (.ref b9), .val (.int (0 : Int32)), .unset, .unset] [(.int (1 : Int32))])
                  refine own_st (fun t k => XS.ifNo X28.here hx rfl (hb hby at_110) rfl ((if0 _ _).trans (feq (by decide : ¬ ((1 : Int32) = (0 : Int32)))).1) k) ?_
                  show own_Go _ _ _ _ T28 (mkF m 113 #[.val (.int ip0), .val (.int ip1), .val (.int ip2), .val (.int ip3), .val (.ref b2), .val (.ref b6), .val (.ref b9), .val (.int (0 : Int32)), .unset, .unset] [])
                  refine own_st (fun t k => XS.iconst X28.here hx rfl (hb hby at_113) k) ?_
                  show own_Go _ _ _ _ T28 (mkF m 114 #[.val (.int ip0), .val (.int ip1), .val (.int ip2), .val (.int ip3), .val (.ref b2), .val (.ref b6), .val (.ref b9), .val (.int (0 : Int32)), .unset, .unset] [(.int (1 : Int32))])
                  refine own_st (fun t k => XS.goto X28.here hx rfl (pc0 := 114) (pc' := 118) rfl (hb hby at_114) (by decide) (by decide) k) ?_
                  show own_Go _ _ _ _ T28 (mkF m 118 #[.val (.int ip0), .val (.int ip1), .val (.int ip2), .val (.int ip3), .val (.ref b2), .val (.ref b6), .val (.ref b9), .val (.int (0 : Int32)), .unset, .unset] [(.int (1 : Int32))])
                  refine own_st (fun t k => XS.istore X28.here hx rfl (hb hby at_118) rfl (l' := #[.val (.int ip0), .val (.int ip1), .val (.int ip2), .val (.int ip3), .val (.ref b2), .val (.ref b6), .val (.ref b9), .val (.int (0 : Int32)), .val (.int (1 : Int32)), .unset]) rfl k) ?_
                  show own_Go _ _ _ _ T28 (mkF m 120 #[.val (.int ip0), .val (.int ip1), .val (.int ip2), .val (.int ip3), .val (.ref b2), .val (.ref b6), .val (.ref b9), .val (.int (0 : Int32)), .val (.int (1 : Int32)), .unset] [])
                  refine own_st (fun t k => XS.aload X28.here hx rfl (hb hby at_120) rfl rfl k) ?_
                  show own_Go _ _ _ _ T28 (mkF m 122 #[.val (.int ip0), .val (.int ip1), .val (.int ip2), .val (.int ip3), .val (.ref b2), .val (.ref b6), .val (.ref b9), .val (.int (0 : Int32)), .val (.int (1 : Int32)), .unset] [(.ref b9)])
                  refine own_st (fun t k => XS.aload X28.here hx rfl (hb hby at_122) rfl rfl k) ?_
                  show own_Go _ _ _ _ T28 (mkF m 124 #[.val (.int ip0), .val (.int ip1), .val (.int ip2), .val (.int ip3), .val (.ref b2), .val (.ref b6), .val (.ref b9), .val (.int (0 : Int32)), .val (.int (1 : Int32)), .unset] [(.ref b6), (.ref b9)])
                  have ne29 : b6 ≠ b9 := Nat.ne_of_lt (Nat.lt_of_lt_of_le V8.lt (Nat.le_of_eq g9.symm))
                  have f30 := (((((V8.ext E9).keep Kq11 (ninS ne29 nin0)).keep Kq18 (ninS ne29 nin0)).keep Kq22 (ninS ne29 nin0)).keep Kq25 (ninS ne29 nin0))
                  have f31 := (V_w_NONE.keep K25 nin0)
                  have f32 := (((((((Ex6.wr W7).wr W8).ext E9).keep Kq11).keep Kq18).keep Kq22).keep Kq25)
                  obtain ⟨cq33, kq33, q33a, q33b, q33c⟩ := isOf hZ e28 f27
                  obtain ⟨_, _, ⟨T33, L33, k33, n33⟩, -, X33, ⟨Lc33, hQ33, l33, y33, z33⟩, st33⟩ := X28.virtualBack hx (y := (⟨"com/example/backchannel/backchannel/server/ByteQueue", "append", "([B)V"⟩ : MethodName)) (z := (⟨"com/example/backchannel/backchannel/server/ByteQueue", "append", "([B)V"⟩ : MethodName)) hown (mvT hZ (own_w hw 14 rfl)) (mvT hZ (own_w hw 15 rfl)) (notFace_of_selects (args := #[]) (mvT hZ (own_w hw 17 rfl))) (mvT hZ (own_w hw 17 rfl)) (mvT hZ (own_w hw 16 rfl)) (by decide) (backOf (W := 0) (own_rm3_16 l Z a0 hw [] b9 b6 k6 ip2 ip3 w_NONE k_w_NONE T25.heap n0 Z25 f30 Fc25_0_0 f31 Fc25_0_2 Fc25_0_1 f27 g_b9 f32) hZ (own_w hw 18 rfl) (own_w hw 3 rfl) (by decide) (by decide)) q33a q33c (g := (mkF m 124 #[.val (.int ip0), .val (.int ip1), .val (.int ip2), .val (.int ip3), .val (.ref b2), .val (.ref b6), .val (.ref b9), .val (.int (0 : Int32)), .val (.int (1 : Int32)), .unset] [(.ref b6), (.ref b9)])) rfl (by rw [hml]; rfl) (Steps.refl _) (argsL := [(.ref b6)]) (rest := []) (lenOf own_pd4 rfl) rfl (by show 2 * 0 + _ ≤ _; exact Nat.le_of_eq rfl) (hb hby at_124) (fun _ _ => ⟨rfl, e28, (by decide : 4 + 1 ≤ _), (by decide : 520 + 512 ≤ _)⟩)
                  dsimp only [Pt.U, Pt.locs, Pt.cells, Pt.slots] at X33 l33 y33 z33 st33 hQ33
                  subst l33 y33 z33
                  obtain ⟨N33q, Kq33, hL33⟩ := hQ33
                  have N33 := Fr.app N28 N33q
                  have K33 : Keep h0 T33.heap [] := K25.trans Kq33 (allS (Or.inr sz_b9) all0)
                  have Z33 := Nat.le_trans Z25 Kq33.1
                  rcases hL33 with ⟨b8x4_18c1c33, k8x4_18c1c33, rfl, hq33_0_0, sq_b8x4_18c1c33, Fc33_0_0, Fc33_0_1, Fc33_0_2, Fc33_0_3, Fc33_0_4, -⟩
                  · skip
                    have g_b8x4_18c1c33 : n0 ≤ b8x4_18c1c33 := Nat.le_trans Z25 sq_b8x4_18c1c33
                    have sz_b8x4_18c1c33 : h0.size ≤ b8x4_18c1c33 := Nat.le_trans K25.1 sq_b8x4_18c1c33
                    refine own_st (fun t k => st33.trans k) ?_
                    show own_Go _ _ _ _ T33 (mkF m 127 #[.val (.int ip0), .val (.int ip1), .val (.int ip2), .val (.int ip3), .val (.ref b2), .val (.ref b6), .val (.ref b9), .val (.int (0 : Int32)), .val (.int (1 : Int32)), .unset] [])
                    refine own_st (fun t k => XS.aload X33.here hx rfl (hb hby at_127) rfl rfl k) ?_
                    show own_Go _ _ _ _ T33 (mkF m 129 #[.val (.int ip0), .val (.int ip1), .val (.int ip2), .val (.int ip3), .val (.ref b2), .val (.ref b6), .val (.ref b9), .val (.int (0 : Int32)), .val (.int (1 : Int32)), .unset] [(.ref b9)])
                    have f35 := (f27.keep Kq33)
                    obtain ⟨cq34, kq34, q34a, q34b, q34c⟩ := isOf hZ rfl f35
                    obtain ⟨_, _, ⟨T34, L34, k34, n34⟩, -, X34, ⟨Lc34, hQ34, l34, y34, z34⟩, st34⟩ := X33.virtualBack hx (y := (⟨"com/example/backchannel/backchannel/server/ByteQueue", "size", "()I"⟩ : MethodName)) (z := (⟨"com/example/backchannel/backchannel/server/ByteQueue", "size", "()I"⟩ : MethodName)) hown (mvT hZ (own_w hw 51 rfl)) (mvT hZ (own_w hw 26 rfl)) (notFace_of_selects (args := #[]) (mvT hZ (own_w hw 28 rfl))) (mvT hZ (own_w hw 28 rfl)) (mvT hZ (own_w hw 27 rfl)) (by decide) (backOf (W := 0) (own_rm5 l Z a0 hw [] b9 (((0 : Int32) - (0 : Int32)) + (2 : Int32)) (0 : Int32) T33.heap n0 Z33 Fc33_0_1 Fc33_0_2) hZ (own_w hw 29 rfl) (own_w hw 3 rfl) (by decide) (by decide)) q34a q34c (g := (mkF m 129 #[.val (.int ip0), .val (.int ip1), .val (.int ip2), .val (.int ip3), .val (.ref b2), .val (.ref b6), .val (.ref b9), .val (.int (0 : Int32)), .val (.int (1 : Int32)), .unset] [(.ref b9)])) rfl (by rw [hml]; rfl) (Steps.refl _) (argsL := []) (rest := []) (lenOf own_pd1 rfl) rfl (by show 2 * 0 + _ ≤ _; exact Nat.le_of_eq rfl) (hb hby at_129) (fun _ _ => ⟨rfl, rfl, (by decide : 5 + 0 ≤ _), (by decide : 1032 + 0 ≤ _)⟩)
                    dsimp only [Pt.U, Pt.locs, Pt.cells, Pt.slots] at X34 l34 y34 z34 st34 hQ34
                    subst l34 y34 z34
                    obtain ⟨N34q, e34, hL34⟩ := hQ34
                    have N34 := Fr.app N33 N34q
                    rcases hL34 with ⟨rfl, -⟩
                    · skip
                      refine own_st (fun t k => st34.trans k) ?_
                      show own_Go _ _ _ _ T34 (mkF m 132 #[.val (.int ip0), .val (.int ip1), .val (.int ip2), .val (.int ip3), .val (.ref b2), .val (.ref b6), .val (.ref b9), .val (.int (0 : Int32)), .val (.int (1 : Int32)), .unset] [(.int ((((0 : Int32) - (0 : Int32)) + (2 : Int32)) - (0 : Int32)))])
                      refine own_st (fun t k => XS.iconst X34.here hx rfl (hb hby at_132) k) ?_
                      show own_Go _ _ _ _ T34 (mkF m 133 #[.val (.int ip0), .val (.int ip1), .val (.int ip2), .val (.int ip3), .val (.ref b2), .val (.ref b6), .val (.ref b9), .val (.int (0 : Int32)), .val (.int (1 : Int32)), .unset] [(.int (2 : Int32)), (.int ((((0 : Int32) - (0 : Int32)) + (2 : Int32)) - (0 : Int32)))])
                      refine own_st (fun t k => XS.icmpNo X34.here hx rfl (hb hby at_133) rfl (teq (by decide : ((((0 : Int32) - (0 : Int32)) + (2 : Int32)) - (0 : Int32)) = (2 : Int32))).2 k) ?_
                      show own_Go _ _ _ _ T34 (mkF m 136 #[.val (.int ip0), .val (.int ip1), .val (.int ip2), .val (.int ip3), .val (.ref b2), .val (.ref b6), .val (.ref b9), .val (.int (0 : Int32)), .val (.int (1 : Int32)), .unset] [])
                      refine own_st (fun t k => XS.aload X34.here hx rfl (hb hby at_136) rfl rfl k) ?_
                      show own_Go _ _ _ _ T34 (mkF m 138 #[.val (.int ip0), .val (.int ip1), .val (.int ip2), .val (.int ip3), .val (.ref b2), .val (.ref b6), .val (.ref b9), .val (.int (0 : Int32)), .val (.int (1 : Int32)), .unset] [(.ref b9)])
                      refine own_st (fun t k => XS.iconst X34.here hx rfl (hb hby at_138) k) ?_
                      show own_Go _ _ _ _ T34 (mkF m 139 #[.val (.int ip0), .val (.int ip1), .val (.int ip2), .val (.int ip3), .val (.ref b2), .val (.ref b6), .val (.ref b9), .val (.int (0 : Int32)), .val (.int (1 : Int32)), .unset] [(.int (0 : Int32)), (.ref b9)])
                      obtain ⟨cq36, kq36, q36a, q36b, q36c⟩ := isOf hZ e34 f35
                      obtain ⟨_, _, ⟨T36, L36, k36, n36⟩, -, X36, ⟨Lc36, hQ36, l36, y36, z36⟩, st36⟩ := X34.virtualBack hx (y := (⟨"com/example/backchannel/backchannel/server/ByteQueue", "at", "(I)B"⟩ : MethodName)) (z := (⟨"com/example/backchannel/backchannel/server/ByteQueue", "at", "(I)B"⟩ : MethodName)) hown (mvT hZ (own_w hw 57 rfl)) (mvT hZ (own_w hw 58 rfl)) (notFace_of_selects (args := #[]) (mvT hZ (own_w hw 60 rfl))) (mvT hZ (own_w hw 60 rfl)) (mvT hZ (own_w hw 59 rfl)) (by decide) (backOf (W := 0) (own_rm10_19 l Z a0 hw [] b9 b8x4_18c1c33 k8x4_18c1c33 ip2 ip3 T33.heap n0 Z33 Fc33_0_1 Fc33_0_2 f35 Fc33_0_0 Fc33_0_3) hZ (own_w hw 61 rfl) (own_w hw 3 rfl) (by decide) (by decide)) q36a q36c (g := (mkF m 139 #[.val (.int ip0), .val (.int ip1), .val (.int ip2), .val (.int ip3), .val (.ref b2), .val (.ref b6), .val (.ref b9), .val (.int (0 : Int32)), .val (.int (1 : Int32)), .unset] [(.int (0 : Int32)), (.ref b9)])) rfl (by rw [hml]; rfl) (Steps.refl _) (argsL := [(.int (0 : Int32))]) (rest := []) (lenOf own_pd6 rfl) rfl (by show 2 * 0 + _ ≤ _; exact Nat.le_of_eq rfl) (hb hby at_139) (fun _ _ => ⟨rfl, e34, (by decide : 5 + 0 ≤ _), (by decide : 1032 + 0 ≤ _)⟩)
                      dsimp only [Pt.U, Pt.locs, Pt.cells, Pt.slots] at X36 l36 y36 z36 st36 hQ36
                      subst l36 y36 z36
                      obtain ⟨N36q, Kq36, hL36⟩ := hQ36
                      have N36 := Fr.app N34 N36q
                      have K36 : Keep h0 T36.heap [] := K33.trans Kq36 all0
                      have Z36 := Nat.le_trans Z33 Kq36.1
                      rcases hL36 with ⟨rfl, -⟩
                      · skip
                        refine own_st (fun t k => st36.trans k) ?_
                        show own_Go _ _ _ _ T36 (mkF m 142 #[.val (.int ip0), .val (.int ip1), .val (.int ip2), .val (.int ip3), .val (.ref b2), .val (.ref b6), .val (.ref b9), .val (.int (0 : Int32)), .val (.int (1 : Int32)), .unset] [(.int (nar .byte (nar .byte (ip2.toInt8.toInt32))))])
                        refine own_st (fun t k => XS.iloadN X36.here hx rfl (hb hby at_142) rfl k) ?_
                        show own_Go _ _ _ _ T36 (mkF m 143 #[.val (.int ip0), .val (.int ip1), .val (.int ip2), .val (.int ip3), .val (.ref b2), .val (.ref b6), .val (.ref b9), .val (.int (0 : Int32)), .val (.int (1 : Int32)), .unset] [(.int ip2), (.int (nar .byte (nar .byte (ip2.toInt8.toInt32))))])
                        refine own_st (fun t k => XS.i2b X36.here hx rfl (hb hby at_143) rfl k) ?_
                        show own_Go _ _ _ _ T36 (mkF m 144 #[.val (.int ip0), .val (.int ip1), .val (.int ip2), .val (.int ip3), .val (.ref b2), .val (.ref b6), .val (.ref b9), .val (.int (0 : Int32)), .val (.int (1 : Int32)), .unset] [(.int (ip2.toInt8.toInt32)), (.int (nar .byte (nar .byte (ip2.toInt8.toInt32))))])
                        refine own_st (fun t k => XS.icmpNo X36.here hx rfl (hb hby at_144) rfl (teq (by simp only [own_nb] : (nar .byte (nar .byte (ip2.toInt8.toInt32))) = (ip2.toInt8.toInt32))).2 k) ?_
                        show own_Go _ _ _ _ T36 (mkF m 147 #[.val (.int ip0), .val (.int ip1), .val (.int ip2), .val (.int ip3), .val (.ref b2), .val (.ref b6), .val (.ref b9), .val (.int (0 : Int32)), .val (.int (1 : Int32)), .unset] [])
                        refine own_st (fun t k => XS.aload X36.here hx rfl (hb hby at_147) rfl rfl k) ?_
                        show own_Go _ _ _ _ T36 (mkF m 149 #[.val (.int ip0), .val (.int ip1), .val (.int ip2), .val (.int ip3), .val (.ref b2), .val (.ref b6), .val (.ref b9), .val (.int (0 : Int32)), .val (.int (1 : Int32)), .unset] [(.ref b9)])
                        refine own_st (fun t k => XS.iconst X36.here hx rfl (hb hby at_149) k) ?_
                        show own_Go _ _ _ _ T36 (mkF m 150 #[.val (.int ip0), .val (.int ip1), .val (.int ip2), .val (.int ip3), .val (.ref b2), .val (.ref b6), .val (.ref b9), .val (.int (0 : Int32)), .val (.int (1 : Int32)), .unset] [(.int (1 : Int32)), (.ref b9)])
                        have f37 := (Fc33_0_1.keep Kq36 nin0)
                        have f38 := (Fc33_0_2.keep Kq36 nin0)
                        have f39 := (f35.keep Kq36)
                        have f40 := (Fc33_0_0.keep Kq36 nin0)
                        have f41 := (Fc33_0_3.keep Kq36 nin0)
                        obtain ⟨cq42, kq42, q42a, q42b, q42c⟩ := isOf hZ rfl f39
                        obtain ⟨_, _, ⟨T42, L42, k42, n42⟩, -, X42, ⟨Lc42, hQ42, l42, y42, z42⟩, st42⟩ := X36.virtualBack hx (y := (⟨"com/example/backchannel/backchannel/server/ByteQueue", "at", "(I)B"⟩ : MethodName)) (z := (⟨"com/example/backchannel/backchannel/server/ByteQueue", "at", "(I)B"⟩ : MethodName)) hown (mvT hZ (own_w hw 57 rfl)) (mvT hZ (own_w hw 58 rfl)) (notFace_of_selects (args := #[]) (mvT hZ (own_w hw 60 rfl))) (mvT hZ (own_w hw 60 rfl)) (mvT hZ (own_w hw 59 rfl)) (by decide) (backOf (W := 0) (own_rm10_20 l Z a0 hw [] b9 b8x4_18c1c33 k8x4_18c1c33 ip2 ip3 T36.heap n0 Z36 f37 f38 f39 f40 f41) hZ (own_w hw 61 rfl) (own_w hw 3 rfl) (by decide) (by decide)) q42a q42c (g := (mkF m 150 #[.val (.int ip0), .val (.int ip1), .val (.int ip2), .val (.int ip3), .val (.ref b2), .val (.ref b6), .val (.ref b9), .val (.int (0 : Int32)), .val (.int (1 : Int32)), .unset] [(.int (1 : Int32)), (.ref b9)])) rfl (by rw [hml]; rfl) (Steps.refl _) (argsL := [(.int (1 : Int32))]) (rest := []) (lenOf own_pd6 rfl) rfl (by show 2 * 0 + _ ≤ _; exact Nat.le_of_eq rfl) (hb hby at_150) (fun _ _ => ⟨rfl, rfl, (by decide : 5 + 0 ≤ _), (by decide : 1032 + 0 ≤ _)⟩)
                        dsimp only [Pt.U, Pt.locs, Pt.cells, Pt.slots] at X42 l42 y42 z42 st42 hQ42
                        subst l42 y42 z42
                        obtain ⟨N42q, Kq42, hL42⟩ := hQ42
                        have N42 := Fr.app N36 N42q
                        have K42 : Keep h0 T42.heap [] := K36.trans Kq42 all0
                        have Z42 := Nat.le_trans Z36 Kq42.1
                        rcases hL42 with ⟨rfl, -⟩
                        · skip
                          refine own_st (fun t k => st42.trans k) ?_
                          show own_Go _ _ _ _ T42 (mkF m 153 #[.val (.int ip0), .val (.int ip1), .val (.int ip2), .val (.int ip3), .val (.ref b2), .val (.ref b6), .val (.ref b9), .val (.int (0 : Int32)), .val (.int (1 : Int32)), .unset] [(.int (nar .byte (nar .byte (ip3.toInt8.toInt32))))])
                          refine own_st (fun t k => XS.iloadN X42.here hx rfl (hb hby at_153) rfl k) ?_
                          show own_Go _ _ _ _ T42 (mkF m 154 #[.val (.int ip0), .val (.int ip1), .val (.int ip2), .val (.int ip3), .val (.ref b2), .val (.ref b6), .val (.ref b9), .val (.int (0 : Int32)), .val (.int (1 : Int32)), .unset] [(.int ip3), (.int (nar .byte (nar .byte (ip3.toInt8.toInt32))))])
                          refine own_st (fun t k => XS.i2b X42.here hx rfl (hb hby at_154) rfl k) ?_
                          show own_Go _ _ _ _ T42 (mkF m 155 #[.val (.int ip0), .val (.int ip1), .val (.int ip2), .val (.int ip3), .val (.ref b2), .val (.ref b6), .val (.ref b9), .val (.int (0 : Int32)), .val (.int (1 : Int32)), .unset] [(.int (ip3.toInt8.toInt32)), (.int (nar .byte (nar .byte (ip3.toInt8.toInt32))))])
                          refine own_st (fun t k => XS.icmpNo X42.here hx rfl (hb hby at_155) rfl (teq (by simp only [own_nb] : (nar .byte (nar .byte (ip3.toInt8.toInt32))) = (ip3.toInt8.toInt32))).2 k) ?_
                          show own_Go _ _ _ _ T42 (mkF m 158 #[.val (.int ip0), .val (.int ip1), .val (.int ip2), .val (.int ip3), .val (.ref b2), .val (.ref b6), .val (.ref b9), .val (.int (0 : Int32)), .val (.int (1 : Int32)), .unset] [])
                          refine own_st (fun t k => XS.iconst X42.here hx rfl (hb hby at_158) k) ?_
                          show own_Go _ _ _ _ T42 (mkF m 159 #[.val (.int ip0), .val (.int ip1), .val (.int ip2), .val (.int ip3), .val (.ref b2), .val (.ref b6), .val (.ref b9), .val (.int (0 : Int32)), .val (.int (1 : Int32)), .unset] [(.int (1 : Int32))])
                          refine own_st (fun t k => XS.goto X42.here hx rfl (pc0 := 159) (pc' := 163) rfl (hb hby at_159) (by decide) (by decide) k) ?_
                          show own_Go _ _ _ _ T42 (mkF m 163 #[.val (.int ip0), .val (.int ip1), .val (.int ip2), .val (.int ip3), .val (.ref b2), .val (.ref b6), .val (.ref b9), .val (.int (0 : Int32)), .val (.int (1 : Int32)), .unset] [(.int (1 : Int32))])
                          refine own_st (fun t k => XS.istore X42.here hx rfl (hb hby at_163) rfl (l' := #[.val (.int ip0), .val (.int ip1), .val (.int ip2), .val (.int ip3), .val (.ref b2), .val (.ref b6), .val (.ref b9), .val (.int (0 : Int32)), .val (.int (1 : Int32)), .val (.int (1 : Int32))]) rfl k) ?_
                          show own_Go _ _ _ _ T42 (mkF m 165 #[.val (.int ip0), .val (.int ip1), .val (.int ip2), .val (.int ip3), .val (.ref b2), .val (.ref b6), .val (.ref b9), .val (.int (0 : Int32)), .val (.int (1 : Int32)), .val (.int (1 : Int32))] [])
                          refine own_st (fun t k => XS.iload X42.here hx rfl (hb hby at_165) rfl k) ?_
                          show own_Go _ _ _ _ T42 (mkF m 167 #[.val (.int ip0), .val (.int ip1), .val (.int ip2), .val (.int ip3), .val (.ref b2), .val (.ref b6), .val (.ref b9), .val (.int (0 : Int32)), .val (.int (1 : Int32)), .val (.int (1 : Int32))] [(.int (1 : Int32))])
                          refine own_st (fun t k => XS.ifNo X42.here hx rfl (hb hby at_167) rfl ((if0 _ _).trans (feq (by decide : ¬ ((1 : Int32) = (0 : Int32)))).1) k) ?_
                          show own_Go _ _ _ _ T42 (mkF m 170 #[.val (.int ip0), .val (.int ip1), .val (.int ip2), .val (.int ip3), .val (.ref b2), .val (.ref b6), .val (.ref b9), .val (.int (0 : Int32)), .val (.int (1 : Int32)), .val (.int (1 : Int32))] [])
                          refine own_st (fun t k => XS.iload X42.here hx rfl (hb hby at_170) rfl k) ?_
                          show own_Go _ _ _ _ T42 (mkF m 172 #[.val (.int ip0), .val (.int ip1), .val (.int ip2), .val (.int ip3), .val (.ref b2), .val (.ref b6), .val (.ref b9), .val (.int (0 : Int32)), .val (.int (1 : Int32)), .val (.int (1 : Int32))] [(.int (1 : Int32))])
                          refine own_st (fun t k => XS.ifNo X42.here hx rfl (hb hby at_172) rfl ((if0 _ _).trans (feq (by decide : ¬ ((1 : Int32) = (0 : Int32)))).1) k) ?_
                          show own_Go _ _ _ _ T42 (mkF m 175 #[.val (.int ip0), .val (.int ip1), .val (.int ip2), .val (.int ip3), .val (.ref b2), .val (.ref b6), .val (.ref b9), .val (.int (0 : Int32)), .val (.int (1 : Int32)), .val (.int (1 : Int32))] [])
                          refine own_st (fun t k => XS.iconst X42.here hx rfl (hb hby at_175) k) ?_
                          show own_Go _ _ _ _ T42 (mkF m 176 #[.val (.int ip0), .val (.int ip1), .val (.int ip2), .val (.int ip3), .val (.ref b2), .val (.ref b6), .val (.ref b9), .val (.int (0 : Int32)), .val (.int (1 : Int32)), .val (.int (1 : Int32))] [(.int (1 : Int32))])
                          refine own_st (fun t k => XS.goto X42.here hx rfl (pc0 := 176) (pc' := 180) rfl (hb hby at_176) (by decide) (by decide) k) ?_
                          show own_Go _ _ _ _ T42 (mkF m 180 #[.val (.int ip0), .val (.int ip1), .val (.int ip2), .val (.int ip3), .val (.ref b2), .val (.ref b6), .val (.ref b9), .val (.int (0 : Int32)), .val (.int (1 : Int32)), .val (.int (1 : Int32))] [(.int (1 : Int32))])
                          exact own_retZ X42 hx hlk (t := .boolean) hret (by simp) (hb hby at_180) (by decide) (by decide) rfl ⟨rfl, N42⟩
                · skip
                  exact absurd (by decide : (0 : Int32) = (0 : Int32)) hq28_1_0
        · rw [qr20]
          show own_Go _ _ _ _ T18 (mkF m 83 #[.val (.int ip0), .val (.int ip1), .val (.int ip2), .val (.int ip3), .val (.ref b2), .val (.ref b6), .val (.ref b9), .unset, .unset, .unset] [(.int (1 : Int32))])
          refine own_st (fun t k => XS.istore X18.here hx rfl (hb hby at_83) rfl (l' := #[.val (.int ip0), .val (.int ip1), .val (.int ip2), .val (.int ip3), .val (.ref b2), .val (.ref b6), .val (.ref b9), .val (.int (1 : Int32)), .unset, .unset]) rfl k) ?_
          show own_Go _ _ _ _ T18 (mkF m 85 #[.val (.int ip0), .val (.int ip1), .val (.int ip2), .val (.int ip3), .val (.ref b2), .val (.ref b6), .val (.ref b9), .val (.int (1 : Int32)), .unset, .unset] [])
          refine own_st (fun t k => XS.aload X18.here hx rfl (hb hby at_85) rfl rfl k) ?_
          show own_Go _ _ _ _ T18 (mkF m 87 #[.val (.int ip0), .val (.int ip1), .val (.int ip2), .val (.int ip3), .val (.ref b2), .val (.ref b6), .val (.ref b9), .val (.int (1 : Int32)), .unset, .unset] [(.ref b9)])
          refine own_st (fun t k => XS.iload X18.here hx rfl (hb hby at_87) rfl k) ?_
          show own_Go _ _ _ _ T18 (mkF m 89 #[.val (.int ip0), .val (.int ip1), .val (.int ip2), .val (.int ip3), .val (.ref b2), .val (.ref b6), .val (.ref b9), .val (.int (1 : Int32)), .unset, .unset] [(.int (1 : Int32)), (.ref b9)])
          have f43 := (f16.keep Kq18)
          obtain ⟨cq44, kq44, q44a, q44b, q44c⟩ := isOf hZ rfl f43
          obtain ⟨_, _, ⟨T44, L44, k44, n44⟩, -, X44, ⟨Lc44, hQ44, l44, y44, z44⟩, st44⟩ := X18.virtualBack hx (y := (⟨"com/example/backchannel/backchannel/server/ByteQueue", "remove", "(I)V"⟩ : MethodName)) (z := (⟨"com/example/backchannel/backchannel/server/ByteQueue", "remove", "(I)V"⟩ : MethodName)) hown (mvT hZ (own_w hw 40 rfl)) (mvT hZ (own_w hw 41 rfl)) (notFace_of_selects (args := #[]) (mvT hZ (own_w hw 43 rfl))) (mvT hZ (own_w hw 43 rfl)) (mvT hZ (own_w hw 42 rfl)) (by decide) (backOf (W := 0) (own_rm7_22 l Z a0 hw [] b9 b8x4_8c1c18 T18.heap n0 Z18 Fc18_0_1 Fc18_0_2 f43 g_b9 Fc18_0_0) hZ (own_w hw 44 rfl) (own_w hw 3 rfl) (by decide) (by decide)) q44a q44c (g := (mkF m 89 #[.val (.int ip0), .val (.int ip1), .val (.int ip2), .val (.int ip3), .val (.ref b2), .val (.ref b6), .val (.ref b9), .val (.int (1 : Int32)), .unset, .unset] [(.int (1 : Int32)), (.ref b9)])) rfl (by rw [hml]; rfl) (Steps.refl _) (argsL := [(.int (1 : Int32))]) (rest := []) (lenOf own_pd3 rfl) rfl (by show 2 * 0 + _ ≤ _; exact Nat.le_of_eq rfl) (hb hby at_89) (fun _ _ => ⟨rfl, rfl, (by decide : 4 + 0 ≤ _), (by decide : 520 + 0 ≤ _)⟩)
          dsimp only [Pt.U, Pt.locs, Pt.cells, Pt.slots] at X44 l44 y44 z44 st44 hQ44
          subst l44 y44 z44
          obtain ⟨N44q, Kq44, hL44⟩ := hQ44
          have N44 := Fr.app N18 N44q
          have K44 : Keep h0 T44.heap [] := K18.trans Kq44 (allS (Or.inr sz_b9) all0)
          have Z44 := Nat.le_trans Z18 Kq44.1
          rcases hL44 with ⟨rfl, Fc44_0_0, Fc44_0_1, Fc44_0_2, -⟩
          · skip
            refine own_st (fun t k => st44.trans k) ?_
            show own_Go _ _ _ _ T44 (mkF m 92 #[.val (.int ip0), .val (.int ip1), .val (.int ip2), .val (.int ip3), .val (.ref b2), .val (.ref b6), .val (.ref b9), .val (.int (1 : Int32)), .unset, .unset] [])
            refine own_st (fun t k => XS.aload X44.here hx rfl (hb hby at_92) rfl rfl k) ?_
            show own_Go _ _ _ _ T44 (mkF m 94 #[.val (.int ip0), .val (.int ip1), .val (.int ip2), .val (.int ip3), .val (.ref b2), .val (.ref b6), .val (.ref b9), .val (.int (1 : Int32)), .unset, .unset] [(.ref b9)])
            have f45 := (own_stak S_NONE K44 all0)
            have f46 := (f43.keep Kq44)
            obtain ⟨cq47, kq47, q47a, q47b, q47c⟩ := isOf hZ rfl f46
            obtain ⟨_, _, ⟨T47, L47, k47, n47⟩, -, X47, ⟨Lc47, hQ47, l47, y47, z47⟩, st47⟩ := X44.virtualBack hx (y := (⟨"com/example/backchannel/backchannel/server/ByteQueue", "clear", "()V"⟩ : MethodName)) (z := (⟨"com/example/backchannel/backchannel/server/ByteQueue", "clear", "()V"⟩ : MethodName)) hown (mvT hZ (own_w hw 50 rfl)) (mvT hZ (own_w hw 46 rfl)) (notFace_of_selects (args := #[]) (mvT hZ (own_w hw 48 rfl))) (mvT hZ (own_w hw 48 rfl)) (mvT hZ (own_w hw 47 rfl)) (by decide) (backOf (W := 0) (own_rm8_24 l Z a0 hw [] b9 w_NONE b8x4_8c1c18 T44.heap n0 Z44 f45 f46 Fc44_0_2 g_b9 Fc44_0_1 Fc44_0_0) hZ (own_w hw 49 rfl) (own_w hw 3 rfl) (by decide) (by decide)) q47a q47c (g := (mkF m 94 #[.val (.int ip0), .val (.int ip1), .val (.int ip2), .val (.int ip3), .val (.ref b2), .val (.ref b6), .val (.ref b9), .val (.int (1 : Int32)), .unset, .unset] [(.ref b9)])) rfl (by rw [hml]; rfl) (Steps.refl _) (argsL := []) (rest := []) (lenOf own_pd0 rfl) rfl (by show 2 * 0 + _ ≤ _; exact Nat.le_of_eq rfl) (hb hby at_94) (fun _ _ => ⟨rfl, rfl, (by decide : 4 + 0 ≤ _), (by decide : 520 + 0 ≤ _)⟩)
            dsimp only [Pt.U, Pt.locs, Pt.cells, Pt.slots] at X47 l47 y47 z47 st47 hQ47
            subst l47 y47 z47
            obtain ⟨N47q, Kq47, hL47⟩ := hQ47
            have N47 := Fr.app N44 N47q
            have K47 : Keep h0 T47.heap [] := K44.trans Kq47 (allS (Or.inr sz_b9) all0)
            have Z47 := Nat.le_trans Z44 Kq47.1
            rcases hL47 with ⟨rfl, Fc47_0_0, Fc47_0_1, Fc47_0_2, -⟩
            · skip
              refine own_st (fun t k => st47.trans k) ?_
              show own_Go _ _ _ _ T47 (mkF m 97 #[.val (.int ip0), .val (.int ip1), .val (.int ip2), .val (.int ip3), .val (.ref b2), .val (.ref b6), .val (.ref b9), .val (.int (1 : Int32)), .unset, .unset] [])
              refine own_st (fun t k => XS.aload X47.here hx rfl (hb hby at_97) rfl rfl k) ?_
              show own_Go _ _ _ _ T47 (mkF m 99 #[.val (.int ip0), .val (.int ip1), .val (.int ip2), .val (.int ip3), .val (.ref b2), .val (.ref b6), .val (.ref b9), .val (.int (1 : Int32)), .unset, .unset] [(.ref b9)])
              have f49 := (f46.keep Kq47)
              obtain ⟨cq48, kq48, q48a, q48b, q48c⟩ := isOf hZ rfl f49
              obtain ⟨_, _, ⟨T48, L48, k48, n48⟩, -, X48, ⟨Lc48, hQ48, l48, y48, z48⟩, st48⟩ := X47.virtualBack hx (y := (⟨"com/example/backchannel/backchannel/server/ByteQueue", "size", "()I"⟩ : MethodName)) (z := (⟨"com/example/backchannel/backchannel/server/ByteQueue", "size", "()I"⟩ : MethodName)) hown (mvT hZ (own_w hw 51 rfl)) (mvT hZ (own_w hw 26 rfl)) (notFace_of_selects (args := #[]) (mvT hZ (own_w hw 28 rfl))) (mvT hZ (own_w hw 28 rfl)) (mvT hZ (own_w hw 27 rfl)) (by decide) (backOf (W := 0) (own_rm5 l Z a0 hw [] b9 (0 : Int32) (0 : Int32) T47.heap n0 Z47 Fc47_0_2 Fc47_0_1) hZ (own_w hw 29 rfl) (own_w hw 3 rfl) (by decide) (by decide)) q48a q48c (g := (mkF m 99 #[.val (.int ip0), .val (.int ip1), .val (.int ip2), .val (.int ip3), .val (.ref b2), .val (.ref b6), .val (.ref b9), .val (.int (1 : Int32)), .unset, .unset] [(.ref b9)])) rfl (by rw [hml]; rfl) (Steps.refl _) (argsL := []) (rest := []) (lenOf own_pd1 rfl) rfl (by show 2 * 0 + _ ≤ _; exact Nat.le_of_eq rfl) (hb hby at_99) (fun _ _ => ⟨rfl, rfl, (by decide : 4 + 0 ≤ _), (by decide : 520 + 0 ≤ _)⟩)
              dsimp only [Pt.U, Pt.locs, Pt.cells, Pt.slots] at X48 l48 y48 z48 st48 hQ48
              subst l48 y48 z48
              obtain ⟨N48q, e48, hL48⟩ := hQ48
              have N48 := Fr.app N47 N48q
              rcases hL48 with ⟨rfl, -⟩
              · skip
                refine own_st (fun t k => st48.trans k) ?_
                show own_Go _ _ _ _ T48 (mkF m 102 #[.val (.int ip0), .val (.int ip1), .val (.int ip2), .val (.int ip3), .val (.ref b2), .val (.ref b6), .val (.ref b9), .val (.int (1 : Int32)), .unset, .unset] [(.int ((0 : Int32) - (0 : Int32)))])
                refine own_st (fun t k => XS.ifNo X48.here hx rfl (hb hby at_102) rfl ((if0 _ _).trans (teq (by decide : ((0 : Int32) - (0 : Int32)) = (0 : Int32))).2) k) ?_
                show own_Go _ _ _ _ T48 (mkF m 105 #[.val (.int ip0), .val (.int ip1), .val (.int ip2), .val (.int ip3), .val (.ref b2), .val (.ref b6), .val (.ref b9), .val (.int (1 : Int32)), .unset, .unset] [])
                refine own_st (fun t k => XS.aload X48.here hx rfl (hb hby at_105) rfl rfl k) ?_
                show own_Go _ _ _ _ T48 (mkF m 107 #[.val (.int ip0), .val (.int ip1), .val (.int ip2), .val (.int ip3), .val (.ref b2), .val (.ref b6), .val (.ref b9), .val (.int (1 : Int32)), .unset, .unset] [(.ref b9)])
                obtain ⟨cq50, kq50, q50a, q50b, q50c⟩ := isOf hZ e48 f49
                obtain ⟨_, _, ⟨T50, L50, k50, n50⟩, -, X50, ⟨Lc50, hQ50, l50, y50, z50⟩, st50⟩ := X48.virtualBack hx (y := (⟨"com/example/backchannel/backchannel/server/ByteQueue", "isEmpty", "()Z"⟩ : MethodName)) (z := (⟨"com/example/backchannel/backchannel/server/ByteQueue", "isEmpty", "()Z"⟩ : MethodName)) hown (mvT hZ (own_w hw 52 rfl)) (mvT hZ (own_w hw 53 rfl)) (notFace_of_selects (args := #[]) (mvT hZ (own_w hw 55 rfl))) (mvT hZ (own_w hw 55 rfl)) (mvT hZ (own_w hw 54 rfl)) (by decide) (backOf (W := 0) (own_rm9 l Z a0 hw [] b9 (0 : Int32) (0 : Int32) T47.heap n0 Z47 Fc47_0_2 Fc47_0_1) hZ (own_w hw 56 rfl) (own_w hw 3 rfl) (by decide) (by decide)) q50a q50c (g := (mkF m 107 #[.val (.int ip0), .val (.int ip1), .val (.int ip2), .val (.int ip3), .val (.ref b2), .val (.ref b6), .val (.ref b9), .val (.int (1 : Int32)), .unset, .unset] [(.ref b9)])) rfl (by rw [hml]; rfl) (Steps.refl _) (argsL := []) (rest := []) (lenOf own_pd5 rfl) rfl (by show 2 * 0 + _ ≤ _; exact Nat.le_of_eq rfl) (hb hby at_107) (fun _ _ => ⟨rfl, e48, (by decide : 4 + 0 ≤ _), (by decide : 520 + 0 ≤ _)⟩)
                dsimp only [Pt.U, Pt.locs, Pt.cells, Pt.slots] at X50 l50 y50 z50 st50 hQ50
                subst l50 y50 z50
                obtain ⟨N50q, e50, hL50⟩ := hQ50
                have N50 := Fr.app N48 N50q
                rcases hL50 with ⟨rfl, hq50_0_0, -⟩ | ⟨rfl, hq50_1_0, -⟩
                · skip
                  refine own_st (fun t k => st50.trans k) ?_
                  show own_Go _ _ _ _ T50 (mkF m 110 #[.val (.int ip0), .val (.int ip1), .val (.int ip2), .val (.int ip3), .val (.ref b2), .val (.ref b6), .val (.ref b9), .val (.int (1 : Int32)), .unset, .unset] [(.int (1 : Int32))])
                  refine own_st (fun t k => XS.ifNo X50.here hx rfl (hb hby at_110) rfl ((if0 _ _).trans (feq (by decide : ¬ ((1 : Int32) = (0 : Int32)))).1) k) ?_
                  show own_Go _ _ _ _ T50 (mkF m 113 #[.val (.int ip0), .val (.int ip1), .val (.int ip2), .val (.int ip3), .val (.ref b2), .val (.ref b6), .val (.ref b9), .val (.int (1 : Int32)), .unset, .unset] [])
                  refine own_st (fun t k => XS.iconst X50.here hx rfl (hb hby at_113) k) ?_
                  show own_Go _ _ _ _ T50 (mkF m 114 #[.val (.int ip0), .val (.int ip1), .val (.int ip2), .val (.int ip3), .val (.ref b2), .val (.ref b6), .val (.ref b9), .val (.int (1 : Int32)), .unset, .unset] [(.int (1 : Int32))])
                  refine own_st (fun t k => XS.goto X50.here hx rfl (pc0 := 114) (pc' := 118) rfl (hb hby at_114) (by decide) (by decide) k) ?_
                  show own_Go _ _ _ _ T50 (mkF m 118 #[.val (.int ip0), .val (.int ip1), .val (.int ip2), .val (.int ip3), .val (.ref b2), .val (.ref b6), .val (.ref b9), .val (.int (1 : Int32)), .unset, .unset] [(.int (1 : Int32))])
                  refine own_st (fun t k => XS.istore X50.here hx rfl (hb hby at_118) rfl (l' := #[.val (.int ip0), .val (.int ip1), .val (.int ip2), .val (.int ip3), .val (.ref b2), .val (.ref b6), .val (.ref b9), .val (.int (1 : Int32)), .val (.int (1 : Int32)), .unset]) rfl k) ?_
                  show own_Go _ _ _ _ T50 (mkF m 120 #[.val (.int ip0), .val (.int ip1), .val (.int ip2), .val (.int ip3), .val (.ref b2), .val (.ref b6), .val (.ref b9), .val (.int (1 : Int32)), .val (.int (1 : Int32)), .unset] [])
                  refine own_st (fun t k => XS.aload X50.here hx rfl (hb hby at_120) rfl rfl k) ?_
                  show own_Go _ _ _ _ T50 (mkF m 122 #[.val (.int ip0), .val (.int ip1), .val (.int ip2), .val (.int ip3), .val (.ref b2), .val (.ref b6), .val (.ref b9), .val (.int (1 : Int32)), .val (.int (1 : Int32)), .unset] [(.ref b9)])
                  refine own_st (fun t k => XS.aload X50.here hx rfl (hb hby at_122) rfl rfl k) ?_
                  show own_Go _ _ _ _ T50 (mkF m 124 #[.val (.int ip0), .val (.int ip1), .val (.int ip2), .val (.int ip3), .val (.ref b2), .val (.ref b6), .val (.ref b9), .val (.int (1 : Int32)), .val (.int (1 : Int32)), .unset] [(.ref b6), (.ref b9)])
                  have ne51 : b6 ≠ b9 := Nat.ne_of_lt (Nat.lt_of_lt_of_le V8.lt (Nat.le_of_eq g9.symm))
                  have f52 := (((((V8.ext E9).keep Kq11 (ninS ne51 nin0)).keep Kq18 (ninS ne51 nin0)).keep Kq44 (ninS ne51 nin0)).keep Kq47 (ninS ne51 nin0))
                  have f53 := (V_w_NONE.keep K47 nin0)
                  have f54 := (((((((Ex6.wr W7).wr W8).ext E9).keep Kq11).keep Kq18).keep Kq44).keep Kq47)
                  obtain ⟨cq55, kq55, q55a, q55b, q55c⟩ := isOf hZ e50 f49
                  obtain ⟨_, _, ⟨T55, L55, k55, n55⟩, -, X55, ⟨Lc55, hQ55, l55, y55, z55⟩, st55⟩ := X50.virtualBack hx (y := (⟨"com/example/backchannel/backchannel/server/ByteQueue", "append", "([B)V"⟩ : MethodName)) (z := (⟨"com/example/backchannel/backchannel/server/ByteQueue", "append", "([B)V"⟩ : MethodName)) hown (mvT hZ (own_w hw 14 rfl)) (mvT hZ (own_w hw 15 rfl)) (notFace_of_selects (args := #[]) (mvT hZ (own_w hw 17 rfl))) (mvT hZ (own_w hw 17 rfl)) (mvT hZ (own_w hw 16 rfl)) (by decide) (backOf (W := 0) (own_rm3_16 l Z a0 hw [] b9 b6 k6 ip2 ip3 w_NONE k_w_NONE T47.heap n0 Z47 f52 Fc47_0_0 f53 Fc47_0_2 Fc47_0_1 f49 g_b9 f54) hZ (own_w hw 18 rfl) (own_w hw 3 rfl) (by decide) (by decide)) q55a q55c (g := (mkF m 124 #[.val (.int ip0), .val (.int ip1), .val (.int ip2), .val (.int ip3), .val (.ref b2), .val (.ref b6), .val (.ref b9), .val (.int (1 : Int32)), .val (.int (1 : Int32)), .unset] [(.ref b6), (.ref b9)])) rfl (by rw [hml]; rfl) (Steps.refl _) (argsL := [(.ref b6)]) (rest := []) (lenOf own_pd4 rfl) rfl (by show 2 * 0 + _ ≤ _; exact Nat.le_of_eq rfl) (hb hby at_124) (fun _ _ => ⟨rfl, e50, (by decide : 4 + 1 ≤ _), (by decide : 520 + 512 ≤ _)⟩)
                  dsimp only [Pt.U, Pt.locs, Pt.cells, Pt.slots] at X55 l55 y55 z55 st55 hQ55
                  subst l55 y55 z55
                  obtain ⟨N55q, Kq55, hL55⟩ := hQ55
                  have N55 := Fr.app N50 N55q
                  have K55 : Keep h0 T55.heap [] := K47.trans Kq55 (allS (Or.inr sz_b9) all0)
                  have Z55 := Nat.le_trans Z47 Kq55.1
                  rcases hL55 with ⟨b8x4_18c1c55, k8x4_18c1c55, rfl, hq55_0_0, sq_b8x4_18c1c55, Fc55_0_0, Fc55_0_1, Fc55_0_2, Fc55_0_3, Fc55_0_4, -⟩
                  · skip
                    have g_b8x4_18c1c55 : n0 ≤ b8x4_18c1c55 := Nat.le_trans Z47 sq_b8x4_18c1c55
                    have sz_b8x4_18c1c55 : h0.size ≤ b8x4_18c1c55 := Nat.le_trans K47.1 sq_b8x4_18c1c55
                    refine own_st (fun t k => st55.trans k) ?_
                    show own_Go _ _ _ _ T55 (mkF m 127 #[.val (.int ip0), .val (.int ip1), .val (.int ip2), .val (.int ip3), .val (.ref b2), .val (.ref b6), .val (.ref b9), .val (.int (1 : Int32)), .val (.int (1 : Int32)), .unset] [])
                    refine own_st (fun t k => XS.aload X55.here hx rfl (hb hby at_127) rfl rfl k) ?_
                    show own_Go _ _ _ _ T55 (mkF m 129 #[.val (.int ip0), .val (.int ip1), .val (.int ip2), .val (.int ip3), .val (.ref b2), .val (.ref b6), .val (.ref b9), .val (.int (1 : Int32)), .val (.int (1 : Int32)), .unset] [(.ref b9)])
                    have f57 := (f49.keep Kq55)
                    obtain ⟨cq56, kq56, q56a, q56b, q56c⟩ := isOf hZ rfl f57
                    obtain ⟨_, _, ⟨T56, L56, k56, n56⟩, -, X56, ⟨Lc56, hQ56, l56, y56, z56⟩, st56⟩ := X55.virtualBack hx (y := (⟨"com/example/backchannel/backchannel/server/ByteQueue", "size", "()I"⟩ : MethodName)) (z := (⟨"com/example/backchannel/backchannel/server/ByteQueue", "size", "()I"⟩ : MethodName)) hown (mvT hZ (own_w hw 51 rfl)) (mvT hZ (own_w hw 26 rfl)) (notFace_of_selects (args := #[]) (mvT hZ (own_w hw 28 rfl))) (mvT hZ (own_w hw 28 rfl)) (mvT hZ (own_w hw 27 rfl)) (by decide) (backOf (W := 0) (own_rm5 l Z a0 hw [] b9 (((0 : Int32) - (0 : Int32)) + (2 : Int32)) (0 : Int32) T55.heap n0 Z55 Fc55_0_1 Fc55_0_2) hZ (own_w hw 29 rfl) (own_w hw 3 rfl) (by decide) (by decide)) q56a q56c (g := (mkF m 129 #[.val (.int ip0), .val (.int ip1), .val (.int ip2), .val (.int ip3), .val (.ref b2), .val (.ref b6), .val (.ref b9), .val (.int (1 : Int32)), .val (.int (1 : Int32)), .unset] [(.ref b9)])) rfl (by rw [hml]; rfl) (Steps.refl _) (argsL := []) (rest := []) (lenOf own_pd1 rfl) rfl (by show 2 * 0 + _ ≤ _; exact Nat.le_of_eq rfl) (hb hby at_129) (fun _ _ => ⟨rfl, rfl, (by decide : 5 + 0 ≤ _), (by decide : 1032 + 0 ≤ _)⟩)
                    dsimp only [Pt.U, Pt.locs, Pt.cells, Pt.slots] at X56 l56 y56 z56 st56 hQ56
                    subst l56 y56 z56
                    obtain ⟨N56q, e56, hL56⟩ := hQ56
                    have N56 := Fr.app N55 N56q
                    rcases hL56 with ⟨rfl, -⟩
                    · skip
                      refine own_st (fun t k => st56.trans k) ?_
                      show own_Go _ _ _ _ T56 (mkF m 132 #[.val (.int ip0), .val (.int ip1), .val (.int ip2), .val (.int ip3), .val (.ref b2), .val (.ref b6), .val (.ref b9), .val (.int (1 : Int32)), .val (.int (1 : Int32)), .unset] [(.int ((((0 : Int32) - (0 : Int32)) + (2 : Int32)) - (0 : Int32)))])
                      refine own_st (fun t k => XS.iconst X56.here hx rfl (hb hby at_132) k) ?_
                      show own_Go _ _ _ _ T56 (mkF m 133 #[.val (.int ip0), .val (.int ip1), .val (.int ip2), .val (.int ip3), .val (.ref b2), .val (.ref b6), .val (.ref b9), .val (.int (1 : Int32)), .val (.int (1 : Int32)), .unset] [(.int (2 : Int32)), (.int ((((0 : Int32) - (0 : Int32)) + (2 : Int32)) - (0 : Int32)))])
                      refine own_st (fun t k => XS.icmpNo X56.here hx rfl (hb hby at_133) rfl (teq (by decide : ((((0 : Int32) - (0 : Int32)) + (2 : Int32)) - (0 : Int32)) = (2 : Int32))).2 k) ?_
                      show own_Go _ _ _ _ T56 (mkF m 136 #[.val (.int ip0), .val (.int ip1), .val (.int ip2), .val (.int ip3), .val (.ref b2), .val (.ref b6), .val (.ref b9), .val (.int (1 : Int32)), .val (.int (1 : Int32)), .unset] [])
                      refine own_st (fun t k => XS.aload X56.here hx rfl (hb hby at_136) rfl rfl k) ?_
                      show own_Go _ _ _ _ T56 (mkF m 138 #[.val (.int ip0), .val (.int ip1), .val (.int ip2), .val (.int ip3), .val (.ref b2), .val (.ref b6), .val (.ref b9), .val (.int (1 : Int32)), .val (.int (1 : Int32)), .unset] [(.ref b9)])
                      refine own_st (fun t k => XS.iconst X56.here hx rfl (hb hby at_138) k) ?_
                      show own_Go _ _ _ _ T56 (mkF m 139 #[.val (.int ip0), .val (.int ip1), .val (.int ip2), .val (.int ip3), .val (.ref b2), .val (.ref b6), .val (.ref b9), .val (.int (1 : Int32)), .val (.int (1 : Int32)), .unset] [(.int (0 : Int32)), (.ref b9)])
                      obtain ⟨cq58, kq58, q58a, q58b, q58c⟩ := isOf hZ e56 f57
                      obtain ⟨_, _, ⟨T58, L58, k58, n58⟩, -, X58, ⟨Lc58, hQ58, l58, y58, z58⟩, st58⟩ := X56.virtualBack hx (y := (⟨"com/example/backchannel/backchannel/server/ByteQueue", "at", "(I)B"⟩ : MethodName)) (z := (⟨"com/example/backchannel/backchannel/server/ByteQueue", "at", "(I)B"⟩ : MethodName)) hown (mvT hZ (own_w hw 57 rfl)) (mvT hZ (own_w hw 58 rfl)) (notFace_of_selects (args := #[]) (mvT hZ (own_w hw 60 rfl))) (mvT hZ (own_w hw 60 rfl)) (mvT hZ (own_w hw 59 rfl)) (by decide) (backOf (W := 0) (own_rm10_19 l Z a0 hw [] b9 b8x4_18c1c55 k8x4_18c1c55 ip2 ip3 T55.heap n0 Z55 Fc55_0_1 Fc55_0_2 f57 Fc55_0_0 Fc55_0_3) hZ (own_w hw 61 rfl) (own_w hw 3 rfl) (by decide) (by decide)) q58a q58c (g := (mkF m 139 #[.val (.int ip0), .val (.int ip1), .val (.int ip2), .val (.int ip3), .val (.ref b2), .val (.ref b6), .val (.ref b9), .val (.int (1 : Int32)), .val (.int (1 : Int32)), .unset] [(.int (0 : Int32)), (.ref b9)])) rfl (by rw [hml]; rfl) (Steps.refl _) (argsL := [(.int (0 : Int32))]) (rest := []) (lenOf own_pd6 rfl) rfl (by show 2 * 0 + _ ≤ _; exact Nat.le_of_eq rfl) (hb hby at_139) (fun _ _ => ⟨rfl, e56, (by decide : 5 + 0 ≤ _), (by decide : 1032 + 0 ≤ _)⟩)
                      dsimp only [Pt.U, Pt.locs, Pt.cells, Pt.slots] at X58 l58 y58 z58 st58 hQ58
                      subst l58 y58 z58
                      obtain ⟨N58q, Kq58, hL58⟩ := hQ58
                      have N58 := Fr.app N56 N58q
                      have K58 : Keep h0 T58.heap [] := K55.trans Kq58 all0
                      have Z58 := Nat.le_trans Z55 Kq58.1
                      rcases hL58 with ⟨rfl, -⟩
                      · skip
                        refine own_st (fun t k => st58.trans k) ?_
                        show own_Go _ _ _ _ T58 (mkF m 142 #[.val (.int ip0), .val (.int ip1), .val (.int ip2), .val (.int ip3), .val (.ref b2), .val (.ref b6), .val (.ref b9), .val (.int (1 : Int32)), .val (.int (1 : Int32)), .unset] [(.int (nar .byte (nar .byte (ip2.toInt8.toInt32))))])
                        refine own_st (fun t k => XS.iloadN X58.here hx rfl (hb hby at_142) rfl k) ?_
                        show own_Go _ _ _ _ T58 (mkF m 143 #[.val (.int ip0), .val (.int ip1), .val (.int ip2), .val (.int ip3), .val (.ref b2), .val (.ref b6), .val (.ref b9), .val (.int (1 : Int32)), .val (.int (1 : Int32)), .unset] [(.int ip2), (.int (nar .byte (nar .byte (ip2.toInt8.toInt32))))])
                        refine own_st (fun t k => XS.i2b X58.here hx rfl (hb hby at_143) rfl k) ?_
                        show own_Go _ _ _ _ T58 (mkF m 144 #[.val (.int ip0), .val (.int ip1), .val (.int ip2), .val (.int ip3), .val (.ref b2), .val (.ref b6), .val (.ref b9), .val (.int (1 : Int32)), .val (.int (1 : Int32)), .unset] [(.int (ip2.toInt8.toInt32)), (.int (nar .byte (nar .byte (ip2.toInt8.toInt32))))])
                        refine own_st (fun t k => XS.icmpNo X58.here hx rfl (hb hby at_144) rfl (teq (by simp only [own_nb] : (nar .byte (nar .byte (ip2.toInt8.toInt32))) = (ip2.toInt8.toInt32))).2 k) ?_
                        show own_Go _ _ _ _ T58 (mkF m 147 #[.val (.int ip0), .val (.int ip1), .val (.int ip2), .val (.int ip3), .val (.ref b2), .val (.ref b6), .val (.ref b9), .val (.int (1 : Int32)), .val (.int (1 : Int32)), .unset] [])
                        refine own_st (fun t k => XS.aload X58.here hx rfl (hb hby at_147) rfl rfl k) ?_
                        show own_Go _ _ _ _ T58 (mkF m 149 #[.val (.int ip0), .val (.int ip1), .val (.int ip2), .val (.int ip3), .val (.ref b2), .val (.ref b6), .val (.ref b9), .val (.int (1 : Int32)), .val (.int (1 : Int32)), .unset] [(.ref b9)])
                        refine own_st (fun t k => XS.iconst X58.here hx rfl (hb hby at_149) k) ?_
                        show own_Go _ _ _ _ T58 (mkF m 150 #[.val (.int ip0), .val (.int ip1), .val (.int ip2), .val (.int ip3), .val (.ref b2), .val (.ref b6), .val (.ref b9), .val (.int (1 : Int32)), .val (.int (1 : Int32)), .unset] [(.int (1 : Int32)), (.ref b9)])
                        have f59 := (Fc55_0_1.keep Kq58 nin0)
                        have f60 := (Fc55_0_2.keep Kq58 nin0)
                        have f61 := (f57.keep Kq58)
                        have f62 := (Fc55_0_0.keep Kq58 nin0)
                        have f63 := (Fc55_0_3.keep Kq58 nin0)
                        obtain ⟨cq64, kq64, q64a, q64b, q64c⟩ := isOf hZ rfl f61
                        obtain ⟨_, _, ⟨T64, L64, k64, n64⟩, -, X64, ⟨Lc64, hQ64, l64, y64, z64⟩, st64⟩ := X58.virtualBack hx (y := (⟨"com/example/backchannel/backchannel/server/ByteQueue", "at", "(I)B"⟩ : MethodName)) (z := (⟨"com/example/backchannel/backchannel/server/ByteQueue", "at", "(I)B"⟩ : MethodName)) hown (mvT hZ (own_w hw 57 rfl)) (mvT hZ (own_w hw 58 rfl)) (notFace_of_selects (args := #[]) (mvT hZ (own_w hw 60 rfl))) (mvT hZ (own_w hw 60 rfl)) (mvT hZ (own_w hw 59 rfl)) (by decide) (backOf (W := 0) (own_rm10_20 l Z a0 hw [] b9 b8x4_18c1c55 k8x4_18c1c55 ip2 ip3 T58.heap n0 Z58 f59 f60 f61 f62 f63) hZ (own_w hw 61 rfl) (own_w hw 3 rfl) (by decide) (by decide)) q64a q64c (g := (mkF m 150 #[.val (.int ip0), .val (.int ip1), .val (.int ip2), .val (.int ip3), .val (.ref b2), .val (.ref b6), .val (.ref b9), .val (.int (1 : Int32)), .val (.int (1 : Int32)), .unset] [(.int (1 : Int32)), (.ref b9)])) rfl (by rw [hml]; rfl) (Steps.refl _) (argsL := [(.int (1 : Int32))]) (rest := []) (lenOf own_pd6 rfl) rfl (by show 2 * 0 + _ ≤ _; exact Nat.le_of_eq rfl) (hb hby at_150) (fun _ _ => ⟨rfl, rfl, (by decide : 5 + 0 ≤ _), (by decide : 1032 + 0 ≤ _)⟩)
                        dsimp only [Pt.U, Pt.locs, Pt.cells, Pt.slots] at X64 l64 y64 z64 st64 hQ64
                        subst l64 y64 z64
                        obtain ⟨N64q, Kq64, hL64⟩ := hQ64
                        have N64 := Fr.app N58 N64q
                        have K64 : Keep h0 T64.heap [] := K58.trans Kq64 all0
                        have Z64 := Nat.le_trans Z58 Kq64.1
                        rcases hL64 with ⟨rfl, -⟩
                        · skip
                          refine own_st (fun t k => st64.trans k) ?_
                          show own_Go _ _ _ _ T64 (mkF m 153 #[.val (.int ip0), .val (.int ip1), .val (.int ip2), .val (.int ip3), .val (.ref b2), .val (.ref b6), .val (.ref b9), .val (.int (1 : Int32)), .val (.int (1 : Int32)), .unset] [(.int (nar .byte (nar .byte (ip3.toInt8.toInt32))))])
                          refine own_st (fun t k => XS.iloadN X64.here hx rfl (hb hby at_153) rfl k) ?_
                          show own_Go _ _ _ _ T64 (mkF m 154 #[.val (.int ip0), .val (.int ip1), .val (.int ip2), .val (.int ip3), .val (.ref b2), .val (.ref b6), .val (.ref b9), .val (.int (1 : Int32)), .val (.int (1 : Int32)), .unset] [(.int ip3), (.int (nar .byte (nar .byte (ip3.toInt8.toInt32))))])
                          refine own_st (fun t k => XS.i2b X64.here hx rfl (hb hby at_154) rfl k) ?_
                          show own_Go _ _ _ _ T64 (mkF m 155 #[.val (.int ip0), .val (.int ip1), .val (.int ip2), .val (.int ip3), .val (.ref b2), .val (.ref b6), .val (.ref b9), .val (.int (1 : Int32)), .val (.int (1 : Int32)), .unset] [(.int (ip3.toInt8.toInt32)), (.int (nar .byte (nar .byte (ip3.toInt8.toInt32))))])
                          refine own_st (fun t k => XS.icmpNo X64.here hx rfl (hb hby at_155) rfl (teq (by simp only [own_nb] : (nar .byte (nar .byte (ip3.toInt8.toInt32))) = (ip3.toInt8.toInt32))).2 k) ?_
                          show own_Go _ _ _ _ T64 (mkF m 158 #[.val (.int ip0), .val (.int ip1), .val (.int ip2), .val (.int ip3), .val (.ref b2), .val (.ref b6), .val (.ref b9), .val (.int (1 : Int32)), .val (.int (1 : Int32)), .unset] [])
                          refine own_st (fun t k => XS.iconst X64.here hx rfl (hb hby at_158) k) ?_
                          show own_Go _ _ _ _ T64 (mkF m 159 #[.val (.int ip0), .val (.int ip1), .val (.int ip2), .val (.int ip3), .val (.ref b2), .val (.ref b6), .val (.ref b9), .val (.int (1 : Int32)), .val (.int (1 : Int32)), .unset] [(.int (1 : Int32))])
                          refine own_st (fun t k => XS.goto X64.here hx rfl (pc0 := 159) (pc' := 163) rfl (hb hby at_159) (by decide) (by decide) k) ?_
                          show own_Go _ _ _ _ T64 (mkF m 163 #[.val (.int ip0), .val (.int ip1), .val (.int ip2), .val (.int ip3), .val (.ref b2), .val (.ref b6), .val (.ref b9), .val (.int (1 : Int32)), .val (.int (1 : Int32)), .unset] [(.int (1 : Int32))])
                          refine own_st (fun t k => XS.istore X64.here hx rfl (hb hby at_163) rfl (l' := #[.val (.int ip0), .val (.int ip1), .val (.int ip2), .val (.int ip3), .val (.ref b2), .val (.ref b6), .val (.ref b9), .val (.int (1 : Int32)), .val (.int (1 : Int32)), .val (.int (1 : Int32))]) rfl k) ?_
                          show own_Go _ _ _ _ T64 (mkF m 165 #[.val (.int ip0), .val (.int ip1), .val (.int ip2), .val (.int ip3), .val (.ref b2), .val (.ref b6), .val (.ref b9), .val (.int (1 : Int32)), .val (.int (1 : Int32)), .val (.int (1 : Int32))] [])
                          refine own_st (fun t k => XS.iload X64.here hx rfl (hb hby at_165) rfl k) ?_
                          show own_Go _ _ _ _ T64 (mkF m 167 #[.val (.int ip0), .val (.int ip1), .val (.int ip2), .val (.int ip3), .val (.ref b2), .val (.ref b6), .val (.ref b9), .val (.int (1 : Int32)), .val (.int (1 : Int32)), .val (.int (1 : Int32))] [(.int (1 : Int32))])
                          refine own_st (fun t k => XS.ifNo X64.here hx rfl (hb hby at_167) rfl ((if0 _ _).trans (feq (by decide : ¬ ((1 : Int32) = (0 : Int32)))).1) k) ?_
                          show own_Go _ _ _ _ T64 (mkF m 170 #[.val (.int ip0), .val (.int ip1), .val (.int ip2), .val (.int ip3), .val (.ref b2), .val (.ref b6), .val (.ref b9), .val (.int (1 : Int32)), .val (.int (1 : Int32)), .val (.int (1 : Int32))] [])
                          refine own_st (fun t k => XS.iload X64.here hx rfl (hb hby at_170) rfl k) ?_
                          show own_Go _ _ _ _ T64 (mkF m 172 #[.val (.int ip0), .val (.int ip1), .val (.int ip2), .val (.int ip3), .val (.ref b2), .val (.ref b6), .val (.ref b9), .val (.int (1 : Int32)), .val (.int (1 : Int32)), .val (.int (1 : Int32))] [(.int (1 : Int32))])
                          refine own_st (fun t k => XS.ifNo X64.here hx rfl (hb hby at_172) rfl ((if0 _ _).trans (feq (by decide : ¬ ((1 : Int32) = (0 : Int32)))).1) k) ?_
                          show own_Go _ _ _ _ T64 (mkF m 175 #[.val (.int ip0), .val (.int ip1), .val (.int ip2), .val (.int ip3), .val (.ref b2), .val (.ref b6), .val (.ref b9), .val (.int (1 : Int32)), .val (.int (1 : Int32)), .val (.int (1 : Int32))] [])
                          refine own_st (fun t k => XS.iconst X64.here hx rfl (hb hby at_175) k) ?_
                          show own_Go _ _ _ _ T64 (mkF m 176 #[.val (.int ip0), .val (.int ip1), .val (.int ip2), .val (.int ip3), .val (.ref b2), .val (.ref b6), .val (.ref b9), .val (.int (1 : Int32)), .val (.int (1 : Int32)), .val (.int (1 : Int32))] [(.int (1 : Int32))])
                          refine own_st (fun t k => XS.goto X64.here hx rfl (pc0 := 176) (pc' := 180) rfl (hb hby at_176) (by decide) (by decide) k) ?_
                          show own_Go _ _ _ _ T64 (mkF m 180 #[.val (.int ip0), .val (.int ip1), .val (.int ip2), .val (.int ip3), .val (.ref b2), .val (.ref b6), .val (.ref b9), .val (.int (1 : Int32)), .val (.int (1 : Int32)), .val (.int (1 : Int32))] [(.int (1 : Int32))])
                          exact own_retZ X64 hx hlk (t := .boolean) hret (by simp) (hb hby at_180) (by decide) (by decide) rfl ⟨rfl, N64⟩
                · skip
                  exact absurd (by decide : (0 : Int32) = (0 : Int32)) hq50_1_0
        · rw [qr20]
          show own_Go _ _ _ _ T18 (mkF m 83 #[.val (.int ip0), .val (.int ip1), .val (.int ip2), .val (.int ip3), .val (.ref b2), .val (.ref b6), .val (.ref b9), .unset, .unset, .unset] [(.int (2 : Int32))])
          refine own_st (fun t k => XS.istore X18.here hx rfl (hb hby at_83) rfl (l' := #[.val (.int ip0), .val (.int ip1), .val (.int ip2), .val (.int ip3), .val (.ref b2), .val (.ref b6), .val (.ref b9), .val (.int (2 : Int32)), .unset, .unset]) rfl k) ?_
          show own_Go _ _ _ _ T18 (mkF m 85 #[.val (.int ip0), .val (.int ip1), .val (.int ip2), .val (.int ip3), .val (.ref b2), .val (.ref b6), .val (.ref b9), .val (.int (2 : Int32)), .unset, .unset] [])
          refine own_st (fun t k => XS.aload X18.here hx rfl (hb hby at_85) rfl rfl k) ?_
          show own_Go _ _ _ _ T18 (mkF m 87 #[.val (.int ip0), .val (.int ip1), .val (.int ip2), .val (.int ip3), .val (.ref b2), .val (.ref b6), .val (.ref b9), .val (.int (2 : Int32)), .unset, .unset] [(.ref b9)])
          refine own_st (fun t k => XS.iload X18.here hx rfl (hb hby at_87) rfl k) ?_
          show own_Go _ _ _ _ T18 (mkF m 89 #[.val (.int ip0), .val (.int ip1), .val (.int ip2), .val (.int ip3), .val (.ref b2), .val (.ref b6), .val (.ref b9), .val (.int (2 : Int32)), .unset, .unset] [(.int (2 : Int32)), (.ref b9)])
          have f65 := (f16.keep Kq18)
          obtain ⟨cq66, kq66, q66a, q66b, q66c⟩ := isOf hZ rfl f65
          obtain ⟨_, _, ⟨T66, L66, k66, n66⟩, -, X66, ⟨Lc66, hQ66, l66, y66, z66⟩, st66⟩ := X18.virtualBack hx (y := (⟨"com/example/backchannel/backchannel/server/ByteQueue", "remove", "(I)V"⟩ : MethodName)) (z := (⟨"com/example/backchannel/backchannel/server/ByteQueue", "remove", "(I)V"⟩ : MethodName)) hown (mvT hZ (own_w hw 40 rfl)) (mvT hZ (own_w hw 41 rfl)) (notFace_of_selects (args := #[]) (mvT hZ (own_w hw 43 rfl))) (mvT hZ (own_w hw 43 rfl)) (mvT hZ (own_w hw 42 rfl)) (by decide) (backOf (W := 0) (own_rm7_26 l Z a0 hw [] b9 b8x4_8c1c18 T18.heap n0 Z18 Fc18_0_1 Fc18_0_2 f65 g_b9 Fc18_0_0) hZ (own_w hw 44 rfl) (own_w hw 3 rfl) (by decide) (by decide)) q66a q66c (g := (mkF m 89 #[.val (.int ip0), .val (.int ip1), .val (.int ip2), .val (.int ip3), .val (.ref b2), .val (.ref b6), .val (.ref b9), .val (.int (2 : Int32)), .unset, .unset] [(.int (2 : Int32)), (.ref b9)])) rfl (by rw [hml]; rfl) (Steps.refl _) (argsL := [(.int (2 : Int32))]) (rest := []) (lenOf own_pd3 rfl) rfl (by show 2 * 0 + _ ≤ _; exact Nat.le_of_eq rfl) (hb hby at_89) (fun _ _ => ⟨rfl, rfl, (by decide : 4 + 0 ≤ _), (by decide : 520 + 0 ≤ _)⟩)
          dsimp only [Pt.U, Pt.locs, Pt.cells, Pt.slots] at X66 l66 y66 z66 st66 hQ66
          subst l66 y66 z66
          obtain ⟨N66q, Kq66, hL66⟩ := hQ66
          have N66 := Fr.app N18 N66q
          have K66 : Keep h0 T66.heap [] := K18.trans Kq66 (allS (Or.inr sz_b9) all0)
          have Z66 := Nat.le_trans Z18 Kq66.1
          rcases hL66 with ⟨rfl, Fc66_0_0, Fc66_0_1, Fc66_0_2, -⟩
          · skip
            refine own_st (fun t k => st66.trans k) ?_
            show own_Go _ _ _ _ T66 (mkF m 92 #[.val (.int ip0), .val (.int ip1), .val (.int ip2), .val (.int ip3), .val (.ref b2), .val (.ref b6), .val (.ref b9), .val (.int (2 : Int32)), .unset, .unset] [])
            refine own_st (fun t k => XS.aload X66.here hx rfl (hb hby at_92) rfl rfl k) ?_
            show own_Go _ _ _ _ T66 (mkF m 94 #[.val (.int ip0), .val (.int ip1), .val (.int ip2), .val (.int ip3), .val (.ref b2), .val (.ref b6), .val (.ref b9), .val (.int (2 : Int32)), .unset, .unset] [(.ref b9)])
            have f67 := (own_stak S_NONE K66 all0)
            have f68 := (f65.keep Kq66)
            obtain ⟨cq69, kq69, q69a, q69b, q69c⟩ := isOf hZ rfl f68
            obtain ⟨_, _, ⟨T69, L69, k69, n69⟩, -, X69, ⟨Lc69, hQ69, l69, y69, z69⟩, st69⟩ := X66.virtualBack hx (y := (⟨"com/example/backchannel/backchannel/server/ByteQueue", "clear", "()V"⟩ : MethodName)) (z := (⟨"com/example/backchannel/backchannel/server/ByteQueue", "clear", "()V"⟩ : MethodName)) hown (mvT hZ (own_w hw 50 rfl)) (mvT hZ (own_w hw 46 rfl)) (notFace_of_selects (args := #[]) (mvT hZ (own_w hw 48 rfl))) (mvT hZ (own_w hw 48 rfl)) (mvT hZ (own_w hw 47 rfl)) (by decide) (backOf (W := 0) (own_rm8_28 l Z a0 hw [] b9 w_NONE b8x4_8c1c18 T66.heap n0 Z66 f67 f68 Fc66_0_2 g_b9 Fc66_0_1 Fc66_0_0) hZ (own_w hw 49 rfl) (own_w hw 3 rfl) (by decide) (by decide)) q69a q69c (g := (mkF m 94 #[.val (.int ip0), .val (.int ip1), .val (.int ip2), .val (.int ip3), .val (.ref b2), .val (.ref b6), .val (.ref b9), .val (.int (2 : Int32)), .unset, .unset] [(.ref b9)])) rfl (by rw [hml]; rfl) (Steps.refl _) (argsL := []) (rest := []) (lenOf own_pd0 rfl) rfl (by show 2 * 0 + _ ≤ _; exact Nat.le_of_eq rfl) (hb hby at_94) (fun _ _ => ⟨rfl, rfl, (by decide : 4 + 0 ≤ _), (by decide : 520 + 0 ≤ _)⟩)
            dsimp only [Pt.U, Pt.locs, Pt.cells, Pt.slots] at X69 l69 y69 z69 st69 hQ69
            subst l69 y69 z69
            obtain ⟨N69q, Kq69, hL69⟩ := hQ69
            have N69 := Fr.app N66 N69q
            have K69 : Keep h0 T69.heap [] := K66.trans Kq69 (allS (Or.inr sz_b9) all0)
            have Z69 := Nat.le_trans Z66 Kq69.1
            rcases hL69 with ⟨rfl, Fc69_0_0, Fc69_0_1, Fc69_0_2, -⟩
            · skip
              refine own_st (fun t k => st69.trans k) ?_
              show own_Go _ _ _ _ T69 (mkF m 97 #[.val (.int ip0), .val (.int ip1), .val (.int ip2), .val (.int ip3), .val (.ref b2), .val (.ref b6), .val (.ref b9), .val (.int (2 : Int32)), .unset, .unset] [])
              refine own_st (fun t k => XS.aload X69.here hx rfl (hb hby at_97) rfl rfl k) ?_
              show own_Go _ _ _ _ T69 (mkF m 99 #[.val (.int ip0), .val (.int ip1), .val (.int ip2), .val (.int ip3), .val (.ref b2), .val (.ref b6), .val (.ref b9), .val (.int (2 : Int32)), .unset, .unset] [(.ref b9)])
              have f71 := (f68.keep Kq69)
              obtain ⟨cq70, kq70, q70a, q70b, q70c⟩ := isOf hZ rfl f71
              obtain ⟨_, _, ⟨T70, L70, k70, n70⟩, -, X70, ⟨Lc70, hQ70, l70, y70, z70⟩, st70⟩ := X69.virtualBack hx (y := (⟨"com/example/backchannel/backchannel/server/ByteQueue", "size", "()I"⟩ : MethodName)) (z := (⟨"com/example/backchannel/backchannel/server/ByteQueue", "size", "()I"⟩ : MethodName)) hown (mvT hZ (own_w hw 51 rfl)) (mvT hZ (own_w hw 26 rfl)) (notFace_of_selects (args := #[]) (mvT hZ (own_w hw 28 rfl))) (mvT hZ (own_w hw 28 rfl)) (mvT hZ (own_w hw 27 rfl)) (by decide) (backOf (W := 0) (own_rm5 l Z a0 hw [] b9 (0 : Int32) (0 : Int32) T69.heap n0 Z69 Fc69_0_2 Fc69_0_1) hZ (own_w hw 29 rfl) (own_w hw 3 rfl) (by decide) (by decide)) q70a q70c (g := (mkF m 99 #[.val (.int ip0), .val (.int ip1), .val (.int ip2), .val (.int ip3), .val (.ref b2), .val (.ref b6), .val (.ref b9), .val (.int (2 : Int32)), .unset, .unset] [(.ref b9)])) rfl (by rw [hml]; rfl) (Steps.refl _) (argsL := []) (rest := []) (lenOf own_pd1 rfl) rfl (by show 2 * 0 + _ ≤ _; exact Nat.le_of_eq rfl) (hb hby at_99) (fun _ _ => ⟨rfl, rfl, (by decide : 4 + 0 ≤ _), (by decide : 520 + 0 ≤ _)⟩)
              dsimp only [Pt.U, Pt.locs, Pt.cells, Pt.slots] at X70 l70 y70 z70 st70 hQ70
              subst l70 y70 z70
              obtain ⟨N70q, e70, hL70⟩ := hQ70
              have N70 := Fr.app N69 N70q
              rcases hL70 with ⟨rfl, -⟩
              · skip
                refine own_st (fun t k => st70.trans k) ?_
                show own_Go _ _ _ _ T70 (mkF m 102 #[.val (.int ip0), .val (.int ip1), .val (.int ip2), .val (.int ip3), .val (.ref b2), .val (.ref b6), .val (.ref b9), .val (.int (2 : Int32)), .unset, .unset] [(.int ((0 : Int32) - (0 : Int32)))])
                refine own_st (fun t k => XS.ifNo X70.here hx rfl (hb hby at_102) rfl ((if0 _ _).trans (teq (by decide : ((0 : Int32) - (0 : Int32)) = (0 : Int32))).2) k) ?_
                show own_Go _ _ _ _ T70 (mkF m 105 #[.val (.int ip0), .val (.int ip1), .val (.int ip2), .val (.int ip3), .val (.ref b2), .val (.ref b6), .val (.ref b9), .val (.int (2 : Int32)), .unset, .unset] [])
                refine own_st (fun t k => XS.aload X70.here hx rfl (hb hby at_105) rfl rfl k) ?_
                show own_Go _ _ _ _ T70 (mkF m 107 #[.val (.int ip0), .val (.int ip1), .val (.int ip2), .val (.int ip3), .val (.ref b2), .val (.ref b6), .val (.ref b9), .val (.int (2 : Int32)), .unset, .unset] [(.ref b9)])
                obtain ⟨cq72, kq72, q72a, q72b, q72c⟩ := isOf hZ e70 f71
                obtain ⟨_, _, ⟨T72, L72, k72, n72⟩, -, X72, ⟨Lc72, hQ72, l72, y72, z72⟩, st72⟩ := X70.virtualBack hx (y := (⟨"com/example/backchannel/backchannel/server/ByteQueue", "isEmpty", "()Z"⟩ : MethodName)) (z := (⟨"com/example/backchannel/backchannel/server/ByteQueue", "isEmpty", "()Z"⟩ : MethodName)) hown (mvT hZ (own_w hw 52 rfl)) (mvT hZ (own_w hw 53 rfl)) (notFace_of_selects (args := #[]) (mvT hZ (own_w hw 55 rfl))) (mvT hZ (own_w hw 55 rfl)) (mvT hZ (own_w hw 54 rfl)) (by decide) (backOf (W := 0) (own_rm9 l Z a0 hw [] b9 (0 : Int32) (0 : Int32) T69.heap n0 Z69 Fc69_0_2 Fc69_0_1) hZ (own_w hw 56 rfl) (own_w hw 3 rfl) (by decide) (by decide)) q72a q72c (g := (mkF m 107 #[.val (.int ip0), .val (.int ip1), .val (.int ip2), .val (.int ip3), .val (.ref b2), .val (.ref b6), .val (.ref b9), .val (.int (2 : Int32)), .unset, .unset] [(.ref b9)])) rfl (by rw [hml]; rfl) (Steps.refl _) (argsL := []) (rest := []) (lenOf own_pd5 rfl) rfl (by show 2 * 0 + _ ≤ _; exact Nat.le_of_eq rfl) (hb hby at_107) (fun _ _ => ⟨rfl, e70, (by decide : 4 + 0 ≤ _), (by decide : 520 + 0 ≤ _)⟩)
                dsimp only [Pt.U, Pt.locs, Pt.cells, Pt.slots] at X72 l72 y72 z72 st72 hQ72
                subst l72 y72 z72
                obtain ⟨N72q, e72, hL72⟩ := hQ72
                have N72 := Fr.app N70 N72q
                rcases hL72 with ⟨rfl, hq72_0_0, -⟩ | ⟨rfl, hq72_1_0, -⟩
                · skip
                  refine own_st (fun t k => st72.trans k) ?_
                  show own_Go _ _ _ _ T72 (mkF m 110 #[.val (.int ip0), .val (.int ip1), .val (.int ip2), .val (.int ip3), .val (.ref b2), .val (.ref b6), .val (.ref b9), .val (.int (2 : Int32)), .unset, .unset] [(.int (1 : Int32))])
                  refine own_st (fun t k => XS.ifNo X72.here hx rfl (hb hby at_110) rfl ((if0 _ _).trans (feq (by decide : ¬ ((1 : Int32) = (0 : Int32)))).1) k) ?_
                  show own_Go _ _ _ _ T72 (mkF m 113 #[.val (.int ip0), .val (.int ip1), .val (.int ip2), .val (.int ip3), .val (.ref b2), .val (.ref b6), .val (.ref b9), .val (.int (2 : Int32)), .unset, .unset] [])
                  refine own_st (fun t k => XS.iconst X72.here hx rfl (hb hby at_113) k) ?_
                  show own_Go _ _ _ _ T72 (mkF m 114 #[.val (.int ip0), .val (.int ip1), .val (.int ip2), .val (.int ip3), .val (.ref b2), .val (.ref b6), .val (.ref b9), .val (.int (2 : Int32)), .unset, .unset] [(.int (1 : Int32))])
                  refine own_st (fun t k => XS.goto X72.here hx rfl (pc0 := 114) (pc' := 118) rfl (hb hby at_114) (by decide) (by decide) k) ?_
                  show own_Go _ _ _ _ T72 (mkF m 118 #[.val (.int ip0), .val (.int ip1), .val (.int ip2), .val (.int ip3), .val (.ref b2), .val (.ref b6), .val (.ref b9), .val (.int (2 : Int32)), .unset, .unset] [(.int (1 : Int32))])
                  refine own_st (fun t k => XS.istore X72.here hx rfl (hb hby at_118) rfl (l' := #[.val (.int ip0), .val (.int ip1), .val (.int ip2), .val (.int ip3), .val (.ref b2), .val (.ref b6), .val (.ref b9), .val (.int (2 : Int32)), .val (.int (1 : Int32)), .unset]) rfl k) ?_
                  show own_Go _ _ _ _ T72 (mkF m 120 #[.val (.int ip0), .val (.int ip1), .val (.int ip2), .val (.int ip3), .val (.ref b2), .val (.ref b6), .val (.ref b9), .val (.int (2 : Int32)), .val (.int (1 : Int32)), .unset] [])
                  refine own_st (fun t k => XS.aload X72.here hx rfl (hb hby at_120) rfl rfl k) ?_
                  show own_Go _ _ _ _ T72 (mkF m 122 #[.val (.int ip0), .val (.int ip1), .val (.int ip2), .val (.int ip3), .val (.ref b2), .val (.ref b6), .val (.ref b9), .val (.int (2 : Int32)), .val (.int (1 : Int32)), .unset] [(.ref b9)])
                  refine own_st (fun t k => XS.aload X72.here hx rfl (hb hby at_122) rfl rfl k) ?_
                  show own_Go _ _ _ _ T72 (mkF m 124 #[.val (.int ip0), .val (.int ip1), .val (.int ip2), .val (.int ip3), .val (.ref b2), .val (.ref b6), .val (.ref b9), .val (.int (2 : Int32)), .val (.int (1 : Int32)), .unset] [(.ref b6), (.ref b9)])
                  have ne73 : b6 ≠ b9 := Nat.ne_of_lt (Nat.lt_of_lt_of_le V8.lt (Nat.le_of_eq g9.symm))
                  have f74 := (((((V8.ext E9).keep Kq11 (ninS ne73 nin0)).keep Kq18 (ninS ne73 nin0)).keep Kq66 (ninS ne73 nin0)).keep Kq69 (ninS ne73 nin0))
                  have f75 := (V_w_NONE.keep K69 nin0)
                  have f76 := (((((((Ex6.wr W7).wr W8).ext E9).keep Kq11).keep Kq18).keep Kq66).keep Kq69)
                  obtain ⟨cq77, kq77, q77a, q77b, q77c⟩ := isOf hZ e72 f71
                  obtain ⟨_, _, ⟨T77, L77, k77, n77⟩, -, X77, ⟨Lc77, hQ77, l77, y77, z77⟩, st77⟩ := X72.virtualBack hx (y := (⟨"com/example/backchannel/backchannel/server/ByteQueue", "append", "([B)V"⟩ : MethodName)) (z := (⟨"com/example/backchannel/backchannel/server/ByteQueue", "append", "([B)V"⟩ : MethodName)) hown (mvT hZ (own_w hw 14 rfl)) (mvT hZ (own_w hw 15 rfl)) (notFace_of_selects (args := #[]) (mvT hZ (own_w hw 17 rfl))) (mvT hZ (own_w hw 17 rfl)) (mvT hZ (own_w hw 16 rfl)) (by decide) (backOf (W := 0) (own_rm3_16 l Z a0 hw [] b9 b6 k6 ip2 ip3 w_NONE k_w_NONE T69.heap n0 Z69 f74 Fc69_0_0 f75 Fc69_0_2 Fc69_0_1 f71 g_b9 f76) hZ (own_w hw 18 rfl) (own_w hw 3 rfl) (by decide) (by decide)) q77a q77c (g := (mkF m 124 #[.val (.int ip0), .val (.int ip1), .val (.int ip2), .val (.int ip3), .val (.ref b2), .val (.ref b6), .val (.ref b9), .val (.int (2 : Int32)), .val (.int (1 : Int32)), .unset] [(.ref b6), (.ref b9)])) rfl (by rw [hml]; rfl) (Steps.refl _) (argsL := [(.ref b6)]) (rest := []) (lenOf own_pd4 rfl) rfl (by show 2 * 0 + _ ≤ _; exact Nat.le_of_eq rfl) (hb hby at_124) (fun _ _ => ⟨rfl, e72, (by decide : 4 + 1 ≤ _), (by decide : 520 + 512 ≤ _)⟩)
                  dsimp only [Pt.U, Pt.locs, Pt.cells, Pt.slots] at X77 l77 y77 z77 st77 hQ77
                  subst l77 y77 z77
                  obtain ⟨N77q, Kq77, hL77⟩ := hQ77
                  have N77 := Fr.app N72 N77q
                  have K77 : Keep h0 T77.heap [] := K69.trans Kq77 (allS (Or.inr sz_b9) all0)
                  have Z77 := Nat.le_trans Z69 Kq77.1
                  rcases hL77 with ⟨b8x4_18c1c77, k8x4_18c1c77, rfl, hq77_0_0, sq_b8x4_18c1c77, Fc77_0_0, Fc77_0_1, Fc77_0_2, Fc77_0_3, Fc77_0_4, -⟩
                  · skip
                    have g_b8x4_18c1c77 : n0 ≤ b8x4_18c1c77 := Nat.le_trans Z69 sq_b8x4_18c1c77
                    have sz_b8x4_18c1c77 : h0.size ≤ b8x4_18c1c77 := Nat.le_trans K69.1 sq_b8x4_18c1c77
                    refine own_st (fun t k => st77.trans k) ?_
                    show own_Go _ _ _ _ T77 (mkF m 127 #[.val (.int ip0), .val (.int ip1), .val (.int ip2), .val (.int ip3), .val (.ref b2), .val (.ref b6), .val (.ref b9), .val (.int (2 : Int32)), .val (.int (1 : Int32)), .unset] [])
                    refine own_st (fun t k => XS.aload X77.here hx rfl (hb hby at_127) rfl rfl k) ?_
                    show own_Go _ _ _ _ T77 (mkF m 129 #[.val (.int ip0), .val (.int ip1), .val (.int ip2), .val (.int ip3), .val (.ref b2), .val (.ref b6), .val (.ref b9), .val (.int (2 : Int32)), .val (.int (1 : Int32)), .unset] [(.ref b9)])
                    have f79 := (f71.keep Kq77)
                    obtain ⟨cq78, kq78, q78a, q78b, q78c⟩ := isOf hZ rfl f79
                    obtain ⟨_, _, ⟨T78, L78, k78, n78⟩, -, X78, ⟨Lc78, hQ78, l78, y78, z78⟩, st78⟩ := X77.virtualBack hx (y := (⟨"com/example/backchannel/backchannel/server/ByteQueue", "size", "()I"⟩ : MethodName)) (z := (⟨"com/example/backchannel/backchannel/server/ByteQueue", "size", "()I"⟩ : MethodName)) hown (mvT hZ (own_w hw 51 rfl)) (mvT hZ (own_w hw 26 rfl)) (notFace_of_selects (args := #[]) (mvT hZ (own_w hw 28 rfl))) (mvT hZ (own_w hw 28 rfl)) (mvT hZ (own_w hw 27 rfl)) (by decide) (backOf (W := 0) (own_rm5 l Z a0 hw [] b9 (((0 : Int32) - (0 : Int32)) + (2 : Int32)) (0 : Int32) T77.heap n0 Z77 Fc77_0_1 Fc77_0_2) hZ (own_w hw 29 rfl) (own_w hw 3 rfl) (by decide) (by decide)) q78a q78c (g := (mkF m 129 #[.val (.int ip0), .val (.int ip1), .val (.int ip2), .val (.int ip3), .val (.ref b2), .val (.ref b6), .val (.ref b9), .val (.int (2 : Int32)), .val (.int (1 : Int32)), .unset] [(.ref b9)])) rfl (by rw [hml]; rfl) (Steps.refl _) (argsL := []) (rest := []) (lenOf own_pd1 rfl) rfl (by show 2 * 0 + _ ≤ _; exact Nat.le_of_eq rfl) (hb hby at_129) (fun _ _ => ⟨rfl, rfl, (by decide : 5 + 0 ≤ _), (by decide : 1032 + 0 ≤ _)⟩)
                    dsimp only [Pt.U, Pt.locs, Pt.cells, Pt.slots] at X78 l78 y78 z78 st78 hQ78
                    subst l78 y78 z78
                    obtain ⟨N78q, e78, hL78⟩ := hQ78
                    have N78 := Fr.app N77 N78q
                    rcases hL78 with ⟨rfl, -⟩
                    · skip
                      refine own_st (fun t k => st78.trans k) ?_
                      show own_Go _ _ _ _ T78 (mkF m 132 #[.val (.int ip0), .val (.int ip1), .val (.int ip2), .val (.int ip3), .val (.ref b2), .val (.ref b6), .val (.ref b9), .val (.int (2 : Int32)), .val (.int (1 : Int32)), .unset] [(.int ((((0 : Int32) - (0 : Int32)) + (2 : Int32)) - (0 : Int32)))])
                      refine own_st (fun t k => XS.iconst X78.here hx rfl (hb hby at_132) k) ?_
                      show own_Go _ _ _ _ T78 (mkF m 133 #[.val (.int ip0), .val (.int ip1), .val (.int ip2), .val (.int ip3), .val (.ref b2), .val (.ref b6), .val (.ref b9), .val (.int (2 : Int32)), .val (.int (1 : Int32)), .unset] [(.int (2 : Int32)), (.int ((((0 : Int32) - (0 : Int32)) + (2 : Int32)) - (0 : Int32)))])
                      refine own_st (fun t k => XS.icmpNo X78.here hx rfl (hb hby at_133) rfl (teq (by decide : ((((0 : Int32) - (0 : Int32)) + (2 : Int32)) - (0 : Int32)) = (2 : Int32))).2 k) ?_
                      show own_Go _ _ _ _ T78 (mkF m 136 #[.val (.int ip0), .val (.int ip1), .val (.int ip2), .val (.int ip3), .val (.ref b2), .val (.ref b6), .val (.ref b9), .val (.int (2 : Int32)), .val (.int (1 : Int32)), .unset] [])
                      refine own_st (fun t k => XS.aload X78.here hx rfl (hb hby at_136) rfl rfl k) ?_
                      show own_Go _ _ _ _ T78 (mkF m 138 #[.val (.int ip0), .val (.int ip1), .val (.int ip2), .val (.int ip3), .val (.ref b2), .val (.ref b6), .val (.ref b9), .val (.int (2 : Int32)), .val (.int (1 : Int32)), .unset] [(.ref b9)])
                      refine own_st (fun t k => XS.iconst X78.here hx rfl (hb hby at_138) k) ?_
                      show own_Go _ _ _ _ T78 (mkF m 139 #[.val (.int ip0), .val (.int ip1), .val (.int ip2), .val (.int ip3), .val (.ref b2), .val (.ref b6), .val (.ref b9), .val (.int (2 : Int32)), .val (.int (1 : Int32)), .unset] [(.int (0 : Int32)), (.ref b9)])
                      obtain ⟨cq80, kq80, q80a, q80b, q80c⟩ := isOf hZ e78 f79
                      obtain ⟨_, _, ⟨T80, L80, k80, n80⟩, -, X80, ⟨Lc80, hQ80, l80, y80, z80⟩, st80⟩ := X78.virtualBack hx (y := (⟨"com/example/backchannel/backchannel/server/ByteQueue", "at", "(I)B"⟩ : MethodName)) (z := (⟨"com/example/backchannel/backchannel/server/ByteQueue", "at", "(I)B"⟩ : MethodName)) hown (mvT hZ (own_w hw 57 rfl)) (mvT hZ (own_w hw 58 rfl)) (notFace_of_selects (args := #[]) (mvT hZ (own_w hw 60 rfl))) (mvT hZ (own_w hw 60 rfl)) (mvT hZ (own_w hw 59 rfl)) (by decide) (backOf (W := 0) (own_rm10_19 l Z a0 hw [] b9 b8x4_18c1c77 k8x4_18c1c77 ip2 ip3 T77.heap n0 Z77 Fc77_0_1 Fc77_0_2 f79 Fc77_0_0 Fc77_0_3) hZ (own_w hw 61 rfl) (own_w hw 3 rfl) (by decide) (by decide)) q80a q80c (g := (mkF m 139 #[.val (.int ip0), .val (.int ip1), .val (.int ip2), .val (.int ip3), .val (.ref b2), .val (.ref b6), .val (.ref b9), .val (.int (2 : Int32)), .val (.int (1 : Int32)), .unset] [(.int (0 : Int32)), (.ref b9)])) rfl (by rw [hml]; rfl) (Steps.refl _) (argsL := [(.int (0 : Int32))]) (rest := []) (lenOf own_pd6 rfl) rfl (by show 2 * 0 + _ ≤ _; exact Nat.le_of_eq rfl) (hb hby at_139) (fun _ _ => ⟨rfl, e78, (by decide : 5 + 0 ≤ _), (by decide : 1032 + 0 ≤ _)⟩)
                      dsimp only [Pt.U, Pt.locs, Pt.cells, Pt.slots] at X80 l80 y80 z80 st80 hQ80
                      subst l80 y80 z80
                      obtain ⟨N80q, Kq80, hL80⟩ := hQ80
                      have N80 := Fr.app N78 N80q
                      have K80 : Keep h0 T80.heap [] := K77.trans Kq80 all0
                      have Z80 := Nat.le_trans Z77 Kq80.1
                      rcases hL80 with ⟨rfl, -⟩
                      · skip
                        refine own_st (fun t k => st80.trans k) ?_
                        show own_Go _ _ _ _ T80 (mkF m 142 #[.val (.int ip0), .val (.int ip1), .val (.int ip2), .val (.int ip3), .val (.ref b2), .val (.ref b6), .val (.ref b9), .val (.int (2 : Int32)), .val (.int (1 : Int32)), .unset] [(.int (nar .byte (nar .byte (ip2.toInt8.toInt32))))])
                        refine own_st (fun t k => XS.iloadN X80.here hx rfl (hb hby at_142) rfl k) ?_
                        show own_Go _ _ _ _ T80 (mkF m 143 #[.val (.int ip0), .val (.int ip1), .val (.int ip2), .val (.int ip3), .val (.ref b2), .val (.ref b6), .val (.ref b9), .val (.int (2 : Int32)), .val (.int (1 : Int32)), .unset] [(.int ip2), (.int (nar .byte (nar .byte (ip2.toInt8.toInt32))))])
                        refine own_st (fun t k => XS.i2b X80.here hx rfl (hb hby at_143) rfl k) ?_
                        show own_Go _ _ _ _ T80 (mkF m 144 #[.val (.int ip0), .val (.int ip1), .val (.int ip2), .val (.int ip3), .val (.ref b2), .val (.ref b6), .val (.ref b9), .val (.int (2 : Int32)), .val (.int (1 : Int32)), .unset] [(.int (ip2.toInt8.toInt32)), (.int (nar .byte (nar .byte (ip2.toInt8.toInt32))))])
                        refine own_st (fun t k => XS.icmpNo X80.here hx rfl (hb hby at_144) rfl (teq (by simp only [own_nb] : (nar .byte (nar .byte (ip2.toInt8.toInt32))) = (ip2.toInt8.toInt32))).2 k) ?_
                        show own_Go _ _ _ _ T80 (mkF m 147 #[.val (.int ip0), .val (.int ip1), .val (.int ip2), .val (.int ip3), .val (.ref b2), .val (.ref b6), .val (.ref b9), .val (.int (2 : Int32)), .val (.int (1 : Int32)), .unset] [])
                        refine own_st (fun t k => XS.aload X80.here hx rfl (hb hby at_147) rfl rfl k) ?_
                        show own_Go _ _ _ _ T80 (mkF m 149 #[.val (.int ip0), .val (.int ip1), .val (.int ip2), .val (.int ip3), .val (.ref b2), .val (.ref b6), .val (.ref b9), .val (.int (2 : Int32)), .val (.int (1 : Int32)), .unset] [(.ref b9)])
                        refine own_st (fun t k => XS.iconst X80.here hx rfl (hb hby at_149) k) ?_
                        show own_Go _ _ _ _ T80 (mkF m 150 #[.val (.int ip0), .val (.int ip1), .val (.int ip2), .val (.int ip3), .val (.ref b2), .val (.ref b6), .val (.ref b9), .val (.int (2 : Int32)), .val (.int (1 : Int32)), .unset] [(.int (1 : Int32)), (.ref b9)])
                        have f81 := (Fc77_0_1.keep Kq80 nin0)
                        have f82 := (Fc77_0_2.keep Kq80 nin0)
                        have f83 := (f79.keep Kq80)
                        have f84 := (Fc77_0_0.keep Kq80 nin0)
                        have f85 := (Fc77_0_3.keep Kq80 nin0)
                        obtain ⟨cq86, kq86, q86a, q86b, q86c⟩ := isOf hZ rfl f83
                        obtain ⟨_, _, ⟨T86, L86, k86, n86⟩, -, X86, ⟨Lc86, hQ86, l86, y86, z86⟩, st86⟩ := X80.virtualBack hx (y := (⟨"com/example/backchannel/backchannel/server/ByteQueue", "at", "(I)B"⟩ : MethodName)) (z := (⟨"com/example/backchannel/backchannel/server/ByteQueue", "at", "(I)B"⟩ : MethodName)) hown (mvT hZ (own_w hw 57 rfl)) (mvT hZ (own_w hw 58 rfl)) (notFace_of_selects (args := #[]) (mvT hZ (own_w hw 60 rfl))) (mvT hZ (own_w hw 60 rfl)) (mvT hZ (own_w hw 59 rfl)) (by decide) (backOf (W := 0) (own_rm10_20 l Z a0 hw [] b9 b8x4_18c1c77 k8x4_18c1c77 ip2 ip3 T80.heap n0 Z80 f81 f82 f83 f84 f85) hZ (own_w hw 61 rfl) (own_w hw 3 rfl) (by decide) (by decide)) q86a q86c (g := (mkF m 150 #[.val (.int ip0), .val (.int ip1), .val (.int ip2), .val (.int ip3), .val (.ref b2), .val (.ref b6), .val (.ref b9), .val (.int (2 : Int32)), .val (.int (1 : Int32)), .unset] [(.int (1 : Int32)), (.ref b9)])) rfl (by rw [hml]; rfl) (Steps.refl _) (argsL := [(.int (1 : Int32))]) (rest := []) (lenOf own_pd6 rfl) rfl (by show 2 * 0 + _ ≤ _; exact Nat.le_of_eq rfl) (hb hby at_150) (fun _ _ => ⟨rfl, rfl, (by decide : 5 + 0 ≤ _), (by decide : 1032 + 0 ≤ _)⟩)
                        dsimp only [Pt.U, Pt.locs, Pt.cells, Pt.slots] at X86 l86 y86 z86 st86 hQ86
                        subst l86 y86 z86
                        obtain ⟨N86q, Kq86, hL86⟩ := hQ86
                        have N86 := Fr.app N80 N86q
                        have K86 : Keep h0 T86.heap [] := K80.trans Kq86 all0
                        have Z86 := Nat.le_trans Z80 Kq86.1
                        rcases hL86 with ⟨rfl, -⟩
                        · skip
                          refine own_st (fun t k => st86.trans k) ?_
                          show own_Go _ _ _ _ T86 (mkF m 153 #[.val (.int ip0), .val (.int ip1), .val (.int ip2), .val (.int ip3), .val (.ref b2), .val (.ref b6), .val (.ref b9), .val (.int (2 : Int32)), .val (.int (1 : Int32)), .unset] [(.int (nar .byte (nar .byte (ip3.toInt8.toInt32))))])
                          refine own_st (fun t k => XS.iloadN X86.here hx rfl (hb hby at_153) rfl k) ?_
                          show own_Go _ _ _ _ T86 (mkF m 154 #[.val (.int ip0), .val (.int ip1), .val (.int ip2), .val (.int ip3), .val (.ref b2), .val (.ref b6), .val (.ref b9), .val (.int (2 : Int32)), .val (.int (1 : Int32)), .unset] [(.int ip3), (.int (nar .byte (nar .byte (ip3.toInt8.toInt32))))])
                          refine own_st (fun t k => XS.i2b X86.here hx rfl (hb hby at_154) rfl k) ?_
                          show own_Go _ _ _ _ T86 (mkF m 155 #[.val (.int ip0), .val (.int ip1), .val (.int ip2), .val (.int ip3), .val (.ref b2), .val (.ref b6), .val (.ref b9), .val (.int (2 : Int32)), .val (.int (1 : Int32)), .unset] [(.int (ip3.toInt8.toInt32)), (.int (nar .byte (nar .byte (ip3.toInt8.toInt32))))])
                          refine own_st (fun t k => XS.icmpNo X86.here hx rfl (hb hby at_155) rfl (teq (by simp only [own_nb] : (nar .byte (nar .byte (ip3.toInt8.toInt32))) = (ip3.toInt8.toInt32))).2 k) ?_
                          show own_Go _ _ _ _ T86 (mkF m 158 #[.val (.int ip0), .val (.int ip1), .val (.int ip2), .val (.int ip3), .val (.ref b2), .val (.ref b6), .val (.ref b9), .val (.int (2 : Int32)), .val (.int (1 : Int32)), .unset] [])
                          refine own_st (fun t k => XS.iconst X86.here hx rfl (hb hby at_158) k) ?_
                          show own_Go _ _ _ _ T86 (mkF m 159 #[.val (.int ip0), .val (.int ip1), .val (.int ip2), .val (.int ip3), .val (.ref b2), .val (.ref b6), .val (.ref b9), .val (.int (2 : Int32)), .val (.int (1 : Int32)), .unset] [(.int (1 : Int32))])
                          refine own_st (fun t k => XS.goto X86.here hx rfl (pc0 := 159) (pc' := 163) rfl (hb hby at_159) (by decide) (by decide) k) ?_
                          show own_Go _ _ _ _ T86 (mkF m 163 #[.val (.int ip0), .val (.int ip1), .val (.int ip2), .val (.int ip3), .val (.ref b2), .val (.ref b6), .val (.ref b9), .val (.int (2 : Int32)), .val (.int (1 : Int32)), .unset] [(.int (1 : Int32))])
                          refine own_st (fun t k => XS.istore X86.here hx rfl (hb hby at_163) rfl (l' := #[.val (.int ip0), .val (.int ip1), .val (.int ip2), .val (.int ip3), .val (.ref b2), .val (.ref b6), .val (.ref b9), .val (.int (2 : Int32)), .val (.int (1 : Int32)), .val (.int (1 : Int32))]) rfl k) ?_
                          show own_Go _ _ _ _ T86 (mkF m 165 #[.val (.int ip0), .val (.int ip1), .val (.int ip2), .val (.int ip3), .val (.ref b2), .val (.ref b6), .val (.ref b9), .val (.int (2 : Int32)), .val (.int (1 : Int32)), .val (.int (1 : Int32))] [])
                          refine own_st (fun t k => XS.iload X86.here hx rfl (hb hby at_165) rfl k) ?_
                          show own_Go _ _ _ _ T86 (mkF m 167 #[.val (.int ip0), .val (.int ip1), .val (.int ip2), .val (.int ip3), .val (.ref b2), .val (.ref b6), .val (.ref b9), .val (.int (2 : Int32)), .val (.int (1 : Int32)), .val (.int (1 : Int32))] [(.int (1 : Int32))])
                          refine own_st (fun t k => XS.ifNo X86.here hx rfl (hb hby at_167) rfl ((if0 _ _).trans (feq (by decide : ¬ ((1 : Int32) = (0 : Int32)))).1) k) ?_
                          show own_Go _ _ _ _ T86 (mkF m 170 #[.val (.int ip0), .val (.int ip1), .val (.int ip2), .val (.int ip3), .val (.ref b2), .val (.ref b6), .val (.ref b9), .val (.int (2 : Int32)), .val (.int (1 : Int32)), .val (.int (1 : Int32))] [])
                          refine own_st (fun t k => XS.iload X86.here hx rfl (hb hby at_170) rfl k) ?_
                          show own_Go _ _ _ _ T86 (mkF m 172 #[.val (.int ip0), .val (.int ip1), .val (.int ip2), .val (.int ip3), .val (.ref b2), .val (.ref b6), .val (.ref b9), .val (.int (2 : Int32)), .val (.int (1 : Int32)), .val (.int (1 : Int32))] [(.int (1 : Int32))])
                          refine own_st (fun t k => XS.ifNo X86.here hx rfl (hb hby at_172) rfl ((if0 _ _).trans (feq (by decide : ¬ ((1 : Int32) = (0 : Int32)))).1) k) ?_
                          show own_Go _ _ _ _ T86 (mkF m 175 #[.val (.int ip0), .val (.int ip1), .val (.int ip2), .val (.int ip3), .val (.ref b2), .val (.ref b6), .val (.ref b9), .val (.int (2 : Int32)), .val (.int (1 : Int32)), .val (.int (1 : Int32))] [])
                          refine own_st (fun t k => XS.iconst X86.here hx rfl (hb hby at_175) k) ?_
                          show own_Go _ _ _ _ T86 (mkF m 176 #[.val (.int ip0), .val (.int ip1), .val (.int ip2), .val (.int ip3), .val (.ref b2), .val (.ref b6), .val (.ref b9), .val (.int (2 : Int32)), .val (.int (1 : Int32)), .val (.int (1 : Int32))] [(.int (1 : Int32))])
                          refine own_st (fun t k => XS.goto X86.here hx rfl (pc0 := 176) (pc' := 180) rfl (hb hby at_176) (by decide) (by decide) k) ?_
                          show own_Go _ _ _ _ T86 (mkF m 180 #[.val (.int ip0), .val (.int ip1), .val (.int ip2), .val (.int ip3), .val (.ref b2), .val (.ref b6), .val (.ref b9), .val (.int (2 : Int32)), .val (.int (1 : Int32)), .val (.int (1 : Int32))] [(.int (1 : Int32))])
                          exact own_retZ X86 hx hlk (t := .boolean) hret (by simp) (hb hby at_180) (by decide) (by decide) rfl ⟨rfl, N86⟩
                · skip
                  exact absurd (by decide : (0 : Int32) = (0 : Int32)) hq72_1_0
        · rw [qr20]
          show own_Go _ _ _ _ T18 (mkF m 83 #[.val (.int ip0), .val (.int ip1), .val (.int ip2), .val (.int ip3), .val (.ref b2), .val (.ref b6), .val (.ref b9), .unset, .unset, .unset] [(.int (3 : Int32))])
          refine own_st (fun t k => XS.istore X18.here hx rfl (hb hby at_83) rfl (l' := #[.val (.int ip0), .val (.int ip1), .val (.int ip2), .val (.int ip3), .val (.ref b2), .val (.ref b6), .val (.ref b9), .val (.int (3 : Int32)), .unset, .unset]) rfl k) ?_
          show own_Go _ _ _ _ T18 (mkF m 85 #[.val (.int ip0), .val (.int ip1), .val (.int ip2), .val (.int ip3), .val (.ref b2), .val (.ref b6), .val (.ref b9), .val (.int (3 : Int32)), .unset, .unset] [])
          refine own_st (fun t k => XS.aload X18.here hx rfl (hb hby at_85) rfl rfl k) ?_
          show own_Go _ _ _ _ T18 (mkF m 87 #[.val (.int ip0), .val (.int ip1), .val (.int ip2), .val (.int ip3), .val (.ref b2), .val (.ref b6), .val (.ref b9), .val (.int (3 : Int32)), .unset, .unset] [(.ref b9)])
          refine own_st (fun t k => XS.iload X18.here hx rfl (hb hby at_87) rfl k) ?_
          show own_Go _ _ _ _ T18 (mkF m 89 #[.val (.int ip0), .val (.int ip1), .val (.int ip2), .val (.int ip3), .val (.ref b2), .val (.ref b6), .val (.ref b9), .val (.int (3 : Int32)), .unset, .unset] [(.int (3 : Int32)), (.ref b9)])
          have f87 := (f16.keep Kq18)
          have f88 := (own_stak S_NONE K18 all0)
          obtain ⟨cq89, kq89, q89a, q89b, q89c⟩ := isOf hZ rfl f87
          obtain ⟨_, _, ⟨T89, L89, k89, n89⟩, -, X89, ⟨Lc89, hQ89, l89, y89, z89⟩, st89⟩ := X18.virtualBack hx (y := (⟨"com/example/backchannel/backchannel/server/ByteQueue", "remove", "(I)V"⟩ : MethodName)) (z := (⟨"com/example/backchannel/backchannel/server/ByteQueue", "remove", "(I)V"⟩ : MethodName)) hown (mvT hZ (own_w hw 40 rfl)) (mvT hZ (own_w hw 41 rfl)) (notFace_of_selects (args := #[]) (mvT hZ (own_w hw 43 rfl))) (mvT hZ (own_w hw 43 rfl)) (mvT hZ (own_w hw 42 rfl)) (by decide) (backOf (W := 0) (own_rm7_32 l Z a0 hw [] b9 w_NONE b8x4_8c1c18 T18.heap n0 Z18 Fc18_0_1 Fc18_0_2 f87 g_b9 f88 Fc18_0_0) hZ (own_w hw 44 rfl) (own_w hw 3 rfl) (by decide) (by decide)) q89a q89c (g := (mkF m 89 #[.val (.int ip0), .val (.int ip1), .val (.int ip2), .val (.int ip3), .val (.ref b2), .val (.ref b6), .val (.ref b9), .val (.int (3 : Int32)), .unset, .unset] [(.int (3 : Int32)), (.ref b9)])) rfl (by rw [hml]; rfl) (Steps.refl _) (argsL := [(.int (3 : Int32))]) (rest := []) (lenOf own_pd3 rfl) rfl (by show 2 * 0 + _ ≤ _; exact Nat.le_of_eq rfl) (hb hby at_89) (fun _ _ => ⟨rfl, rfl, (by decide : 4 + 0 ≤ _), (by decide : 520 + 0 ≤ _)⟩)
          dsimp only [Pt.U, Pt.locs, Pt.cells, Pt.slots] at X89 l89 y89 z89 st89 hQ89
          subst l89 y89 z89
          obtain ⟨N89q, Kq89, hL89⟩ := hQ89
          have N89 := Fr.app N18 N89q
          have K89 : Keep h0 T89.heap [] := K18.trans Kq89 (allS (Or.inr sz_b9) all0)
          have Z89 := Nat.le_trans Z18 Kq89.1
          rcases hL89 with ⟨rfl, Fc89_0_0, Fc89_0_1, Fc89_0_2, -⟩
          · skip
            refine own_st (fun t k => st89.trans k) ?_
            show own_Go _ _ _ _ T89 (mkF m 92 #[.val (.int ip0), .val (.int ip1), .val (.int ip2), .val (.int ip3), .val (.ref b2), .val (.ref b6), .val (.ref b9), .val (.int (3 : Int32)), .unset, .unset] [])
            refine own_st (fun t k => XS.aload X89.here hx rfl (hb hby at_92) rfl rfl k) ?_
            show own_Go _ _ _ _ T89 (mkF m 94 #[.val (.int ip0), .val (.int ip1), .val (.int ip2), .val (.int ip3), .val (.ref b2), .val (.ref b6), .val (.ref b9), .val (.int (3 : Int32)), .unset, .unset] [(.ref b9)])
            have f90 := (own_stak f88 Kq89 (allS (own_plE f87) all0))
            have f91 := (f87.keep Kq89)
            obtain ⟨cq92, kq92, q92a, q92b, q92c⟩ := isOf hZ rfl f91
            obtain ⟨_, _, ⟨T92, L92, k92, n92⟩, -, X92, ⟨Lc92, hQ92, l92, y92, z92⟩, st92⟩ := X89.virtualBack hx (y := (⟨"com/example/backchannel/backchannel/server/ByteQueue", "clear", "()V"⟩ : MethodName)) (z := (⟨"com/example/backchannel/backchannel/server/ByteQueue", "clear", "()V"⟩ : MethodName)) hown (mvT hZ (own_w hw 50 rfl)) (mvT hZ (own_w hw 46 rfl)) (notFace_of_selects (args := #[]) (mvT hZ (own_w hw 48 rfl))) (mvT hZ (own_w hw 48 rfl)) (mvT hZ (own_w hw 47 rfl)) (by decide) (backOf (W := 0) (own_rm8_36 l Z a0 hw [] b9 w_NONE T89.heap n0 Z89 f90 f91 Fc89_0_2 g_b9 Fc89_0_1 Fc89_0_0) hZ (own_w hw 49 rfl) (own_w hw 3 rfl) (by decide) (by decide)) q92a q92c (g := (mkF m 94 #[.val (.int ip0), .val (.int ip1), .val (.int ip2), .val (.int ip3), .val (.ref b2), .val (.ref b6), .val (.ref b9), .val (.int (3 : Int32)), .unset, .unset] [(.ref b9)])) rfl (by rw [hml]; rfl) (Steps.refl _) (argsL := []) (rest := []) (lenOf own_pd0 rfl) rfl (by show 2 * 0 + _ ≤ _; exact Nat.le_of_eq rfl) (hb hby at_94) (fun _ _ => ⟨rfl, rfl, (by decide : 4 + 0 ≤ _), (by decide : 520 + 0 ≤ _)⟩)
            dsimp only [Pt.U, Pt.locs, Pt.cells, Pt.slots] at X92 l92 y92 z92 st92 hQ92
            subst l92 y92 z92
            obtain ⟨N92q, Kq92, hL92⟩ := hQ92
            have N92 := Fr.app N89 N92q
            have K92 : Keep h0 T92.heap [] := K89.trans Kq92 (allS (Or.inr sz_b9) all0)
            have Z92 := Nat.le_trans Z89 Kq92.1
            rcases hL92 with ⟨rfl, Fc92_0_0, Fc92_0_1, Fc92_0_2, -⟩
            · skip
              refine own_st (fun t k => st92.trans k) ?_
              show own_Go _ _ _ _ T92 (mkF m 97 #[.val (.int ip0), .val (.int ip1), .val (.int ip2), .val (.int ip3), .val (.ref b2), .val (.ref b6), .val (.ref b9), .val (.int (3 : Int32)), .unset, .unset] [])
              refine own_st (fun t k => XS.aload X92.here hx rfl (hb hby at_97) rfl rfl k) ?_
              show own_Go _ _ _ _ T92 (mkF m 99 #[.val (.int ip0), .val (.int ip1), .val (.int ip2), .val (.int ip3), .val (.ref b2), .val (.ref b6), .val (.ref b9), .val (.int (3 : Int32)), .unset, .unset] [(.ref b9)])
              have f94 := (f91.keep Kq92)
              obtain ⟨cq93, kq93, q93a, q93b, q93c⟩ := isOf hZ rfl f94
              obtain ⟨_, _, ⟨T93, L93, k93, n93⟩, -, X93, ⟨Lc93, hQ93, l93, y93, z93⟩, st93⟩ := X92.virtualBack hx (y := (⟨"com/example/backchannel/backchannel/server/ByteQueue", "size", "()I"⟩ : MethodName)) (z := (⟨"com/example/backchannel/backchannel/server/ByteQueue", "size", "()I"⟩ : MethodName)) hown (mvT hZ (own_w hw 51 rfl)) (mvT hZ (own_w hw 26 rfl)) (notFace_of_selects (args := #[]) (mvT hZ (own_w hw 28 rfl))) (mvT hZ (own_w hw 28 rfl)) (mvT hZ (own_w hw 27 rfl)) (by decide) (backOf (W := 0) (own_rm5 l Z a0 hw [] b9 (0 : Int32) (0 : Int32) T92.heap n0 Z92 Fc92_0_2 Fc92_0_1) hZ (own_w hw 29 rfl) (own_w hw 3 rfl) (by decide) (by decide)) q93a q93c (g := (mkF m 99 #[.val (.int ip0), .val (.int ip1), .val (.int ip2), .val (.int ip3), .val (.ref b2), .val (.ref b6), .val (.ref b9), .val (.int (3 : Int32)), .unset, .unset] [(.ref b9)])) rfl (by rw [hml]; rfl) (Steps.refl _) (argsL := []) (rest := []) (lenOf own_pd1 rfl) rfl (by show 2 * 0 + _ ≤ _; exact Nat.le_of_eq rfl) (hb hby at_99) (fun _ _ => ⟨rfl, rfl, (by decide : 4 + 0 ≤ _), (by decide : 520 + 0 ≤ _)⟩)
              dsimp only [Pt.U, Pt.locs, Pt.cells, Pt.slots] at X93 l93 y93 z93 st93 hQ93
              subst l93 y93 z93
              obtain ⟨N93q, e93, hL93⟩ := hQ93
              have N93 := Fr.app N92 N93q
              rcases hL93 with ⟨rfl, -⟩
              · skip
                refine own_st (fun t k => st93.trans k) ?_
                show own_Go _ _ _ _ T93 (mkF m 102 #[.val (.int ip0), .val (.int ip1), .val (.int ip2), .val (.int ip3), .val (.ref b2), .val (.ref b6), .val (.ref b9), .val (.int (3 : Int32)), .unset, .unset] [(.int ((0 : Int32) - (0 : Int32)))])
                refine own_st (fun t k => XS.ifNo X93.here hx rfl (hb hby at_102) rfl ((if0 _ _).trans (teq (by decide : ((0 : Int32) - (0 : Int32)) = (0 : Int32))).2) k) ?_
                show own_Go _ _ _ _ T93 (mkF m 105 #[.val (.int ip0), .val (.int ip1), .val (.int ip2), .val (.int ip3), .val (.ref b2), .val (.ref b6), .val (.ref b9), .val (.int (3 : Int32)), .unset, .unset] [])
                refine own_st (fun t k => XS.aload X93.here hx rfl (hb hby at_105) rfl rfl k) ?_
                show own_Go _ _ _ _ T93 (mkF m 107 #[.val (.int ip0), .val (.int ip1), .val (.int ip2), .val (.int ip3), .val (.ref b2), .val (.ref b6), .val (.ref b9), .val (.int (3 : Int32)), .unset, .unset] [(.ref b9)])
                obtain ⟨cq95, kq95, q95a, q95b, q95c⟩ := isOf hZ e93 f94
                obtain ⟨_, _, ⟨T95, L95, k95, n95⟩, -, X95, ⟨Lc95, hQ95, l95, y95, z95⟩, st95⟩ := X93.virtualBack hx (y := (⟨"com/example/backchannel/backchannel/server/ByteQueue", "isEmpty", "()Z"⟩ : MethodName)) (z := (⟨"com/example/backchannel/backchannel/server/ByteQueue", "isEmpty", "()Z"⟩ : MethodName)) hown (mvT hZ (own_w hw 52 rfl)) (mvT hZ (own_w hw 53 rfl)) (notFace_of_selects (args := #[]) (mvT hZ (own_w hw 55 rfl))) (mvT hZ (own_w hw 55 rfl)) (mvT hZ (own_w hw 54 rfl)) (by decide) (backOf (W := 0) (own_rm9 l Z a0 hw [] b9 (0 : Int32) (0 : Int32) T92.heap n0 Z92 Fc92_0_2 Fc92_0_1) hZ (own_w hw 56 rfl) (own_w hw 3 rfl) (by decide) (by decide)) q95a q95c (g := (mkF m 107 #[.val (.int ip0), .val (.int ip1), .val (.int ip2), .val (.int ip3), .val (.ref b2), .val (.ref b6), .val (.ref b9), .val (.int (3 : Int32)), .unset, .unset] [(.ref b9)])) rfl (by rw [hml]; rfl) (Steps.refl _) (argsL := []) (rest := []) (lenOf own_pd5 rfl) rfl (by show 2 * 0 + _ ≤ _; exact Nat.le_of_eq rfl) (hb hby at_107) (fun _ _ => ⟨rfl, e93, (by decide : 4 + 0 ≤ _), (by decide : 520 + 0 ≤ _)⟩)
                dsimp only [Pt.U, Pt.locs, Pt.cells, Pt.slots] at X95 l95 y95 z95 st95 hQ95
                subst l95 y95 z95
                obtain ⟨N95q, e95, hL95⟩ := hQ95
                have N95 := Fr.app N93 N95q
                rcases hL95 with ⟨rfl, hq95_0_0, -⟩ | ⟨rfl, hq95_1_0, -⟩
                · skip
                  refine own_st (fun t k => st95.trans k) ?_
                  show own_Go _ _ _ _ T95 (mkF m 110 #[.val (.int ip0), .val (.int ip1), .val (.int ip2), .val (.int ip3), .val (.ref b2), .val (.ref b6), .val (.ref b9), .val (.int (3 : Int32)), .unset, .unset] [(.int (1 : Int32))])
                  refine own_st (fun t k => XS.ifNo X95.here hx rfl (hb hby at_110) rfl ((if0 _ _).trans (feq (by decide : ¬ ((1 : Int32) = (0 : Int32)))).1) k) ?_
                  show own_Go _ _ _ _ T95 (mkF m 113 #[.val (.int ip0), .val (.int ip1), .val (.int ip2), .val (.int ip3), .val (.ref b2), .val (.ref b6), .val (.ref b9), .val (.int (3 : Int32)), .unset, .unset] [])
                  refine own_st (fun t k => XS.iconst X95.here hx rfl (hb hby at_113) k) ?_
                  show own_Go _ _ _ _ T95 (mkF m 114 #[.val (.int ip0), .val (.int ip1), .val (.int ip2), .val (.int ip3), .val (.ref b2), .val (.ref b6), .val (.ref b9), .val (.int (3 : Int32)), .unset, .unset] [(.int (1 : Int32))])
                  refine own_st (fun t k => XS.goto X95.here hx rfl (pc0 := 114) (pc' := 118) rfl (hb hby at_114) (by decide) (by decide) k) ?_
                  show own_Go _ _ _ _ T95 (mkF m 118 #[.val (.int ip0), .val (.int ip1), .val (.int ip2), .val (.int ip3), .val (.ref b2), .val (.ref b6), .val (.ref b9), .val (.int (3 : Int32)), .unset, .unset] [(.int (1 : Int32))])
                  refine own_st (fun t k => XS.istore X95.here hx rfl (hb hby at_118) rfl (l' := #[.val (.int ip0), .val (.int ip1), .val (.int ip2), .val (.int ip3), .val (.ref b2), .val (.ref b6), .val (.ref b9), .val (.int (3 : Int32)), .val (.int (1 : Int32)), .unset]) rfl k) ?_
                  show own_Go _ _ _ _ T95 (mkF m 120 #[.val (.int ip0), .val (.int ip1), .val (.int ip2), .val (.int ip3), .val (.ref b2), .val (.ref b6), .val (.ref b9), .val (.int (3 : Int32)), .val (.int (1 : Int32)), .unset] [])
                  refine own_st (fun t k => XS.aload X95.here hx rfl (hb hby at_120) rfl rfl k) ?_
                  show own_Go _ _ _ _ T95 (mkF m 122 #[.val (.int ip0), .val (.int ip1), .val (.int ip2), .val (.int ip3), .val (.ref b2), .val (.ref b6), .val (.ref b9), .val (.int (3 : Int32)), .val (.int (1 : Int32)), .unset] [(.ref b9)])
                  refine own_st (fun t k => XS.aload X95.here hx rfl (hb hby at_122) rfl rfl k) ?_
                  show own_Go _ _ _ _ T95 (mkF m 124 #[.val (.int ip0), .val (.int ip1), .val (.int ip2), .val (.int ip3), .val (.ref b2), .val (.ref b6), .val (.ref b9), .val (.int (3 : Int32)), .val (.int (1 : Int32)), .unset] [(.ref b6), (.ref b9)])
                  have ne96 : b6 ≠ b9 := Nat.ne_of_lt (Nat.lt_of_lt_of_le V8.lt (Nat.le_of_eq g9.symm))
                  have f97 := (((((V8.ext E9).keep Kq11 (ninS ne96 nin0)).keep Kq18 (ninS ne96 nin0)).keep Kq89 (ninS ne96 nin0)).keep Kq92 (ninS ne96 nin0))
                  have f98 := (V_w_NONE.keep K92 nin0)
                  have f99 := (((((((Ex6.wr W7).wr W8).ext E9).keep Kq11).keep Kq18).keep Kq89).keep Kq92)
                  obtain ⟨cq100, kq100, q100a, q100b, q100c⟩ := isOf hZ e95 f94
                  obtain ⟨_, _, ⟨T100, L100, k100, n100⟩, -, X100, ⟨Lc100, hQ100, l100, y100, z100⟩, st100⟩ := X95.virtualBack hx (y := (⟨"com/example/backchannel/backchannel/server/ByteQueue", "append", "([B)V"⟩ : MethodName)) (z := (⟨"com/example/backchannel/backchannel/server/ByteQueue", "append", "([B)V"⟩ : MethodName)) hown (mvT hZ (own_w hw 14 rfl)) (mvT hZ (own_w hw 15 rfl)) (notFace_of_selects (args := #[]) (mvT hZ (own_w hw 17 rfl))) (mvT hZ (own_w hw 17 rfl)) (mvT hZ (own_w hw 16 rfl)) (by decide) (backOf (W := 0) (own_rm3_16 l Z a0 hw [] b9 b6 k6 ip2 ip3 w_NONE k_w_NONE T92.heap n0 Z92 f97 Fc92_0_0 f98 Fc92_0_2 Fc92_0_1 f94 g_b9 f99) hZ (own_w hw 18 rfl) (own_w hw 3 rfl) (by decide) (by decide)) q100a q100c (g := (mkF m 124 #[.val (.int ip0), .val (.int ip1), .val (.int ip2), .val (.int ip3), .val (.ref b2), .val (.ref b6), .val (.ref b9), .val (.int (3 : Int32)), .val (.int (1 : Int32)), .unset] [(.ref b6), (.ref b9)])) rfl (by rw [hml]; rfl) (Steps.refl _) (argsL := [(.ref b6)]) (rest := []) (lenOf own_pd4 rfl) rfl (by show 2 * 0 + _ ≤ _; exact Nat.le_of_eq rfl) (hb hby at_124) (fun _ _ => ⟨rfl, e95, (by decide : 4 + 1 ≤ _), (by decide : 520 + 512 ≤ _)⟩)
                  dsimp only [Pt.U, Pt.locs, Pt.cells, Pt.slots] at X100 l100 y100 z100 st100 hQ100
                  subst l100 y100 z100
                  obtain ⟨N100q, Kq100, hL100⟩ := hQ100
                  have N100 := Fr.app N95 N100q
                  have K100 : Keep h0 T100.heap [] := K92.trans Kq100 (allS (Or.inr sz_b9) all0)
                  have Z100 := Nat.le_trans Z92 Kq100.1
                  rcases hL100 with ⟨b8x4_18c1c100, k8x4_18c1c100, rfl, hq100_0_0, sq_b8x4_18c1c100, Fc100_0_0, Fc100_0_1, Fc100_0_2, Fc100_0_3, Fc100_0_4, -⟩
                  · skip
                    have g_b8x4_18c1c100 : n0 ≤ b8x4_18c1c100 := Nat.le_trans Z92 sq_b8x4_18c1c100
                    have sz_b8x4_18c1c100 : h0.size ≤ b8x4_18c1c100 := Nat.le_trans K92.1 sq_b8x4_18c1c100
                    refine own_st (fun t k => st100.trans k) ?_
                    show own_Go _ _ _ _ T100 (mkF m 127 #[.val (.int ip0), .val (.int ip1), .val (.int ip2), .val (.int ip3), .val (.ref b2), .val (.ref b6), .val (.ref b9), .val (.int (3 : Int32)), .val (.int (1 : Int32)), .unset] [])
                    refine own_st (fun t k => XS.aload X100.here hx rfl (hb hby at_127) rfl rfl k) ?_
                    show own_Go _ _ _ _ T100 (mkF m 129 #[.val (.int ip0), .val (.int ip1), .val (.int ip2), .val (.int ip3), .val (.ref b2), .val (.ref b6), .val (.ref b9), .val (.int (3 : Int32)), .val (.int (1 : Int32)), .unset] [(.ref b9)])
                    have f102 := (f94.keep Kq100)
                    obtain ⟨cq101, kq101, q101a, q101b, q101c⟩ := isOf hZ rfl f102
                    obtain ⟨_, _, ⟨T101, L101, k101, n101⟩, -, X101, ⟨Lc101, hQ101, l101, y101, z101⟩, st101⟩ := X100.virtualBack hx (y := (⟨"com/example/backchannel/backchannel/server/ByteQueue", "size", "()I"⟩ : MethodName)) (z := (⟨"com/example/backchannel/backchannel/server/ByteQueue", "size", "()I"⟩ : MethodName)) hown (mvT hZ (own_w hw 51 rfl)) (mvT hZ (own_w hw 26 rfl)) (notFace_of_selects (args := #[]) (mvT hZ (own_w hw 28 rfl))) (mvT hZ (own_w hw 28 rfl)) (mvT hZ (own_w hw 27 rfl)) (by decide) (backOf (W := 0) (own_rm5 l Z a0 hw [] b9 (((0 : Int32) - (0 : Int32)) + (2 : Int32)) (0 : Int32) T100.heap n0 Z100 Fc100_0_1 Fc100_0_2) hZ (own_w hw 29 rfl) (own_w hw 3 rfl) (by decide) (by decide)) q101a q101c (g := (mkF m 129 #[.val (.int ip0), .val (.int ip1), .val (.int ip2), .val (.int ip3), .val (.ref b2), .val (.ref b6), .val (.ref b9), .val (.int (3 : Int32)), .val (.int (1 : Int32)), .unset] [(.ref b9)])) rfl (by rw [hml]; rfl) (Steps.refl _) (argsL := []) (rest := []) (lenOf own_pd1 rfl) rfl (by show 2 * 0 + _ ≤ _; exact Nat.le_of_eq rfl) (hb hby at_129) (fun _ _ => ⟨rfl, rfl, (by decide : 5 + 0 ≤ _), (by decide : 1032 + 0 ≤ _)⟩)
                    dsimp only [Pt.U, Pt.locs, Pt.cells, Pt.slots] at X101 l101 y101 z101 st101 hQ101
                    subst l101 y101 z101
                    obtain ⟨N101q, e101, hL101⟩ := hQ101
                    have N101 := Fr.app N100 N101q
                    rcases hL101 with ⟨rfl, -⟩
                    · skip
                      refine own_st (fun t k => st101.trans k) ?_
                      show own_Go _ _ _ _ T101 (mkF m 132 #[.val (.int ip0), .val (.int ip1), .val (.int ip2), .val (.int ip3), .val (.ref b2), .val (.ref b6), .val (.ref b9), .val (.int (3 : Int32)), .val (.int (1 : Int32)), .unset] [(.int ((((0 : Int32) - (0 : Int32)) + (2 : Int32)) - (0 : Int32)))])
                      refine own_st (fun t k => XS.iconst X101.here hx rfl (hb hby at_132) k) ?_
                      show own_Go _ _ _ _ T101 (mkF m 133 #[.val (.int ip0), .val (.int ip1), .val (.int ip2), .val (.int ip3), .val (.ref b2), .val (.ref b6), .val (.ref b9), .val (.int (3 : Int32)), .val (.int (1 : Int32)), .unset] [(.int (2 : Int32)), (.int ((((0 : Int32) - (0 : Int32)) + (2 : Int32)) - (0 : Int32)))])
                      refine own_st (fun t k => XS.icmpNo X101.here hx rfl (hb hby at_133) rfl (teq (by decide : ((((0 : Int32) - (0 : Int32)) + (2 : Int32)) - (0 : Int32)) = (2 : Int32))).2 k) ?_
                      show own_Go _ _ _ _ T101 (mkF m 136 #[.val (.int ip0), .val (.int ip1), .val (.int ip2), .val (.int ip3), .val (.ref b2), .val (.ref b6), .val (.ref b9), .val (.int (3 : Int32)), .val (.int (1 : Int32)), .unset] [])
                      refine own_st (fun t k => XS.aload X101.here hx rfl (hb hby at_136) rfl rfl k) ?_
                      show own_Go _ _ _ _ T101 (mkF m 138 #[.val (.int ip0), .val (.int ip1), .val (.int ip2), .val (.int ip3), .val (.ref b2), .val (.ref b6), .val (.ref b9), .val (.int (3 : Int32)), .val (.int (1 : Int32)), .unset] [(.ref b9)])
                      refine own_st (fun t k => XS.iconst X101.here hx rfl (hb hby at_138) k) ?_
                      show own_Go _ _ _ _ T101 (mkF m 139 #[.val (.int ip0), .val (.int ip1), .val (.int ip2), .val (.int ip3), .val (.ref b2), .val (.ref b6), .val (.ref b9), .val (.int (3 : Int32)), .val (.int (1 : Int32)), .unset] [(.int (0 : Int32)), (.ref b9)])
                      obtain ⟨cq103, kq103, q103a, q103b, q103c⟩ := isOf hZ e101 f102
                      obtain ⟨_, _, ⟨T103, L103, k103, n103⟩, -, X103, ⟨Lc103, hQ103, l103, y103, z103⟩, st103⟩ := X101.virtualBack hx (y := (⟨"com/example/backchannel/backchannel/server/ByteQueue", "at", "(I)B"⟩ : MethodName)) (z := (⟨"com/example/backchannel/backchannel/server/ByteQueue", "at", "(I)B"⟩ : MethodName)) hown (mvT hZ (own_w hw 57 rfl)) (mvT hZ (own_w hw 58 rfl)) (notFace_of_selects (args := #[]) (mvT hZ (own_w hw 60 rfl))) (mvT hZ (own_w hw 60 rfl)) (mvT hZ (own_w hw 59 rfl)) (by decide) (backOf (W := 0) (own_rm10_19 l Z a0 hw [] b9 b8x4_18c1c100 k8x4_18c1c100 ip2 ip3 T100.heap n0 Z100 Fc100_0_1 Fc100_0_2 f102 Fc100_0_0 Fc100_0_3) hZ (own_w hw 61 rfl) (own_w hw 3 rfl) (by decide) (by decide)) q103a q103c (g := (mkF m 139 #[.val (.int ip0), .val (.int ip1), .val (.int ip2), .val (.int ip3), .val (.ref b2), .val (.ref b6), .val (.ref b9), .val (.int (3 : Int32)), .val (.int (1 : Int32)), .unset] [(.int (0 : Int32)), (.ref b9)])) rfl (by rw [hml]; rfl) (Steps.refl _) (argsL := [(.int (0 : Int32))]) (rest := []) (lenOf own_pd6 rfl) rfl (by show 2 * 0 + _ ≤ _; exact Nat.le_of_eq rfl) (hb hby at_139) (fun _ _ => ⟨rfl, e101, (by decide : 5 + 0 ≤ _), (by decide : 1032 + 0 ≤ _)⟩)
                      dsimp only [Pt.U, Pt.locs, Pt.cells, Pt.slots] at X103 l103 y103 z103 st103 hQ103
                      subst l103 y103 z103
                      obtain ⟨N103q, Kq103, hL103⟩ := hQ103
                      have N103 := Fr.app N101 N103q
                      have K103 : Keep h0 T103.heap [] := K100.trans Kq103 all0
                      have Z103 := Nat.le_trans Z100 Kq103.1
                      rcases hL103 with ⟨rfl, -⟩
                      · skip
                        refine own_st (fun t k => st103.trans k) ?_
                        show own_Go _ _ _ _ T103 (mkF m 142 #[.val (.int ip0), .val (.int ip1), .val (.int ip2), .val (.int ip3), .val (.ref b2), .val (.ref b6), .val (.ref b9), .val (.int (3 : Int32)), .val (.int (1 : Int32)), .unset] [(.int (nar .byte (nar .byte (ip2.toInt8.toInt32))))])
                        refine own_st (fun t k => XS.iloadN X103.here hx rfl (hb hby at_142) rfl k) ?_
                        show own_Go _ _ _ _ T103 (mkF m 143 #[.val (.int ip0), .val (.int ip1), .val (.int ip2), .val (.int ip3), .val (.ref b2), .val (.ref b6), .val (.ref b9), .val (.int (3 : Int32)), .val (.int (1 : Int32)), .unset] [(.int ip2), (.int (nar .byte (nar .byte (ip2.toInt8.toInt32))))])
                        refine own_st (fun t k => XS.i2b X103.here hx rfl (hb hby at_143) rfl k) ?_
                        show own_Go _ _ _ _ T103 (mkF m 144 #[.val (.int ip0), .val (.int ip1), .val (.int ip2), .val (.int ip3), .val (.ref b2), .val (.ref b6), .val (.ref b9), .val (.int (3 : Int32)), .val (.int (1 : Int32)), .unset] [(.int (ip2.toInt8.toInt32)), (.int (nar .byte (nar .byte (ip2.toInt8.toInt32))))])
                        refine own_st (fun t k => XS.icmpNo X103.here hx rfl (hb hby at_144) rfl (teq (by simp only [own_nb] : (nar .byte (nar .byte (ip2.toInt8.toInt32))) = (ip2.toInt8.toInt32))).2 k) ?_
                        show own_Go _ _ _ _ T103 (mkF m 147 #[.val (.int ip0), .val (.int ip1), .val (.int ip2), .val (.int ip3), .val (.ref b2), .val (.ref b6), .val (.ref b9), .val (.int (3 : Int32)), .val (.int (1 : Int32)), .unset] [])
                        refine own_st (fun t k => XS.aload X103.here hx rfl (hb hby at_147) rfl rfl k) ?_
                        show own_Go _ _ _ _ T103 (mkF m 149 #[.val (.int ip0), .val (.int ip1), .val (.int ip2), .val (.int ip3), .val (.ref b2), .val (.ref b6), .val (.ref b9), .val (.int (3 : Int32)), .val (.int (1 : Int32)), .unset] [(.ref b9)])
                        refine own_st (fun t k => XS.iconst X103.here hx rfl (hb hby at_149) k) ?_
                        show own_Go _ _ _ _ T103 (mkF m 150 #[.val (.int ip0), .val (.int ip1), .val (.int ip2), .val (.int ip3), .val (.ref b2), .val (.ref b6), .val (.ref b9), .val (.int (3 : Int32)), .val (.int (1 : Int32)), .unset] [(.int (1 : Int32)), (.ref b9)])
                        have f104 := (Fc100_0_1.keep Kq103 nin0)
                        have f105 := (Fc100_0_2.keep Kq103 nin0)
                        have f106 := (f102.keep Kq103)
                        have f107 := (Fc100_0_0.keep Kq103 nin0)
                        have f108 := (Fc100_0_3.keep Kq103 nin0)
                        obtain ⟨cq109, kq109, q109a, q109b, q109c⟩ := isOf hZ rfl f106
                        obtain ⟨_, _, ⟨T109, L109, k109, n109⟩, -, X109, ⟨Lc109, hQ109, l109, y109, z109⟩, st109⟩ := X103.virtualBack hx (y := (⟨"com/example/backchannel/backchannel/server/ByteQueue", "at", "(I)B"⟩ : MethodName)) (z := (⟨"com/example/backchannel/backchannel/server/ByteQueue", "at", "(I)B"⟩ : MethodName)) hown (mvT hZ (own_w hw 57 rfl)) (mvT hZ (own_w hw 58 rfl)) (notFace_of_selects (args := #[]) (mvT hZ (own_w hw 60 rfl))) (mvT hZ (own_w hw 60 rfl)) (mvT hZ (own_w hw 59 rfl)) (by decide) (backOf (W := 0) (own_rm10_20 l Z a0 hw [] b9 b8x4_18c1c100 k8x4_18c1c100 ip2 ip3 T103.heap n0 Z103 f104 f105 f106 f107 f108) hZ (own_w hw 61 rfl) (own_w hw 3 rfl) (by decide) (by decide)) q109a q109c (g := (mkF m 150 #[.val (.int ip0), .val (.int ip1), .val (.int ip2), .val (.int ip3), .val (.ref b2), .val (.ref b6), .val (.ref b9), .val (.int (3 : Int32)), .val (.int (1 : Int32)), .unset] [(.int (1 : Int32)), (.ref b9)])) rfl (by rw [hml]; rfl) (Steps.refl _) (argsL := [(.int (1 : Int32))]) (rest := []) (lenOf own_pd6 rfl) rfl (by show 2 * 0 + _ ≤ _; exact Nat.le_of_eq rfl) (hb hby at_150) (fun _ _ => ⟨rfl, rfl, (by decide : 5 + 0 ≤ _), (by decide : 1032 + 0 ≤ _)⟩)
                        dsimp only [Pt.U, Pt.locs, Pt.cells, Pt.slots] at X109 l109 y109 z109 st109 hQ109
                        subst l109 y109 z109
                        obtain ⟨N109q, Kq109, hL109⟩ := hQ109
                        have N109 := Fr.app N103 N109q
                        have K109 : Keep h0 T109.heap [] := K103.trans Kq109 all0
                        have Z109 := Nat.le_trans Z103 Kq109.1
                        rcases hL109 with ⟨rfl, -⟩
                        · skip
                          refine own_st (fun t k => st109.trans k) ?_
                          show own_Go _ _ _ _ T109 (mkF m 153 #[.val (.int ip0), .val (.int ip1), .val (.int ip2), .val (.int ip3), .val (.ref b2), .val (.ref b6), .val (.ref b9), .val (.int (3 : Int32)), .val (.int (1 : Int32)), .unset] [(.int (nar .byte (nar .byte (ip3.toInt8.toInt32))))])
                          refine own_st (fun t k => XS.iloadN X109.here hx rfl (hb hby at_153) rfl k) ?_
                          show own_Go _ _ _ _ T109 (mkF m 154 #[.val (.int ip0), .val (.int ip1), .val (.int ip2), .val (.int ip3), .val (.ref b2), .val (.ref b6), .val (.ref b9), .val (.int (3 : Int32)), .val (.int (1 : Int32)), .unset] [(.int ip3), (.int (nar .byte (nar .byte (ip3.toInt8.toInt32))))])
                          refine own_st (fun t k => XS.i2b X109.here hx rfl (hb hby at_154) rfl k) ?_
                          show own_Go _ _ _ _ T109 (mkF m 155 #[.val (.int ip0), .val (.int ip1), .val (.int ip2), .val (.int ip3), .val (.ref b2), .val (.ref b6), .val (.ref b9), .val (.int (3 : Int32)), .val (.int (1 : Int32)), .unset] [(.int (ip3.toInt8.toInt32)), (.int (nar .byte (nar .byte (ip3.toInt8.toInt32))))])
                          refine own_st (fun t k => XS.icmpNo X109.here hx rfl (hb hby at_155) rfl (teq (by simp only [own_nb] : (nar .byte (nar .byte (ip3.toInt8.toInt32))) = (ip3.toInt8.toInt32))).2 k) ?_
                          show own_Go _ _ _ _ T109 (mkF m 158 #[.val (.int ip0), .val (.int ip1), .val (.int ip2), .val (.int ip3), .val (.ref b2), .val (.ref b6), .val (.ref b9), .val (.int (3 : Int32)), .val (.int (1 : Int32)), .unset] [])
                          refine own_st (fun t k => XS.iconst X109.here hx rfl (hb hby at_158) k) ?_
                          show own_Go _ _ _ _ T109 (mkF m 159 #[.val (.int ip0), .val (.int ip1), .val (.int ip2), .val (.int ip3), .val (.ref b2), .val (.ref b6), .val (.ref b9), .val (.int (3 : Int32)), .val (.int (1 : Int32)), .unset] [(.int (1 : Int32))])
                          refine own_st (fun t k => XS.goto X109.here hx rfl (pc0 := 159) (pc' := 163) rfl (hb hby at_159) (by decide) (by decide) k) ?_
                          show own_Go _ _ _ _ T109 (mkF m 163 #[.val (.int ip0), .val (.int ip1), .val (.int ip2), .val (.int ip3), .val (.ref b2), .val (.ref b6), .val (.ref b9), .val (.int (3 : Int32)), .val (.int (1 : Int32)), .unset] [(.int (1 : Int32))])
                          refine own_st (fun t k => XS.istore X109.here hx rfl (hb hby at_163) rfl (l' := #[.val (.int ip0), .val (.int ip1), .val (.int ip2), .val (.int ip3), .val (.ref b2), .val (.ref b6), .val (.ref b9), .val (.int (3 : Int32)), .val (.int (1 : Int32)), .val (.int (1 : Int32))]) rfl k) ?_
                          show own_Go _ _ _ _ T109 (mkF m 165 #[.val (.int ip0), .val (.int ip1), .val (.int ip2), .val (.int ip3), .val (.ref b2), .val (.ref b6), .val (.ref b9), .val (.int (3 : Int32)), .val (.int (1 : Int32)), .val (.int (1 : Int32))] [])
                          refine own_st (fun t k => XS.iload X109.here hx rfl (hb hby at_165) rfl k) ?_
                          show own_Go _ _ _ _ T109 (mkF m 167 #[.val (.int ip0), .val (.int ip1), .val (.int ip2), .val (.int ip3), .val (.ref b2), .val (.ref b6), .val (.ref b9), .val (.int (3 : Int32)), .val (.int (1 : Int32)), .val (.int (1 : Int32))] [(.int (1 : Int32))])
                          refine own_st (fun t k => XS.ifNo X109.here hx rfl (hb hby at_167) rfl ((if0 _ _).trans (feq (by decide : ¬ ((1 : Int32) = (0 : Int32)))).1) k) ?_
                          show own_Go _ _ _ _ T109 (mkF m 170 #[.val (.int ip0), .val (.int ip1), .val (.int ip2), .val (.int ip3), .val (.ref b2), .val (.ref b6), .val (.ref b9), .val (.int (3 : Int32)), .val (.int (1 : Int32)), .val (.int (1 : Int32))] [])
                          refine own_st (fun t k => XS.iload X109.here hx rfl (hb hby at_170) rfl k) ?_
                          show own_Go _ _ _ _ T109 (mkF m 172 #[.val (.int ip0), .val (.int ip1), .val (.int ip2), .val (.int ip3), .val (.ref b2), .val (.ref b6), .val (.ref b9), .val (.int (3 : Int32)), .val (.int (1 : Int32)), .val (.int (1 : Int32))] [(.int (1 : Int32))])
                          refine own_st (fun t k => XS.ifNo X109.here hx rfl (hb hby at_172) rfl ((if0 _ _).trans (feq (by decide : ¬ ((1 : Int32) = (0 : Int32)))).1) k) ?_
                          show own_Go _ _ _ _ T109 (mkF m 175 #[.val (.int ip0), .val (.int ip1), .val (.int ip2), .val (.int ip3), .val (.ref b2), .val (.ref b6), .val (.ref b9), .val (.int (3 : Int32)), .val (.int (1 : Int32)), .val (.int (1 : Int32))] [])
                          refine own_st (fun t k => XS.iconst X109.here hx rfl (hb hby at_175) k) ?_
                          show own_Go _ _ _ _ T109 (mkF m 176 #[.val (.int ip0), .val (.int ip1), .val (.int ip2), .val (.int ip3), .val (.ref b2), .val (.ref b6), .val (.ref b9), .val (.int (3 : Int32)), .val (.int (1 : Int32)), .val (.int (1 : Int32))] [(.int (1 : Int32))])
                          refine own_st (fun t k => XS.goto X109.here hx rfl (pc0 := 176) (pc' := 180) rfl (hb hby at_176) (by decide) (by decide) k) ?_
                          show own_Go _ _ _ _ T109 (mkF m 180 #[.val (.int ip0), .val (.int ip1), .val (.int ip2), .val (.int ip3), .val (.ref b2), .val (.ref b6), .val (.ref b9), .val (.int (3 : Int32)), .val (.int (1 : Int32)), .val (.int (1 : Int32))] [(.int (1 : Int32))])
                          exact own_retZ X109 hx hlk (t := .boolean) hret (by simp) (hb hby at_180) (by decide) (by decide) rfl ⟨rfl, N109⟩
                · skip
                  exact absurd (by decide : (0 : Int32) = (0 : Int32)) hq95_1_0
  · skip
    refine own_st (fun t k => XS.ifNo X0.here hx rfl (hb hby at_3) rfl ((if0 _ _).trans (feq hc1).1) k) ?_
    show own_Go _ _ _ _ s₁ (mkF m 6 #[.val (.int ip0), .val (.int ip1), .val (.int ip2), .val (.int ip3), .unset, .unset, .unset, .unset, .unset, .unset] [])
    refine own_st (fun t k => XS.iconst X0.here hx rfl (hb hby at_6) k) ?_
    show own_Go _ _ _ _ s₁ (mkF m 7 #[.val (.int ip0), .val (.int ip1), .val (.int ip2), .val (.int ip3), .unset, .unset, .unset, .unset, .unset, .unset] [(.int (0 : Int32))])
    obtain ⟨T110, h110, k110, X110, e110, E110, A110, Ex110, st110⟩ := newPE X0 hx hZ (own_w hw 0 rfl) e0 (g := (mkF m 7 #[.val (.int ip0), .val (.int ip1), .val (.int ip2), .val (.int ip3), .unset, .unset, .unset, .unset, .unset, .unset] [(.int (0 : Int32))])) rfl (hb hby at_7) rfl (by decide) (cap := 0) (by decide) (by decide) (by decide) (by decide) (ad := "[B") (by decide +kernel)
    obtain ⟨b110, g110⟩ : ∃ z, z = h0.size := ⟨_, rfl⟩
    rw [← g110] at A110 Ex110 st110
    have g_b110 : n0 ≤ b110 := Nat.le_trans Z0 (Nat.le_of_eq g110.symm)
    have sz_b110 : h0.size ≤ b110 := Nat.le_trans (Keep.refl h0 []).1 (Nat.le_of_eq g110.symm)
    refine own_st st110 ?_
    have K110 : Keep h0 h110 [] := (Keep.refl h0 []).ext E110
    have Z110 := Nat.le_trans Z0 E110.1
    have V110 : Arv Z h110 b110 k110 .byte (0 : Int32) [] (.int (0 : Int32)) := Arv.new A110 (by decide)
    show own_Go _ _ _ _ T110 (mkF m 9 #[.val (.int ip0), .val (.int ip1), .val (.int ip2), .val (.int ip3), .unset, .unset, .unset, .unset, .unset, .unset] [(.ref b110)])
    refine own_st (fun t k => XS.astore X110.here hx rfl (hb hby at_9) rfl rfl (l' := #[.val (.int ip0), .val (.int ip1), .val (.int ip2), .val (.int ip3), .val (.ref b110), .unset, .unset, .unset, .unset, .unset]) rfl k) ?_
    show own_Go _ _ _ _ T110 (mkF m 11 #[.val (.int ip0), .val (.int ip1), .val (.int ip2), .val (.int ip3), .val (.ref b110), .unset, .unset, .unset, .unset, .unset] [])
    refine own_st (fun t k => XS.goto X110.here hx rfl (pc0 := 11) (pc' := 43) rfl (hb hby at_11) (by decide) (by decide) k) ?_
    show own_Go _ _ _ _ T110 (mkF m 43 #[.val (.int ip0), .val (.int ip1), .val (.int ip2), .val (.int ip3), .val (.ref b110), .unset, .unset, .unset, .unset, .unset] [])
    refine own_st (fun t k => XS.iconst X110.here hx rfl (hb hby at_43) k) ?_
    show own_Go _ _ _ _ T110 (mkF m 44 #[.val (.int ip0), .val (.int ip1), .val (.int ip2), .val (.int ip3), .val (.ref b110), .unset, .unset, .unset, .unset, .unset] [(.int (2 : Int32))])
    obtain ⟨T111, h111, k111, X111, e111, E111, A111, Ex111, st111⟩ := newPE X110 hx hZ (own_w hw 0 rfl) e110 (g := (mkF m 44 #[.val (.int ip0), .val (.int ip1), .val (.int ip2), .val (.int ip3), .val (.ref b110), .unset, .unset, .unset, .unset, .unset] [(.int (2 : Int32))])) rfl (hb hby at_44) rfl (by decide) (cap := 2) (by decide) (by decide) (by decide) (by decide) (ad := "[B") (by decide +kernel)
    obtain ⟨b111, g111⟩ : ∃ z, z = h110.size := ⟨_, rfl⟩
    rw [← g111] at A111 Ex111 st111
    have g_b111 : n0 ≤ b111 := Nat.le_trans Z110 (Nat.le_of_eq g111.symm)
    have sz_b111 : h0.size ≤ b111 := Nat.le_trans K110.1 (Nat.le_of_eq g111.symm)
    refine own_st st111 ?_
    have K111 : Keep h0 h111 [] := K110.ext E111
    have Z111 := Nat.le_trans Z110 E111.1
    have V111 : Arv Z h111 b111 k111 .byte (2 : Int32) [(.int (0 : Int32)), (.int (0 : Int32))] (.int (0 : Int32)) := (Arv.new A111 (by decide)).pad (pad_rep [] (.int (0 : Int32)) 2)
    show own_Go _ _ _ _ T111 (mkF m 46 #[.val (.int ip0), .val (.int ip1), .val (.int ip2), .val (.int ip3), .val (.ref b110), .unset, .unset, .unset, .unset, .unset] [(.ref b111)])
    refine own_st (fun t k => XS.dup X111.here hx rfl (hb hby at_46) rfl rfl k) ?_
    show own_Go _ _ _ _ T111 (mkF m 47 #[.val (.int ip0), .val (.int ip1), .val (.int ip2), .val (.int ip3), .val (.ref b110), .unset, .unset, .unset, .unset, .unset] [(.ref b111), (.ref b111)])
    refine own_st (fun t k => XS.iconst X111.here hx rfl (hb hby at_47) k) ?_
    show own_Go _ _ _ _ T111 (mkF m 48 #[.val (.int ip0), .val (.int ip1), .val (.int ip2), .val (.int ip3), .val (.ref b110), .unset, .unset, .unset, .unset, .unset] [(.int (0 : Int32)), (.ref b111), (.ref b111)])
    refine own_st (fun t k => XS.iloadN X111.here hx rfl (hb hby at_48) rfl k) ?_
    show own_Go _ _ _ _ T111 (mkF m 49 #[.val (.int ip0), .val (.int ip1), .val (.int ip2), .val (.int ip3), .val (.ref b110), .unset, .unset, .unset, .unset, .unset] [(.int ip2), (.int (0 : Int32)), (.ref b111), (.ref b111)])
    refine own_st (fun t k => XS.i2b X111.here hx rfl (hb hby at_49) rfl k) ?_
    show own_Go _ _ _ _ T111 (mkF m 50 #[.val (.int ip0), .val (.int ip1), .val (.int ip2), .val (.int ip3), .val (.ref b110), .unset, .unset, .unset, .unset, .unset] [(.int (ip2.toInt8.toInt32)), (.int (0 : Int32)), (.ref b111), (.ref b111)])
    obtain ⟨c112, A112, q112, S112, M112, H112, G112⟩ := V111
    obtain ⟨T112, h112, X112, e112, W112, st112⟩ := stB X111 hx hZ e111 A112 (j := (0 : Int32)) (inb_of S112 ⟨by decide, by decide⟩) (g := (mkF m 50 #[.val (.int ip0), .val (.int ip1), .val (.int ip2), .val (.int ip3), .val (.ref b110), .unset, .unset, .unset, .unset, .unset] [(.int (ip2.toInt8.toInt32)), (.int (0 : Int32)), (.ref b111), (.ref b111)])) rfl rfl (hb hby at_50)
    refine own_st st112 ?_
    have K112 : Keep h0 h112 [] := K111.wr W112 (Or.inr sz_b111)
    have Z112 := Nat.le_trans Z111 (Keep.of_wr W112).1
    have N112 := Fr.snoc X112 N0 g_b111
    have V112 : Arv Z h112 b111 k111 .byte (2 : Int32) [(.int (nar .byte (ip2.toInt8.toInt32))), (.int (0 : Int32))] (.int (0 : Int32)) := Arv.set A112 q112 S112 M112 H112 G112 (fits_nar_byte _) W112 0 rfl (Nat.le_of_ble_eq_true rfl)
    show own_Go _ _ _ _ T112 (mkF m 51 #[.val (.int ip0), .val (.int ip1), .val (.int ip2), .val (.int ip3), .val (.ref b110), .unset, .unset, .unset, .unset, .unset] [(.ref b111)])
    refine own_st (fun t k => XS.dup X112.here hx rfl (hb hby at_51) rfl rfl k) ?_
    show own_Go _ _ _ _ T112 (mkF m 52 #[.val (.int ip0), .val (.int ip1), .val (.int ip2), .val (.int ip3), .val (.ref b110), .unset, .unset, .unset, .unset, .unset] [(.ref b111), (.ref b111)])
    refine own_st (fun t k => XS.iconst X112.here hx rfl (hb hby at_52) k) ?_
    show own_Go _ _ _ _ T112 (mkF m 53 #[.val (.int ip0), .val (.int ip1), .val (.int ip2), .val (.int ip3), .val (.ref b110), .unset, .unset, .unset, .unset, .unset] [(.int (1 : Int32)), (.ref b111), (.ref b111)])
    refine own_st (fun t k => XS.iloadN X112.here hx rfl (hb hby at_53) rfl k) ?_
    show own_Go _ _ _ _ T112 (mkF m 54 #[.val (.int ip0), .val (.int ip1), .val (.int ip2), .val (.int ip3), .val (.ref b110), .unset, .unset, .unset, .unset, .unset] [(.int ip3), (.int (1 : Int32)), (.ref b111), (.ref b111)])
    refine own_st (fun t k => XS.i2b X112.here hx rfl (hb hby at_54) rfl k) ?_
    show own_Go _ _ _ _ T112 (mkF m 55 #[.val (.int ip0), .val (.int ip1), .val (.int ip2), .val (.int ip3), .val (.ref b110), .unset, .unset, .unset, .unset, .unset] [(.int (ip3.toInt8.toInt32)), (.int (1 : Int32)), (.ref b111), (.ref b111)])
    obtain ⟨c113, A113, q113, S113, M113, H113, G113⟩ := V112
    obtain ⟨T113, h113, X113, e113, W113, st113⟩ := stB X112 hx hZ e112 A113 (j := (1 : Int32)) (inb_of S113 ⟨by decide, by decide⟩) (g := (mkF m 55 #[.val (.int ip0), .val (.int ip1), .val (.int ip2), .val (.int ip3), .val (.ref b110), .unset, .unset, .unset, .unset, .unset] [(.int (ip3.toInt8.toInt32)), (.int (1 : Int32)), (.ref b111), (.ref b111)])) rfl rfl (hb hby at_55)
    refine own_st st113 ?_
    have K113 : Keep h0 h113 [] := K112.wr W113 (Or.inr sz_b111)
    have Z113 := Nat.le_trans Z112 (Keep.of_wr W113).1
    have N113 := Fr.snoc X113 N112 g_b111
    have V113 : Arv Z h113 b111 k111 .byte (2 : Int32) [(.int (nar .byte (ip2.toInt8.toInt32))), (.int (nar .byte (ip3.toInt8.toInt32)))] (.int (0 : Int32)) := Arv.set A113 q113 S113 M113 H113 G113 (fits_nar_byte _) W113 1 rfl (Nat.le_of_ble_eq_true rfl)
    show own_Go _ _ _ _ T113 (mkF m 56 #[.val (.int ip0), .val (.int ip1), .val (.int ip2), .val (.int ip3), .val (.ref b110), .unset, .unset, .unset, .unset, .unset] [(.ref b111)])
    refine own_st (fun t k => XS.astore X113.here hx rfl (hb hby at_56) rfl rfl (l' := #[.val (.int ip0), .val (.int ip1), .val (.int ip2), .val (.int ip3), .val (.ref b110), .val (.ref b111), .unset, .unset, .unset, .unset]) rfl k) ?_
    show own_Go _ _ _ _ T113 (mkF m 58 #[.val (.int ip0), .val (.int ip1), .val (.int ip2), .val (.int ip3), .val (.ref b110), .val (.ref b111), .unset, .unset, .unset, .unset] [])
    obtain ⟨T114, h114, X114, e114, E114, A114, D114, -, st114⟩ := newO X113 hx hZ hown (own_w hw 1 rfl) (own_w hw 2 rfl) (own_w hw 3 rfl) e113 (g := (mkF m 58 #[.val (.int ip0), .val (.int ip1), .val (.int ip2), .val (.int ip3), .val (.ref b110), .val (.ref b111), .unset, .unset, .unset, .unset] [])) rfl (hb hby at_58) (by decide) (by decide)
    obtain ⟨b114, g114⟩ : ∃ z, z = h113.size := ⟨_, rfl⟩
    rw [← g114] at A114 D114 st114
    have g_b114 : n0 ≤ b114 := Nat.le_trans Z113 (Nat.le_of_eq g114.symm)
    have sz_b114 : h0.size ≤ b114 := Nat.le_trans K113.1 (Nat.le_of_eq g114.symm)
    refine own_st st114 ?_
    have K114 : Keep h0 h114 [] := K113.ext E114
    have Z114 := Nat.le_trans Z113 E114.1
    have F114_13 : Fld Z h114 b114 "com/example/backchannel/backchannel/server/ByteQueue" "bytes" "[B" .null := D114 (Or.inl (own_w hw 13 rfl)) (ty := (.array .byte)) (by decide)
    have F114_24 : Fld Z h114 b114 "com/example/backchannel/backchannel/server/ByteQueue" "end" "I" (.int (0 : Int32)) := D114 (Or.inl (own_w hw 24 rfl)) (ty := .int) (by decide)
    have F114_31 : Fld Z h114 b114 "com/example/backchannel/backchannel/server/ByteQueue" "start" "I" (.int (0 : Int32)) := D114 (Or.inl (own_w hw 31 rfl)) (ty := .int) (by decide)
    show own_Go _ _ _ _ T114 (mkF m 61 #[.val (.int ip0), .val (.int ip1), .val (.int ip2), .val (.int ip3), .val (.ref b110), .val (.ref b111), .unset, .unset, .unset, .unset] [(.ref b114)])
    refine own_st (fun t k => XS.dup X114.here hx rfl (hb hby at_61) rfl rfl k) ?_
    show own_Go _ _ _ _ T114 (mkF m 62 #[.val (.int ip0), .val (.int ip1), .val (.int ip2), .val (.int ip3), .val (.ref b110), .val (.ref b111), .unset, .unset, .unset, .unset] [(.ref b114), (.ref b114)])
    have f115 := (own_stak S_NONE K114 all0)
    obtain ⟨_, _, ⟨T116, L116, k116, n116⟩, -, X116, ⟨Lc116, hQ116, l116, y116, z116⟩, st116⟩ := X114.specialBack hx (y := (⟨"com/example/backchannel/backchannel/server/ByteQueue", "<init>", "()V"⟩ : MethodName)) rfl hown (mvT hZ (own_w hw 4 rfl)) (mvT hZ (own_w hw 5 rfl)) (mvT hZ (own_w hw 6 rfl)) (by decide) (backOf (W := 1) (own_rm1_2 l Z a0 hw [] b114 w_NONE h114 n0 Z114 f115 A114 F114_13 g_b114 F114_24 F114_31) hZ (own_w hw 6 rfl) (own_w hw 3 rfl) (by decide) (by decide)) (g := (mkF m 62 #[.val (.int ip0), .val (.int ip1), .val (.int ip2), .val (.int ip3), .val (.ref b110), .val (.ref b111), .unset, .unset, .unset, .unset] [(.ref b114), (.ref b114)])) rfl (by rw [hml]; rfl) (Steps.refl _) (a := b114) (argsL := []) (rest := [(.ref b114)]) (lenOf own_pd0 rfl) rfl (by show 2 * 0 + _ ≤ _; exact Nat.le_of_eq rfl) (hb hby at_62) (fun _ _ => ⟨rfl, e114, (by decide : 3 + 0 ≤ _), (by decide : 5 + 0 ≤ _)⟩)
    dsimp only [Pt.U, Pt.locs, Pt.cells, Pt.slots] at X116 l116 y116 z116 st116 hQ116
    subst l116 y116 z116
    obtain ⟨N116q, Kq116, hL116⟩ := hQ116
    have N116 := Fr.app N113 N116q
    have K116 : Keep h0 T116.heap [] := K114.trans Kq116 (allS (Or.inr sz_b114) all0)
    have Z116 := Nat.le_trans Z114 Kq116.1
    rcases hL116 with ⟨rfl, Fc116_0_0, Fc116_0_1, Fc116_0_2, -⟩
    · skip
      refine own_st (fun t k => st116.trans k) ?_
      show own_Go _ _ _ _ T116 (mkF m 65 #[.val (.int ip0), .val (.int ip1), .val (.int ip2), .val (.int ip3), .val (.ref b110), .val (.ref b111), .unset, .unset, .unset, .unset] [(.ref b114)])
      refine own_st (fun t k => XS.astore X116.here hx rfl (hb hby at_65) rfl rfl (l' := #[.val (.int ip0), .val (.int ip1), .val (.int ip2), .val (.int ip3), .val (.ref b110), .val (.ref b111), .val (.ref b114), .unset, .unset, .unset]) rfl k) ?_
      show own_Go _ _ _ _ T116 (mkF m 67 #[.val (.int ip0), .val (.int ip1), .val (.int ip2), .val (.int ip3), .val (.ref b110), .val (.ref b111), .val (.ref b114), .unset, .unset, .unset] [])
      refine own_st (fun t k => XS.aload X116.here hx rfl (hb hby at_67) rfl rfl k) ?_
      show own_Go _ _ _ _ T116 (mkF m 69 #[.val (.int ip0), .val (.int ip1), .val (.int ip2), .val (.int ip3), .val (.ref b110), .val (.ref b111), .val (.ref b114), .unset, .unset, .unset] [(.ref b114)])
      refine own_st (fun t k => XS.aload X116.here hx rfl (hb hby at_69) rfl rfl k) ?_
      show own_Go _ _ _ _ T116 (mkF m 71 #[.val (.int ip0), .val (.int ip1), .val (.int ip2), .val (.int ip3), .val (.ref b110), .val (.ref b111), .val (.ref b114), .unset, .unset, .unset] [(.ref b110), (.ref b114)])
      have ne117 : b110 ≠ b111 := Nat.ne_of_lt (Nat.lt_of_lt_of_le V110.lt (Nat.le_of_eq g111.symm))
      have ne118 : b110 ≠ b114 := Nat.ne_of_lt (Nat.lt_of_lt_of_le (((V110.ext E111).other W112 ne117).other W113 ne117).lt (Nat.le_of_eq g114.symm))
      have f119 := (((((V110.ext E111).other W112 ne117).other W113 ne117).ext E114).keep Kq116 (ninS ne118 nin0))
      have f120 := (V_w_NONE.keep K116 nin0)
      have f121 := (A114.keep Kq116)
      obtain ⟨cq122, kq122, q122a, q122b, q122c⟩ := isOf hZ rfl f121
      obtain ⟨_, _, ⟨T122, L122, k122, n122⟩, -, X122, ⟨Lc122, hQ122, l122, y122, z122⟩, st122⟩ := X116.virtualBack hx (y := (⟨"com/example/backchannel/backchannel/server/ByteQueue", "append", "([B)V"⟩ : MethodName)) (z := (⟨"com/example/backchannel/backchannel/server/ByteQueue", "append", "([B)V"⟩ : MethodName)) hown (mvT hZ (own_w hw 14 rfl)) (mvT hZ (own_w hw 15 rfl)) (notFace_of_selects (args := #[]) (mvT hZ (own_w hw 17 rfl))) (mvT hZ (own_w hw 17 rfl)) (mvT hZ (own_w hw 16 rfl)) (by decide) (backOf (W := 0) (own_rm3_39 l Z a0 hw [] b114 b110 k110 w_NONE k_w_NONE T116.heap n0 Z116 f119 Fc116_0_0 f120 Fc116_0_1 f121 g_b114 Fc116_0_2) hZ (own_w hw 18 rfl) (own_w hw 3 rfl) (by decide) (by decide)) q122a q122c (g := (mkF m 71 #[.val (.int ip0), .val (.int ip1), .val (.int ip2), .val (.int ip3), .val (.ref b110), .val (.ref b111), .val (.ref b114), .unset, .unset, .unset] [(.ref b110), (.ref b114)])) rfl (by rw [hml]; rfl) (Steps.refl _) (argsL := [(.ref b110)]) (rest := []) (lenOf own_pd4 rfl) rfl (by show 2 * 0 + _ ≤ _; exact Nat.le_of_eq rfl) (hb hby at_71) (fun _ _ => ⟨rfl, rfl, (by decide : 3 + 0 ≤ _), (by decide : 5 + 0 ≤ _)⟩)
      dsimp only [Pt.U, Pt.locs, Pt.cells, Pt.slots] at X122 l122 y122 z122 st122 hQ122
      subst l122 y122 z122
      obtain ⟨N122q, Kq122, hL122⟩ := hQ122
      have N122 := Fr.app N116 N122q
      have K122 : Keep h0 T122.heap [] := K116.trans Kq122 (allS (Or.inr sz_b114) all0)
      have Z122 := Nat.le_trans Z116 Kq122.1
      rcases hL122 with ⟨rfl, Fc122_0_0, Fc122_0_1, Fc122_0_2, -⟩
      · skip
        refine own_st (fun t k => st122.trans k) ?_
        show own_Go _ _ _ _ T122 (mkF m 74 #[.val (.int ip0), .val (.int ip1), .val (.int ip2), .val (.int ip3), .val (.ref b110), .val (.ref b111), .val (.ref b114), .unset, .unset, .unset] [])
        refine own_st (fun t k => XS.iloadN X122.here hx rfl (hb hby at_74) rfl k) ?_
        show own_Go _ _ _ _ T122 (mkF m 75 #[.val (.int ip0), .val (.int ip1), .val (.int ip2), .val (.int ip3), .val (.ref b110), .val (.ref b111), .val (.ref b114), .unset, .unset, .unset] [(.int ip1)])
        refine own_st (fun t k => XS.iconst X122.here hx rfl (hb hby at_75) k) ?_
        show own_Go _ _ _ _ T122 (mkF m 76 #[.val (.int ip0), .val (.int ip1), .val (.int ip2), .val (.int ip3), .val (.ref b110), .val (.ref b111), .val (.ref b114), .unset, .unset, .unset] [(.int (3 : Int32)), (.int ip1)])
        refine own_st (fun t k => XS.iand X122.here hx rfl (hb hby at_76) rfl k) ?_
        show own_Go _ _ _ _ T122 (mkF m 77 #[.val (.int ip0), .val (.int ip1), .val (.int ip2), .val (.int ip3), .val (.ref b110), .val (.ref b111), .val (.ref b114), .unset, .unset, .unset] [(.int (ip1 &&& (3 : Int32)))])
        refine own_st (fun t k => XS.aload X122.here hx rfl (hb hby at_77) rfl rfl k) ?_
        show own_Go _ _ _ _ T122 (mkF m 79 #[.val (.int ip0), .val (.int ip1), .val (.int ip2), .val (.int ip3), .val (.ref b110), .val (.ref b111), .val (.ref b114), .unset, .unset, .unset] [(.ref b110), (.int (ip1 &&& (3 : Int32)))])
        have f123 := (f119.keep Kq122 (ninS ne118 nin0))
        refine own_st (own_alen X122 hx hZ rfl f123 (g := (mkF m 79 #[.val (.int ip0), .val (.int ip1), .val (.int ip2), .val (.int ip3), .val (.ref b110), .val (.ref b111), .val (.ref b114), .unset, .unset, .unset] [(.ref b110), (.int (ip1 &&& (3 : Int32)))])) rfl rfl (hb hby at_79)) ?_
        show own_Go _ _ _ _ T122 (mkF m 80 #[.val (.int ip0), .val (.int ip1), .val (.int ip2), .val (.int ip3), .val (.ref b110), .val (.ref b111), .val (.ref b114), .unset, .unset, .unset] [(.int (0 : Int32)), (.int (ip1 &&& (3 : Int32)))])
        refine own_st (fun t k => XS.iconst X122.here hx rfl (hb hby at_80) k) ?_
        show own_Go _ _ _ _ T122 (mkF m 81 #[.val (.int ip0), .val (.int ip1), .val (.int ip2), .val (.int ip3), .val (.ref b110), .val (.ref b111), .val (.ref b114), .unset, .unset, .unset] [(.int (1 : Int32)), (.int (0 : Int32)), (.int (ip1 &&& (3 : Int32)))])
        refine own_st (fun t k => XS.iadd X122.here hx rfl (hb hby at_81) rfl k) ?_
        show own_Go _ _ _ _ T122 (mkF m 82 #[.val (.int ip0), .val (.int ip1), .val (.int ip2), .val (.int ip3), .val (.ref b110), .val (.ref b111), .val (.ref b114), .unset, .unset, .unset] [(.int ((0 : Int32) + (1 : Int32))), (.int (ip1 &&& (3 : Int32)))])
        refine own_st (fun t k => iremM X122 hx rfl (hb hby at_82) rfl (by decide) k) ?_
        show own_Go _ _ _ _ T122 (mkF m 83 #[.val (.int ip0), .val (.int ip1), .val (.int ip2), .val (.int ip3), .val (.ref b110), .val (.ref b111), .val (.ref b114), .unset, .unset, .unset] [(.int ((ip1 &&& (3 : Int32)) % ((0 : Int32) + (1 : Int32))))])
        rcases own_rem1 ip1 with qr124
        · rw [qr124]
          show own_Go _ _ _ _ T122 (mkF m 83 #[.val (.int ip0), .val (.int ip1), .val (.int ip2), .val (.int ip3), .val (.ref b110), .val (.ref b111), .val (.ref b114), .unset, .unset, .unset] [(.int (0 : Int32))])
          refine own_st (fun t k => XS.istore X122.here hx rfl (hb hby at_83) rfl (l' := #[.val (.int ip0), .val (.int ip1), .val (.int ip2), .val (.int ip3), .val (.ref b110), .val (.ref b111), .val (.ref b114), .val (.int (0 : Int32)), .unset, .unset]) rfl k) ?_
          show own_Go _ _ _ _ T122 (mkF m 85 #[.val (.int ip0), .val (.int ip1), .val (.int ip2), .val (.int ip3), .val (.ref b110), .val (.ref b111), .val (.ref b114), .val (.int (0 : Int32)), .unset, .unset] [])
          refine own_st (fun t k => XS.aload X122.here hx rfl (hb hby at_85) rfl rfl k) ?_
          show own_Go _ _ _ _ T122 (mkF m 87 #[.val (.int ip0), .val (.int ip1), .val (.int ip2), .val (.int ip3), .val (.ref b110), .val (.ref b111), .val (.ref b114), .val (.int (0 : Int32)), .unset, .unset] [(.ref b114)])
          refine own_st (fun t k => XS.iload X122.here hx rfl (hb hby at_87) rfl k) ?_
          show own_Go _ _ _ _ T122 (mkF m 89 #[.val (.int ip0), .val (.int ip1), .val (.int ip2), .val (.int ip3), .val (.ref b110), .val (.ref b111), .val (.ref b114), .val (.int (0 : Int32)), .unset, .unset] [(.int (0 : Int32)), (.ref b114)])
          have f125 := (f121.keep Kq122)
          have f126 := (own_stak S_NONE K122 all0)
          obtain ⟨cq127, kq127, q127a, q127b, q127c⟩ := isOf hZ rfl f125
          obtain ⟨_, _, ⟨T127, L127, k127, n127⟩, -, X127, ⟨Lc127, hQ127, l127, y127, z127⟩, st127⟩ := X122.virtualBack hx (y := (⟨"com/example/backchannel/backchannel/server/ByteQueue", "remove", "(I)V"⟩ : MethodName)) (z := (⟨"com/example/backchannel/backchannel/server/ByteQueue", "remove", "(I)V"⟩ : MethodName)) hown (mvT hZ (own_w hw 40 rfl)) (mvT hZ (own_w hw 41 rfl)) (notFace_of_selects (args := #[]) (mvT hZ (own_w hw 43 rfl))) (mvT hZ (own_w hw 43 rfl)) (mvT hZ (own_w hw 42 rfl)) (by decide) (backOf (W := 0) (own_rm7_44 l Z a0 hw [] b114 w_NONE T122.heap n0 Z122 Fc122_0_1 Fc122_0_2 f125 g_b114 f126 Fc122_0_0) hZ (own_w hw 44 rfl) (own_w hw 3 rfl) (by decide) (by decide)) q127a q127c (g := (mkF m 89 #[.val (.int ip0), .val (.int ip1), .val (.int ip2), .val (.int ip3), .val (.ref b110), .val (.ref b111), .val (.ref b114), .val (.int (0 : Int32)), .unset, .unset] [(.int (0 : Int32)), (.ref b114)])) rfl (by rw [hml]; rfl) (Steps.refl _) (argsL := [(.int (0 : Int32))]) (rest := []) (lenOf own_pd3 rfl) rfl (by show 2 * 0 + _ ≤ _; exact Nat.le_of_eq rfl) (hb hby at_89) (fun _ _ => ⟨rfl, rfl, (by decide : 3 + 0 ≤ _), (by decide : 5 + 0 ≤ _)⟩)
          dsimp only [Pt.U, Pt.locs, Pt.cells, Pt.slots] at X127 l127 y127 z127 st127 hQ127
          subst l127 y127 z127
          obtain ⟨N127q, Kq127, hL127⟩ := hQ127
          have N127 := Fr.app N122 N127q
          have K127 : Keep h0 T127.heap [] := K122.trans Kq127 (allS (Or.inr sz_b114) all0)
          have Z127 := Nat.le_trans Z122 Kq127.1
          rcases hL127 with ⟨rfl, Fc127_0_0, Fc127_0_1, Fc127_0_2, -⟩
          · skip
            refine own_st (fun t k => st127.trans k) ?_
            show own_Go _ _ _ _ T127 (mkF m 92 #[.val (.int ip0), .val (.int ip1), .val (.int ip2), .val (.int ip3), .val (.ref b110), .val (.ref b111), .val (.ref b114), .val (.int (0 : Int32)), .unset, .unset] [])
            refine own_st (fun t k => XS.aload X127.here hx rfl (hb hby at_92) rfl rfl k) ?_
            show own_Go _ _ _ _ T127 (mkF m 94 #[.val (.int ip0), .val (.int ip1), .val (.int ip2), .val (.int ip3), .val (.ref b110), .val (.ref b111), .val (.ref b114), .val (.int (0 : Int32)), .unset, .unset] [(.ref b114)])
            have f128 := (own_stak f126 Kq127 (allS (own_plE f125) all0))
            have f129 := (f125.keep Kq127)
            obtain ⟨cq130, kq130, q130a, q130b, q130c⟩ := isOf hZ rfl f129
            obtain ⟨_, _, ⟨T130, L130, k130, n130⟩, -, X130, ⟨Lc130, hQ130, l130, y130, z130⟩, st130⟩ := X127.virtualBack hx (y := (⟨"com/example/backchannel/backchannel/server/ByteQueue", "clear", "()V"⟩ : MethodName)) (z := (⟨"com/example/backchannel/backchannel/server/ByteQueue", "clear", "()V"⟩ : MethodName)) hown (mvT hZ (own_w hw 50 rfl)) (mvT hZ (own_w hw 46 rfl)) (notFace_of_selects (args := #[]) (mvT hZ (own_w hw 48 rfl))) (mvT hZ (own_w hw 48 rfl)) (mvT hZ (own_w hw 47 rfl)) (by decide) (backOf (W := 0) (own_rm8_36 l Z a0 hw [] b114 w_NONE T127.heap n0 Z127 f128 f129 Fc127_0_2 g_b114 Fc127_0_1 Fc127_0_0) hZ (own_w hw 49 rfl) (own_w hw 3 rfl) (by decide) (by decide)) q130a q130c (g := (mkF m 94 #[.val (.int ip0), .val (.int ip1), .val (.int ip2), .val (.int ip3), .val (.ref b110), .val (.ref b111), .val (.ref b114), .val (.int (0 : Int32)), .unset, .unset] [(.ref b114)])) rfl (by rw [hml]; rfl) (Steps.refl _) (argsL := []) (rest := []) (lenOf own_pd0 rfl) rfl (by show 2 * 0 + _ ≤ _; exact Nat.le_of_eq rfl) (hb hby at_94) (fun _ _ => ⟨rfl, rfl, (by decide : 3 + 0 ≤ _), (by decide : 5 + 0 ≤ _)⟩)
            dsimp only [Pt.U, Pt.locs, Pt.cells, Pt.slots] at X130 l130 y130 z130 st130 hQ130
            subst l130 y130 z130
            obtain ⟨N130q, Kq130, hL130⟩ := hQ130
            have N130 := Fr.app N127 N130q
            have K130 : Keep h0 T130.heap [] := K127.trans Kq130 (allS (Or.inr sz_b114) all0)
            have Z130 := Nat.le_trans Z127 Kq130.1
            rcases hL130 with ⟨rfl, Fc130_0_0, Fc130_0_1, Fc130_0_2, -⟩
            · skip
              refine own_st (fun t k => st130.trans k) ?_
              show own_Go _ _ _ _ T130 (mkF m 97 #[.val (.int ip0), .val (.int ip1), .val (.int ip2), .val (.int ip3), .val (.ref b110), .val (.ref b111), .val (.ref b114), .val (.int (0 : Int32)), .unset, .unset] [])
              refine own_st (fun t k => XS.aload X130.here hx rfl (hb hby at_97) rfl rfl k) ?_
              show own_Go _ _ _ _ T130 (mkF m 99 #[.val (.int ip0), .val (.int ip1), .val (.int ip2), .val (.int ip3), .val (.ref b110), .val (.ref b111), .val (.ref b114), .val (.int (0 : Int32)), .unset, .unset] [(.ref b114)])
              have f132 := (f129.keep Kq130)
              obtain ⟨cq131, kq131, q131a, q131b, q131c⟩ := isOf hZ rfl f132
              obtain ⟨_, _, ⟨T131, L131, k131, n131⟩, -, X131, ⟨Lc131, hQ131, l131, y131, z131⟩, st131⟩ := X130.virtualBack hx (y := (⟨"com/example/backchannel/backchannel/server/ByteQueue", "size", "()I"⟩ : MethodName)) (z := (⟨"com/example/backchannel/backchannel/server/ByteQueue", "size", "()I"⟩ : MethodName)) hown (mvT hZ (own_w hw 51 rfl)) (mvT hZ (own_w hw 26 rfl)) (notFace_of_selects (args := #[]) (mvT hZ (own_w hw 28 rfl))) (mvT hZ (own_w hw 28 rfl)) (mvT hZ (own_w hw 27 rfl)) (by decide) (backOf (W := 0) (own_rm5 l Z a0 hw [] b114 (0 : Int32) (0 : Int32) T130.heap n0 Z130 Fc130_0_2 Fc130_0_1) hZ (own_w hw 29 rfl) (own_w hw 3 rfl) (by decide) (by decide)) q131a q131c (g := (mkF m 99 #[.val (.int ip0), .val (.int ip1), .val (.int ip2), .val (.int ip3), .val (.ref b110), .val (.ref b111), .val (.ref b114), .val (.int (0 : Int32)), .unset, .unset] [(.ref b114)])) rfl (by rw [hml]; rfl) (Steps.refl _) (argsL := []) (rest := []) (lenOf own_pd1 rfl) rfl (by show 2 * 0 + _ ≤ _; exact Nat.le_of_eq rfl) (hb hby at_99) (fun _ _ => ⟨rfl, rfl, (by decide : 3 + 0 ≤ _), (by decide : 5 + 0 ≤ _)⟩)
              dsimp only [Pt.U, Pt.locs, Pt.cells, Pt.slots] at X131 l131 y131 z131 st131 hQ131
              subst l131 y131 z131
              obtain ⟨N131q, e131, hL131⟩ := hQ131
              have N131 := Fr.app N130 N131q
              rcases hL131 with ⟨rfl, -⟩
              · skip
                refine own_st (fun t k => st131.trans k) ?_
                show own_Go _ _ _ _ T131 (mkF m 102 #[.val (.int ip0), .val (.int ip1), .val (.int ip2), .val (.int ip3), .val (.ref b110), .val (.ref b111), .val (.ref b114), .val (.int (0 : Int32)), .unset, .unset] [(.int ((0 : Int32) - (0 : Int32)))])
                refine own_st (fun t k => XS.ifNo X131.here hx rfl (hb hby at_102) rfl ((if0 _ _).trans (teq (by decide : ((0 : Int32) - (0 : Int32)) = (0 : Int32))).2) k) ?_
                show own_Go _ _ _ _ T131 (mkF m 105 #[.val (.int ip0), .val (.int ip1), .val (.int ip2), .val (.int ip3), .val (.ref b110), .val (.ref b111), .val (.ref b114), .val (.int (0 : Int32)), .unset, .unset] [])
                refine own_st (fun t k => XS.aload X131.here hx rfl (hb hby at_105) rfl rfl k) ?_
                show own_Go _ _ _ _ T131 (mkF m 107 #[.val (.int ip0), .val (.int ip1), .val (.int ip2), .val (.int ip3), .val (.ref b110), .val (.ref b111), .val (.ref b114), .val (.int (0 : Int32)), .unset, .unset] [(.ref b114)])
                obtain ⟨cq133, kq133, q133a, q133b, q133c⟩ := isOf hZ e131 f132
                obtain ⟨_, _, ⟨T133, L133, k133, n133⟩, -, X133, ⟨Lc133, hQ133, l133, y133, z133⟩, st133⟩ := X131.virtualBack hx (y := (⟨"com/example/backchannel/backchannel/server/ByteQueue", "isEmpty", "()Z"⟩ : MethodName)) (z := (⟨"com/example/backchannel/backchannel/server/ByteQueue", "isEmpty", "()Z"⟩ : MethodName)) hown (mvT hZ (own_w hw 52 rfl)) (mvT hZ (own_w hw 53 rfl)) (notFace_of_selects (args := #[]) (mvT hZ (own_w hw 55 rfl))) (mvT hZ (own_w hw 55 rfl)) (mvT hZ (own_w hw 54 rfl)) (by decide) (backOf (W := 0) (own_rm9 l Z a0 hw [] b114 (0 : Int32) (0 : Int32) T130.heap n0 Z130 Fc130_0_2 Fc130_0_1) hZ (own_w hw 56 rfl) (own_w hw 3 rfl) (by decide) (by decide)) q133a q133c (g := (mkF m 107 #[.val (.int ip0), .val (.int ip1), .val (.int ip2), .val (.int ip3), .val (.ref b110), .val (.ref b111), .val (.ref b114), .val (.int (0 : Int32)), .unset, .unset] [(.ref b114)])) rfl (by rw [hml]; rfl) (Steps.refl _) (argsL := []) (rest := []) (lenOf own_pd5 rfl) rfl (by show 2 * 0 + _ ≤ _; exact Nat.le_of_eq rfl) (hb hby at_107) (fun _ _ => ⟨rfl, e131, (by decide : 3 + 0 ≤ _), (by decide : 5 + 0 ≤ _)⟩)
                dsimp only [Pt.U, Pt.locs, Pt.cells, Pt.slots] at X133 l133 y133 z133 st133 hQ133
                subst l133 y133 z133
                obtain ⟨N133q, e133, hL133⟩ := hQ133
                have N133 := Fr.app N131 N133q
                rcases hL133 with ⟨rfl, hq133_0_0, -⟩ | ⟨rfl, hq133_1_0, -⟩
                · skip
                  refine own_st (fun t k => st133.trans k) ?_
                  show own_Go _ _ _ _ T133 (mkF m 110 #[.val (.int ip0), .val (.int ip1), .val (.int ip2), .val (.int ip3), .val (.ref b110), .val (.ref b111), .val (.ref b114), .val (.int (0 : Int32)), .unset, .unset] [(.int (1 : Int32))])
                  refine own_st (fun t k => XS.ifNo X133.here hx rfl (hb hby at_110) rfl ((if0 _ _).trans (feq (by decide : ¬ ((1 : Int32) = (0 : Int32)))).1) k) ?_
                  show own_Go _ _ _ _ T133 (mkF m 113 #[.val (.int ip0), .val (.int ip1), .val (.int ip2), .val (.int ip3), .val (.ref b110), .val (.ref b111), .val (.ref b114), .val (.int (0 : Int32)), .unset, .unset] [])
                  refine own_st (fun t k => XS.iconst X133.here hx rfl (hb hby at_113) k) ?_
                  show own_Go _ _ _ _ T133 (mkF m 114 #[.val (.int ip0), .val (.int ip1), .val (.int ip2), .val (.int ip3), .val (.ref b110), .val (.ref b111), .val (.ref b114), .val (.int (0 : Int32)), .unset, .unset] [(.int (1 : Int32))])
                  refine own_st (fun t k => XS.goto X133.here hx rfl (pc0 := 114) (pc' := 118) rfl (hb hby at_114) (by decide) (by decide) k) ?_
                  show own_Go _ _ _ _ T133 (mkF m 118 #[.val (.int ip0), .val (.int ip1), .val (.int ip2), .val (.int ip3), .val (.ref b110), .val (.ref b111), .val (.ref b114), .val (.int (0 : Int32)), .unset, .unset] [(.int (1 : Int32))])
                  refine own_st (fun t k => XS.istore X133.here hx rfl (hb hby at_118) rfl (l' := #[.val (.int ip0), .val (.int ip1), .val (.int ip2), .val (.int ip3), .val (.ref b110), .val (.ref b111), .val (.ref b114), .val (.int (0 : Int32)), .val (.int (1 : Int32)), .unset]) rfl k) ?_
                  show own_Go _ _ _ _ T133 (mkF m 120 #[.val (.int ip0), .val (.int ip1), .val (.int ip2), .val (.int ip3), .val (.ref b110), .val (.ref b111), .val (.ref b114), .val (.int (0 : Int32)), .val (.int (1 : Int32)), .unset] [])
                  refine own_st (fun t k => XS.aload X133.here hx rfl (hb hby at_120) rfl rfl k) ?_
                  show own_Go _ _ _ _ T133 (mkF m 122 #[.val (.int ip0), .val (.int ip1), .val (.int ip2), .val (.int ip3), .val (.ref b110), .val (.ref b111), .val (.ref b114), .val (.int (0 : Int32)), .val (.int (1 : Int32)), .unset] [(.ref b114)])
                  refine own_st (fun t k => XS.aload X133.here hx rfl (hb hby at_122) rfl rfl k) ?_
                  show own_Go _ _ _ _ T133 (mkF m 124 #[.val (.int ip0), .val (.int ip1), .val (.int ip2), .val (.int ip3), .val (.ref b110), .val (.ref b111), .val (.ref b114), .val (.int (0 : Int32)), .val (.int (1 : Int32)), .unset] [(.ref b111), (.ref b114)])
                  have ne134 : b111 ≠ b114 := Nat.ne_of_lt (Nat.lt_of_lt_of_le V113.lt (Nat.le_of_eq g114.symm))
                  have f135 := (((((V113.ext E114).keep Kq116 (ninS ne134 nin0)).keep Kq122 (ninS ne134 nin0)).keep Kq127 (ninS ne134 nin0)).keep Kq130 (ninS ne134 nin0))
                  have f136 := (V_w_NONE.keep K130 nin0)
                  have f137 := (((((((Ex111.wr W112).wr W113).ext E114).keep Kq116).keep Kq122).keep Kq127).keep Kq130)
                  obtain ⟨cq138, kq138, q138a, q138b, q138c⟩ := isOf hZ e133 f132
                  obtain ⟨_, _, ⟨T138, L138, k138, n138⟩, -, X138, ⟨Lc138, hQ138, l138, y138, z138⟩, st138⟩ := X133.virtualBack hx (y := (⟨"com/example/backchannel/backchannel/server/ByteQueue", "append", "([B)V"⟩ : MethodName)) (z := (⟨"com/example/backchannel/backchannel/server/ByteQueue", "append", "([B)V"⟩ : MethodName)) hown (mvT hZ (own_w hw 14 rfl)) (mvT hZ (own_w hw 15 rfl)) (notFace_of_selects (args := #[]) (mvT hZ (own_w hw 17 rfl))) (mvT hZ (own_w hw 17 rfl)) (mvT hZ (own_w hw 16 rfl)) (by decide) (backOf (W := 0) (own_rm3_16 l Z a0 hw [] b114 b111 k111 ip2 ip3 w_NONE k_w_NONE T130.heap n0 Z130 f135 Fc130_0_0 f136 Fc130_0_2 Fc130_0_1 f132 g_b114 f137) hZ (own_w hw 18 rfl) (own_w hw 3 rfl) (by decide) (by decide)) q138a q138c (g := (mkF m 124 #[.val (.int ip0), .val (.int ip1), .val (.int ip2), .val (.int ip3), .val (.ref b110), .val (.ref b111), .val (.ref b114), .val (.int (0 : Int32)), .val (.int (1 : Int32)), .unset] [(.ref b111), (.ref b114)])) rfl (by rw [hml]; rfl) (Steps.refl _) (argsL := [(.ref b111)]) (rest := []) (lenOf own_pd4 rfl) rfl (by show 2 * 0 + _ ≤ _; exact Nat.le_of_eq rfl) (hb hby at_124) (fun _ _ => ⟨rfl, e133, (by decide : 3 + 1 ≤ _), (by decide : 5 + 512 ≤ _)⟩)
                  dsimp only [Pt.U, Pt.locs, Pt.cells, Pt.slots] at X138 l138 y138 z138 st138 hQ138
                  subst l138 y138 z138
                  obtain ⟨N138q, Kq138, hL138⟩ := hQ138
                  have N138 := Fr.app N133 N138q
                  have K138 : Keep h0 T138.heap [] := K130.trans Kq138 (allS (Or.inr sz_b114) all0)
                  have Z138 := Nat.le_trans Z130 Kq138.1
                  rcases hL138 with ⟨b8x4_18c1c138, k8x4_18c1c138, rfl, hq138_0_0, sq_b8x4_18c1c138, Fc138_0_0, Fc138_0_1, Fc138_0_2, Fc138_0_3, Fc138_0_4, -⟩
                  · skip
                    have g_b8x4_18c1c138 : n0 ≤ b8x4_18c1c138 := Nat.le_trans Z130 sq_b8x4_18c1c138
                    have sz_b8x4_18c1c138 : h0.size ≤ b8x4_18c1c138 := Nat.le_trans K130.1 sq_b8x4_18c1c138
                    refine own_st (fun t k => st138.trans k) ?_
                    show own_Go _ _ _ _ T138 (mkF m 127 #[.val (.int ip0), .val (.int ip1), .val (.int ip2), .val (.int ip3), .val (.ref b110), .val (.ref b111), .val (.ref b114), .val (.int (0 : Int32)), .val (.int (1 : Int32)), .unset] [])
                    refine own_st (fun t k => XS.aload X138.here hx rfl (hb hby at_127) rfl rfl k) ?_
                    show own_Go _ _ _ _ T138 (mkF m 129 #[.val (.int ip0), .val (.int ip1), .val (.int ip2), .val (.int ip3), .val (.ref b110), .val (.ref b111), .val (.ref b114), .val (.int (0 : Int32)), .val (.int (1 : Int32)), .unset] [(.ref b114)])
                    have f140 := (f132.keep Kq138)
                    obtain ⟨cq139, kq139, q139a, q139b, q139c⟩ := isOf hZ rfl f140
                    obtain ⟨_, _, ⟨T139, L139, k139, n139⟩, -, X139, ⟨Lc139, hQ139, l139, y139, z139⟩, st139⟩ := X138.virtualBack hx (y := (⟨"com/example/backchannel/backchannel/server/ByteQueue", "size", "()I"⟩ : MethodName)) (z := (⟨"com/example/backchannel/backchannel/server/ByteQueue", "size", "()I"⟩ : MethodName)) hown (mvT hZ (own_w hw 51 rfl)) (mvT hZ (own_w hw 26 rfl)) (notFace_of_selects (args := #[]) (mvT hZ (own_w hw 28 rfl))) (mvT hZ (own_w hw 28 rfl)) (mvT hZ (own_w hw 27 rfl)) (by decide) (backOf (W := 0) (own_rm5 l Z a0 hw [] b114 (((0 : Int32) - (0 : Int32)) + (2 : Int32)) (0 : Int32) T138.heap n0 Z138 Fc138_0_1 Fc138_0_2) hZ (own_w hw 29 rfl) (own_w hw 3 rfl) (by decide) (by decide)) q139a q139c (g := (mkF m 129 #[.val (.int ip0), .val (.int ip1), .val (.int ip2), .val (.int ip3), .val (.ref b110), .val (.ref b111), .val (.ref b114), .val (.int (0 : Int32)), .val (.int (1 : Int32)), .unset] [(.ref b114)])) rfl (by rw [hml]; rfl) (Steps.refl _) (argsL := []) (rest := []) (lenOf own_pd1 rfl) rfl (by show 2 * 0 + _ ≤ _; exact Nat.le_of_eq rfl) (hb hby at_129) (fun _ _ => ⟨rfl, rfl, (by decide : 4 + 0 ≤ _), (by decide : 517 + 0 ≤ _)⟩)
                    dsimp only [Pt.U, Pt.locs, Pt.cells, Pt.slots] at X139 l139 y139 z139 st139 hQ139
                    subst l139 y139 z139
                    obtain ⟨N139q, e139, hL139⟩ := hQ139
                    have N139 := Fr.app N138 N139q
                    rcases hL139 with ⟨rfl, -⟩
                    · skip
                      refine own_st (fun t k => st139.trans k) ?_
                      show own_Go _ _ _ _ T139 (mkF m 132 #[.val (.int ip0), .val (.int ip1), .val (.int ip2), .val (.int ip3), .val (.ref b110), .val (.ref b111), .val (.ref b114), .val (.int (0 : Int32)), .val (.int (1 : Int32)), .unset] [(.int ((((0 : Int32) - (0 : Int32)) + (2 : Int32)) - (0 : Int32)))])
                      refine own_st (fun t k => XS.iconst X139.here hx rfl (hb hby at_132) k) ?_
                      show own_Go _ _ _ _ T139 (mkF m 133 #[.val (.int ip0), .val (.int ip1), .val (.int ip2), .val (.int ip3), .val (.ref b110), .val (.ref b111), .val (.ref b114), .val (.int (0 : Int32)), .val (.int (1 : Int32)), .unset] [(.int (2 : Int32)), (.int ((((0 : Int32) - (0 : Int32)) + (2 : Int32)) - (0 : Int32)))])
                      refine own_st (fun t k => XS.icmpNo X139.here hx rfl (hb hby at_133) rfl (teq (by decide : ((((0 : Int32) - (0 : Int32)) + (2 : Int32)) - (0 : Int32)) = (2 : Int32))).2 k) ?_
                      show own_Go _ _ _ _ T139 (mkF m 136 #[.val (.int ip0), .val (.int ip1), .val (.int ip2), .val (.int ip3), .val (.ref b110), .val (.ref b111), .val (.ref b114), .val (.int (0 : Int32)), .val (.int (1 : Int32)), .unset] [])
                      refine own_st (fun t k => XS.aload X139.here hx rfl (hb hby at_136) rfl rfl k) ?_
                      show own_Go _ _ _ _ T139 (mkF m 138 #[.val (.int ip0), .val (.int ip1), .val (.int ip2), .val (.int ip3), .val (.ref b110), .val (.ref b111), .val (.ref b114), .val (.int (0 : Int32)), .val (.int (1 : Int32)), .unset] [(.ref b114)])
                      refine own_st (fun t k => XS.iconst X139.here hx rfl (hb hby at_138) k) ?_
                      show own_Go _ _ _ _ T139 (mkF m 139 #[.val (.int ip0), .val (.int ip1), .val (.int ip2), .val (.int ip3), .val (.ref b110), .val (.ref b111), .val (.ref b114), .val (.int (0 : Int32)), .val (.int (1 : Int32)), .unset] [(.int (0 : Int32)), (.ref b114)])
                      obtain ⟨cq141, kq141, q141a, q141b, q141c⟩ := isOf hZ e139 f140
                      obtain ⟨_, _, ⟨T141, L141, k141, n141⟩, -, X141, ⟨Lc141, hQ141, l141, y141, z141⟩, st141⟩ := X139.virtualBack hx (y := (⟨"com/example/backchannel/backchannel/server/ByteQueue", "at", "(I)B"⟩ : MethodName)) (z := (⟨"com/example/backchannel/backchannel/server/ByteQueue", "at", "(I)B"⟩ : MethodName)) hown (mvT hZ (own_w hw 57 rfl)) (mvT hZ (own_w hw 58 rfl)) (notFace_of_selects (args := #[]) (mvT hZ (own_w hw 60 rfl))) (mvT hZ (own_w hw 60 rfl)) (mvT hZ (own_w hw 59 rfl)) (by decide) (backOf (W := 0) (own_rm10_19 l Z a0 hw [] b114 b8x4_18c1c138 k8x4_18c1c138 ip2 ip3 T138.heap n0 Z138 Fc138_0_1 Fc138_0_2 f140 Fc138_0_0 Fc138_0_3) hZ (own_w hw 61 rfl) (own_w hw 3 rfl) (by decide) (by decide)) q141a q141c (g := (mkF m 139 #[.val (.int ip0), .val (.int ip1), .val (.int ip2), .val (.int ip3), .val (.ref b110), .val (.ref b111), .val (.ref b114), .val (.int (0 : Int32)), .val (.int (1 : Int32)), .unset] [(.int (0 : Int32)), (.ref b114)])) rfl (by rw [hml]; rfl) (Steps.refl _) (argsL := [(.int (0 : Int32))]) (rest := []) (lenOf own_pd6 rfl) rfl (by show 2 * 0 + _ ≤ _; exact Nat.le_of_eq rfl) (hb hby at_139) (fun _ _ => ⟨rfl, e139, (by decide : 4 + 0 ≤ _), (by decide : 517 + 0 ≤ _)⟩)
                      dsimp only [Pt.U, Pt.locs, Pt.cells, Pt.slots] at X141 l141 y141 z141 st141 hQ141
                      subst l141 y141 z141
                      obtain ⟨N141q, Kq141, hL141⟩ := hQ141
                      have N141 := Fr.app N139 N141q
                      have K141 : Keep h0 T141.heap [] := K138.trans Kq141 all0
                      have Z141 := Nat.le_trans Z138 Kq141.1
                      rcases hL141 with ⟨rfl, -⟩
                      · skip
                        refine own_st (fun t k => st141.trans k) ?_
                        show own_Go _ _ _ _ T141 (mkF m 142 #[.val (.int ip0), .val (.int ip1), .val (.int ip2), .val (.int ip3), .val (.ref b110), .val (.ref b111), .val (.ref b114), .val (.int (0 : Int32)), .val (.int (1 : Int32)), .unset] [(.int (nar .byte (nar .byte (ip2.toInt8.toInt32))))])
                        refine own_st (fun t k => XS.iloadN X141.here hx rfl (hb hby at_142) rfl k) ?_
                        show own_Go _ _ _ _ T141 (mkF m 143 #[.val (.int ip0), .val (.int ip1), .val (.int ip2), .val (.int ip3), .val (.ref b110), .val (.ref b111), .val (.ref b114), .val (.int (0 : Int32)), .val (.int (1 : Int32)), .unset] [(.int ip2), (.int (nar .byte (nar .byte (ip2.toInt8.toInt32))))])
                        refine own_st (fun t k => XS.i2b X141.here hx rfl (hb hby at_143) rfl k) ?_
                        show own_Go _ _ _ _ T141 (mkF m 144 #[.val (.int ip0), .val (.int ip1), .val (.int ip2), .val (.int ip3), .val (.ref b110), .val (.ref b111), .val (.ref b114), .val (.int (0 : Int32)), .val (.int (1 : Int32)), .unset] [(.int (ip2.toInt8.toInt32)), (.int (nar .byte (nar .byte (ip2.toInt8.toInt32))))])
                        refine own_st (fun t k => XS.icmpNo X141.here hx rfl (hb hby at_144) rfl (teq (by simp only [own_nb] : (nar .byte (nar .byte (ip2.toInt8.toInt32))) = (ip2.toInt8.toInt32))).2 k) ?_
                        show own_Go _ _ _ _ T141 (mkF m 147 #[.val (.int ip0), .val (.int ip1), .val (.int ip2), .val (.int ip3), .val (.ref b110), .val (.ref b111), .val (.ref b114), .val (.int (0 : Int32)), .val (.int (1 : Int32)), .unset] [])
                        refine own_st (fun t k => XS.aload X141.here hx rfl (hb hby at_147) rfl rfl k) ?_
                        show own_Go _ _ _ _ T141 (mkF m 149 #[.val (.int ip0), .val (.int ip1), .val (.int ip2), .val (.int ip3), .val (.ref b110), .val (.ref b111), .val (.ref b114), .val (.int (0 : Int32)), .val (.int (1 : Int32)), .unset] [(.ref b114)])
                        refine own_st (fun t k => XS.iconst X141.here hx rfl (hb hby at_149) k) ?_
                        show own_Go _ _ _ _ T141 (mkF m 150 #[.val (.int ip0), .val (.int ip1), .val (.int ip2), .val (.int ip3), .val (.ref b110), .val (.ref b111), .val (.ref b114), .val (.int (0 : Int32)), .val (.int (1 : Int32)), .unset] [(.int (1 : Int32)), (.ref b114)])
                        have f142 := (Fc138_0_1.keep Kq141 nin0)
                        have f143 := (Fc138_0_2.keep Kq141 nin0)
                        have f144 := (f140.keep Kq141)
                        have f145 := (Fc138_0_0.keep Kq141 nin0)
                        have f146 := (Fc138_0_3.keep Kq141 nin0)
                        obtain ⟨cq147, kq147, q147a, q147b, q147c⟩ := isOf hZ rfl f144
                        obtain ⟨_, _, ⟨T147, L147, k147, n147⟩, -, X147, ⟨Lc147, hQ147, l147, y147, z147⟩, st147⟩ := X141.virtualBack hx (y := (⟨"com/example/backchannel/backchannel/server/ByteQueue", "at", "(I)B"⟩ : MethodName)) (z := (⟨"com/example/backchannel/backchannel/server/ByteQueue", "at", "(I)B"⟩ : MethodName)) hown (mvT hZ (own_w hw 57 rfl)) (mvT hZ (own_w hw 58 rfl)) (notFace_of_selects (args := #[]) (mvT hZ (own_w hw 60 rfl))) (mvT hZ (own_w hw 60 rfl)) (mvT hZ (own_w hw 59 rfl)) (by decide) (backOf (W := 0) (own_rm10_20 l Z a0 hw [] b114 b8x4_18c1c138 k8x4_18c1c138 ip2 ip3 T141.heap n0 Z141 f142 f143 f144 f145 f146) hZ (own_w hw 61 rfl) (own_w hw 3 rfl) (by decide) (by decide)) q147a q147c (g := (mkF m 150 #[.val (.int ip0), .val (.int ip1), .val (.int ip2), .val (.int ip3), .val (.ref b110), .val (.ref b111), .val (.ref b114), .val (.int (0 : Int32)), .val (.int (1 : Int32)), .unset] [(.int (1 : Int32)), (.ref b114)])) rfl (by rw [hml]; rfl) (Steps.refl _) (argsL := [(.int (1 : Int32))]) (rest := []) (lenOf own_pd6 rfl) rfl (by show 2 * 0 + _ ≤ _; exact Nat.le_of_eq rfl) (hb hby at_150) (fun _ _ => ⟨rfl, rfl, (by decide : 4 + 0 ≤ _), (by decide : 517 + 0 ≤ _)⟩)
                        dsimp only [Pt.U, Pt.locs, Pt.cells, Pt.slots] at X147 l147 y147 z147 st147 hQ147
                        subst l147 y147 z147
                        obtain ⟨N147q, Kq147, hL147⟩ := hQ147
                        have N147 := Fr.app N141 N147q
                        have K147 : Keep h0 T147.heap [] := K141.trans Kq147 all0
                        have Z147 := Nat.le_trans Z141 Kq147.1
                        rcases hL147 with ⟨rfl, -⟩
                        · skip
                          refine own_st (fun t k => st147.trans k) ?_
                          show own_Go _ _ _ _ T147 (mkF m 153 #[.val (.int ip0), .val (.int ip1), .val (.int ip2), .val (.int ip3), .val (.ref b110), .val (.ref b111), .val (.ref b114), .val (.int (0 : Int32)), .val (.int (1 : Int32)), .unset] [(.int (nar .byte (nar .byte (ip3.toInt8.toInt32))))])
                          refine own_st (fun t k => XS.iloadN X147.here hx rfl (hb hby at_153) rfl k) ?_
                          show own_Go _ _ _ _ T147 (mkF m 154 #[.val (.int ip0), .val (.int ip1), .val (.int ip2), .val (.int ip3), .val (.ref b110), .val (.ref b111), .val (.ref b114), .val (.int (0 : Int32)), .val (.int (1 : Int32)), .unset] [(.int ip3), (.int (nar .byte (nar .byte (ip3.toInt8.toInt32))))])
                          refine own_st (fun t k => XS.i2b X147.here hx rfl (hb hby at_154) rfl k) ?_
                          show own_Go _ _ _ _ T147 (mkF m 155 #[.val (.int ip0), .val (.int ip1), .val (.int ip2), .val (.int ip3), .val (.ref b110), .val (.ref b111), .val (.ref b114), .val (.int (0 : Int32)), .val (.int (1 : Int32)), .unset] [(.int (ip3.toInt8.toInt32)), (.int (nar .byte (nar .byte (ip3.toInt8.toInt32))))])
                          refine own_st (fun t k => XS.icmpNo X147.here hx rfl (hb hby at_155) rfl (teq (by simp only [own_nb] : (nar .byte (nar .byte (ip3.toInt8.toInt32))) = (ip3.toInt8.toInt32))).2 k) ?_
                          show own_Go _ _ _ _ T147 (mkF m 158 #[.val (.int ip0), .val (.int ip1), .val (.int ip2), .val (.int ip3), .val (.ref b110), .val (.ref b111), .val (.ref b114), .val (.int (0 : Int32)), .val (.int (1 : Int32)), .unset] [])
                          refine own_st (fun t k => XS.iconst X147.here hx rfl (hb hby at_158) k) ?_
                          show own_Go _ _ _ _ T147 (mkF m 159 #[.val (.int ip0), .val (.int ip1), .val (.int ip2), .val (.int ip3), .val (.ref b110), .val (.ref b111), .val (.ref b114), .val (.int (0 : Int32)), .val (.int (1 : Int32)), .unset] [(.int (1 : Int32))])
                          refine own_st (fun t k => XS.goto X147.here hx rfl (pc0 := 159) (pc' := 163) rfl (hb hby at_159) (by decide) (by decide) k) ?_
                          show own_Go _ _ _ _ T147 (mkF m 163 #[.val (.int ip0), .val (.int ip1), .val (.int ip2), .val (.int ip3), .val (.ref b110), .val (.ref b111), .val (.ref b114), .val (.int (0 : Int32)), .val (.int (1 : Int32)), .unset] [(.int (1 : Int32))])
                          refine own_st (fun t k => XS.istore X147.here hx rfl (hb hby at_163) rfl (l' := #[.val (.int ip0), .val (.int ip1), .val (.int ip2), .val (.int ip3), .val (.ref b110), .val (.ref b111), .val (.ref b114), .val (.int (0 : Int32)), .val (.int (1 : Int32)), .val (.int (1 : Int32))]) rfl k) ?_
                          show own_Go _ _ _ _ T147 (mkF m 165 #[.val (.int ip0), .val (.int ip1), .val (.int ip2), .val (.int ip3), .val (.ref b110), .val (.ref b111), .val (.ref b114), .val (.int (0 : Int32)), .val (.int (1 : Int32)), .val (.int (1 : Int32))] [])
                          refine own_st (fun t k => XS.iload X147.here hx rfl (hb hby at_165) rfl k) ?_
                          show own_Go _ _ _ _ T147 (mkF m 167 #[.val (.int ip0), .val (.int ip1), .val (.int ip2), .val (.int ip3), .val (.ref b110), .val (.ref b111), .val (.ref b114), .val (.int (0 : Int32)), .val (.int (1 : Int32)), .val (.int (1 : Int32))] [(.int (1 : Int32))])
                          refine own_st (fun t k => XS.ifNo X147.here hx rfl (hb hby at_167) rfl ((if0 _ _).trans (feq (by decide : ¬ ((1 : Int32) = (0 : Int32)))).1) k) ?_
                          show own_Go _ _ _ _ T147 (mkF m 170 #[.val (.int ip0), .val (.int ip1), .val (.int ip2), .val (.int ip3), .val (.ref b110), .val (.ref b111), .val (.ref b114), .val (.int (0 : Int32)), .val (.int (1 : Int32)), .val (.int (1 : Int32))] [])
                          refine own_st (fun t k => XS.iload X147.here hx rfl (hb hby at_170) rfl k) ?_
                          show own_Go _ _ _ _ T147 (mkF m 172 #[.val (.int ip0), .val (.int ip1), .val (.int ip2), .val (.int ip3), .val (.ref b110), .val (.ref b111), .val (.ref b114), .val (.int (0 : Int32)), .val (.int (1 : Int32)), .val (.int (1 : Int32))] [(.int (1 : Int32))])
                          refine own_st (fun t k => XS.ifNo X147.here hx rfl (hb hby at_172) rfl ((if0 _ _).trans (feq (by decide : ¬ ((1 : Int32) = (0 : Int32)))).1) k) ?_
                          show own_Go _ _ _ _ T147 (mkF m 175 #[.val (.int ip0), .val (.int ip1), .val (.int ip2), .val (.int ip3), .val (.ref b110), .val (.ref b111), .val (.ref b114), .val (.int (0 : Int32)), .val (.int (1 : Int32)), .val (.int (1 : Int32))] [])
                          refine own_st (fun t k => XS.iconst X147.here hx rfl (hb hby at_175) k) ?_
                          show own_Go _ _ _ _ T147 (mkF m 176 #[.val (.int ip0), .val (.int ip1), .val (.int ip2), .val (.int ip3), .val (.ref b110), .val (.ref b111), .val (.ref b114), .val (.int (0 : Int32)), .val (.int (1 : Int32)), .val (.int (1 : Int32))] [(.int (1 : Int32))])
                          refine own_st (fun t k => XS.goto X147.here hx rfl (pc0 := 176) (pc' := 180) rfl (hb hby at_176) (by decide) (by decide) k) ?_
                          show own_Go _ _ _ _ T147 (mkF m 180 #[.val (.int ip0), .val (.int ip1), .val (.int ip2), .val (.int ip3), .val (.ref b110), .val (.ref b111), .val (.ref b114), .val (.int (0 : Int32)), .val (.int (1 : Int32)), .val (.int (1 : Int32))] [(.int (1 : Int32))])
                          exact own_retZ X147 hx hlk (t := .boolean) hret (by simp) (hb hby at_180) (by decide) (by decide) rfl ⟨rfl, N147⟩
                · skip
                  exact absurd (by decide : (0 : Int32) = (0 : Int32)) hq133_1_0
set_option maxRecDepth 65536 in
set_option maxHeartbeats 40000000 in
theorem own_comes {Post : Tables → Env → Array Value → State → Outcome → State → Prop} (hpost : ∀ tb e args s v u, (limb_1_1.after args s (.returned v) u = true ∧ limb_1_2.after args s (.returned v) u = true ∧ True) → FrameEnd s (.returned v) u (Jvm.fieldLocs frame_1_writes args s ++ Jvm.arrayLocs frame_1_arrays args s ++ Jvm.staticLocs frame_1_statics s) 24 2176 → Post tb e args s (.returned v) u) :
    ArmFor flags0 classFile x code maxLocals ret World_1 tables_1 room_1 Calls_1 rest_1 Pre_1 Post := by
  intro l hfl _ _ p e ha hc hk s m args below hf hA hF happ hP
  obtain ⟨hcalls, hrest, hpre⟩ := hP
  obtain ⟨-, -, -, hnamed, -, -, -, hat⟩ := (Spec.applies_iff hf).mp happ
  obtain ⟨hg, hn⟩ := and_e (Cond.before_iff.mp (show (Jvm.Cond.and given_1 narrow_1).before args s = true from hpre))
  obtain ⟨g5, g6⟩ := and_e hg
  obtain ⟨g7, g8⟩ := and_e g6
  obtain ⟨g9, g10⟩ := and_e g8
  obtain ⟨g11, g12⟩ := and_e g10
  obtain ⟨w0, w1, w2, w3, rfl⟩ : ∃ w0 w1 w2 w3 : Value, args = #[w0, w1, w2, w3] := by
    have hs : args.size = 4 := by simpa [Cond.value, given_1] using g5
    obtain ⟨L⟩ := args
    match L, hs with
    | [w0, w1, w2, w3], _ => exact ⟨w0, w1, w2, w3, rfl⟩
  have hw := fun d (hd : d ∈ tables_1) => atoms_spec (ws := Jvm.Cond.code x code maxLocals ret :: tables_1) hat d (List.mem_cons_of_mem _ hd)
  obtain ⟨i0, ei0⟩ := is_v g7
  obtain rfl : w0 = (.int i0) := Option.some.inj ei0
  obtain ⟨i1, ei1⟩ := is_v g9
  obtain rfl : w1 = (.int i1) := Option.some.inj ei1
  obtain ⟨i2, ei2⟩ := is_v g11
  obtain rfl : w2 = (.int i2) := Option.some.inj ei2
  obtain ⟨i3, ei3⟩ := is_v g12
  obtain rfl : w3 = (.int i3) := Option.some.inj ei3
  have hfit : Fit s := fun {y c} hc i hi => by
    obtain ⟨ha, rfl⟩ := Array.getElem?_eq_some_iff.mp hc
    have q := List.all_eq_true.mp ((Array.all_eq_true_iff_forall_mem.mp hF) _ (Array.getElem_mem ha)) i (List.mem_range.mpr hi)
    simpa [Array.getElem?_eq_getElem hi] using q
  obtain ⟨g1, g2⟩ := and_e hn
  obtain ⟨g3, g4⟩ := and_e g2
  obtain ⟨w_NONE, ev_w_NONE⟩ := arr_v g1
  have S_NONE := Sta.start ev_w_NONE (Or.inr ⟨(own_w hw 3 rfl), (own_w hw 11 rfl)⟩)
  obtain ⟨cl_w_NONE, Ar_w_NONE⟩ := Arr.start ev_w_NONE g1
  have E_w_NONE := Exa.start ev_w_NONE g3
  have V_w_NONE : Arv s s.heap w_NONE cl_w_NONE.cls .byte (0 : Int32) [] (.int (0 : Int32)) := Arv.start hfit Ar_w_NONE (own_len g4 ev_w_NONE Ar_w_NONE).1 (own_len g4 ev_w_NONE Ar_w_NONE).2 (by decide) rfl trivial
  obtain ⟨k_w_NONE, hk_w_NONE⟩ : ∃ k, k = cl_w_NONE.cls := ⟨_, rfl⟩
  rw [← hk_w_NONE] at V_w_NONE
  obtain ⟨n, o, h1, h2, h3, _, L, rfl, ⟨rfl, N⟩, hq⟩ := own_rm0 l s _ hw tables_1 i0 i1 i2 i3 w_NONE k_w_NONE s.heap s.heap.size (Nat.le_refl _) S_NONE E_w_NONE V_w_NONE p e ha hc hk s m _ below hf ((Spec.applies_iff_loose hf).mp happ).1 ⟨rfl, State.Warmed39.refl s, rfl⟩ trivial
  exact ⟨n, _, h1, h2, h3, hpost _ _ _ _ _ _ ⟨Cond.after_iff.mpr rfl, Cond.after_iff.mpr (eq_i res_at (Term.int_eval (1)) rfl), trivial⟩ ⟨hq.1, hq.2.1, (hq.2.2.sift fun y hy => Or.inr (N y hy)).mono (by decide) (by decide)⟩⟩
theorem main_1_1 : Claimed_1_1 := own_comes fun _ _ _ _ _ _ h hF => ⟨h.1, hF⟩
theorem main_1_2 : Claimed_1_2 := own_comes fun _ _ _ _ _ _ h hF => ⟨h.2.1, hF⟩
end Jvm.Pilot.@@N@@
namespace Jvm.Pilot.@@N@@
open Jvm Jvm.ClassFile Sem Op Lib Jvm.Free Jvm.Stand Jvm.Pilot.@@N@@.Jvm.D
/-! MADE BY PROGRAM (witnessworld.py) out of the Statement's table words and the real class files: 11 classes; the members and pool entries that the words name. The judged class is class 1, her method 1. -/
namespace start1
open Jvm.ClassFile
def u (s : String) : CpInfo := .utf8 (stringToUtf16 s)
/-- a pool by its gaps: so many unusable entries, then the entry; so many at the end -/
def gap : Nat → List CpInfo → List CpInfo
  | 0, r => r
  | n + 1, r => .unusable :: gap n r
def poolList (es : List (Nat × CpInfo)) (last : Nat) : List CpInfo := es.foldr (fun e r => gap e.1 (e.2 :: r)) (gap last [])
def pool (es : List (Nat × CpInfo)) (last : Nat) : Array CpInfo := ⟨poolList es last⟩
def fileOf (pool : Array CpInfo) (this : Nat) (attrs : Array Attribute := #[]) (ms : Array MethodInfo := #[]) (fl : Nat := 33) (sup : Nat := 0) (ifs : Array Nat := #[]) (fds : Array FieldInfo := #[]) : ClassFile where
  minorVersion := 0
  majorVersion := 65
  constantPool := pool
  accessFlags := fl
  thisClass := this
  superClass := sup
  interfaces := ifs
  fields := fds
  methods := ms
  attributes := attrs
def plain (name : String) (sup : Option ClassId) : Class where
  name := name
  kind := .ordinary
  loader := none
  accessFlags := 33
  super := sup
  interfaces := #[]
  cf := none
  fields := #[]
  methods := #[]
  instanceTypes := #[]
  staticTypes := #[]
  resolved := #[]
  callSites := []
  init := .initialized
  statics := none
  mirror := none

def pool0 : Array CpInfo := pool [(5, u "<init>"), (0, u "()V"), (1, .class_ 10), (1, u "java/lang/Object")] 113

def k0c0 : Code := { maxStack := 0, maxLocals := 1, code := object_method_1_code, exceptionTable := #[], attributes := #[] }
def k0m0 : Method := { name := "<init>", desc := "()V", sig := { parameters := [], returnType := none }, accessFlags := 1, code := some k0c0 }
/-- java/lang/Object -/
def k0 : Class := { plain "java/lang/Object" none with
  accessFlags := 33
  interfaces := #[]
  cf := some (fileOf pool0 8 #[] #[{ accessFlags := 1, nameIndex := 5, descriptorIndex := 6, attributes := #[] }] 33 0 #[] #[])
  fields := #[]
  methods := #[k0m0]
  instanceTypes := #[]
  staticTypes := #[]
  resolved := Array.replicate 124 none
  statics := none }

def pool1 : Array CpInfo := pool [(2, .class_ 4), (0, .nameAndType 5 6), (0, u "java/lang/Object"), (0, u "<init>"), (0, u "()V"), (0, .class_ 8), (0, u "com/example/backchannel/backchannel/server/ByteQueue"), (0, .methodref 7 3), (0, .methodref 7 11), (0, .nameAndType 12 13), (0, u "append"), (0, u "([B)V"), (0, .methodref 7 15), (0, .nameAndType 16 17), (0, u "remove"), (0, u "(I)V"), (0, .methodref 7 19), (0, .nameAndType 20 6), (0, u "clear"), (0, .methodref 7 22), (0, .nameAndType 23 24), (0, u "size"), (0, u "()I"), (0, .methodref 7 26), (0, .nameAndType 27 28), (0, u "isEmpty"), (0, u "()Z"), (0, .methodref 7 30), (0, .nameAndType 31 32), (0, u "at"), (0, u "(I)B"), (0, .class_ 34), (0, u "com/example/backchannel/backchannel/server/ByteQueueClearPinLaw"), (2, u "law"), (0, u "(IIII)Z")] 5

def k1m0 : Method := { name := "<init>", desc := "()V", sig := { parameters := [], returnType := none }, accessFlags := 1, code := none }
def k1c1 : Code := { maxStack := 5, maxLocals := 10, code := code, exceptionTable := #[], attributes := #[] }
def k1m1 : Method := { name := "law", desc := "(IIII)Z", sig := { parameters := [.int, .int, .int, .int], returnType := some .boolean }, accessFlags := 9, code := some k1c1 }
/-- com/example/backchannel/backchannel/server/ByteQueueClearPinLaw -/
def k1 : Class := { plain "com/example/backchannel/backchannel/server/ByteQueueClearPinLaw" (some 0) with
  accessFlags := 49
  interfaces := #[]
  cf := some (fileOf pool1 33 #[] #[{ accessFlags := 1, nameIndex := 5, descriptorIndex := 6, attributes := #[] }, { accessFlags := 9, nameIndex := 37, descriptorIndex := 38, attributes := #[] }] 49 2 #[] #[])
  fields := #[]
  methods := #[k1m0, k1m1]
  instanceTypes := #[]
  staticTypes := #[]
  resolved := Array.replicate 44 none
  statics := none }

def pool2 : Array CpInfo := pool [(1, .methodref 2 3), (0, .class_ 4), (0, .nameAndType 5 6), (0, u "java/lang/Object"), (0, u "<init>"), (0, u "()V"), (0, .fieldref 8 9), (0, .class_ 10), (0, .nameAndType 11 12), (0, u "com/example/backchannel/backchannel/server/ByteQueue"), (0, u "NONE"), (0, u "[B"), (0, .fieldref 8 14), (0, .nameAndType 15 12), (0, u "bytes"), (0, .fieldref 8 17), (0, .nameAndType 18 19), (0, u "end"), (0, u "I"), (0, .fieldref 8 21), (0, .nameAndType 22 19), (0, u "start"), (0, .methodref 8 24), (0, .nameAndType 25 26), (0, u "size"), (0, u "()I"), (4, u "(I)V"), (11, .methodref 8 44), (0, .nameAndType 45 31), (0, u "room"), (4, .methodref 51 52), (0, .class_ 53), (0, .nameAndType 54 55), (0, u "java/lang/System"), (0, u "arraycopy"), (0, u "(Ljava/lang/Object;ILjava/lang/Object;II)V"), (3, .methodref 8 60), (0, .nameAndType 61 6), (0, u "clear"), (2, u "isEmpty"), (0, u "()Z"), (11, u "remove"), (0, .methodref 79 80), (0, .class_ 81), (0, .nameAndType 82 83), (0, u "java/lang/Math"), (0, u "max"), (0, u "(II)I"), (0, u "FIRST_CAPACITY"), (5, u "at"), (0, u "(I)B"), (2, u "append"), (1, u "([B)V")] 10

def k2c0 : Code := { maxStack := 2, maxLocals := 1, code := prog_47_method_1_code, exceptionTable := #[], attributes := #[] }
def k2m0 : Method := { name := "<init>", desc := "()V", sig := { parameters := [], returnType := none }, accessFlags := 0, code := some k2c0 }
def k2c1 : Code := { maxStack := 2, maxLocals := 1, code := prog_47_method_2_code, exceptionTable := #[], attributes := #[] }
def k2m1 : Method := { name := "size", desc := "()I", sig := { parameters := [], returnType := some .int }, accessFlags := 0, code := some k2c1 }
def k2c2 : Code := { maxStack := 2, maxLocals := 1, code := prog_47_method_3_code, exceptionTable := #[], attributes := #[] }
def k2m2 : Method := { name := "isEmpty", desc := "()Z", sig := { parameters := [], returnType := some .boolean }, accessFlags := 0, code := some k2c2 }
def k2c3 : Code := { maxStack := 3, maxLocals := 2, code := prog_47_method_4_code, exceptionTable := #[], attributes := #[] }
def k2m3 : Method := { name := "at", desc := "(I)B", sig := { parameters := [.int], returnType := some .byte }, accessFlags := 0, code := some k2c3 }
def k2c4 : Code := { maxStack := 5, maxLocals := 2, code := prog_47_method_7_code, exceptionTable := #[], attributes := #[] }
def k2m4 : Method := { name := "append", desc := "([B)V", sig := { parameters := [(.array .byte)], returnType := none }, accessFlags := 0, code := some k2c4 }
def k2c5 : Code := { maxStack := 3, maxLocals := 2, code := prog_47_method_9_code, exceptionTable := #[], attributes := #[] }
def k2m5 : Method := { name := "remove", desc := "(I)V", sig := { parameters := [.int], returnType := none }, accessFlags := 0, code := some k2c5 }
def k2c6 : Code := { maxStack := 2, maxLocals := 1, code := prog_47_method_11_code, exceptionTable := #[], attributes := #[] }
def k2m6 : Method := { name := "clear", desc := "()V", sig := { parameters := [], returnType := none }, accessFlags := 0, code := some k2c6 }
def k2c7 : Code := { maxStack := 5, maxLocals := 6, code := prog_47_method_12_code, exceptionTable := #[], attributes := #[] }
def k2m7 : Method := { name := "room", desc := "(I)V", sig := { parameters := [.int], returnType := none }, accessFlags := 2, code := some k2c7 }
/-- com/example/backchannel/backchannel/server/ByteQueue -/
def k2 : Class := { plain "com/example/backchannel/backchannel/server/ByteQueue" (some 0) with
  accessFlags := 48
  interfaces := #[]
  cf := some (fileOf pool2 8 #[] #[{ accessFlags := 0, nameIndex := 5, descriptorIndex := 6, attributes := #[] }, { accessFlags := 0, nameIndex := 25, descriptorIndex := 26, attributes := #[] }, { accessFlags := 0, nameIndex := 64, descriptorIndex := 65, attributes := #[] }, { accessFlags := 0, nameIndex := 90, descriptorIndex := 91, attributes := #[] }, { accessFlags := 0, nameIndex := 94, descriptorIndex := 96, attributes := #[] }, { accessFlags := 0, nameIndex := 77, descriptorIndex := 31, attributes := #[] }, { accessFlags := 0, nameIndex := 61, descriptorIndex := 6, attributes := #[] }, { accessFlags := 2, nameIndex := 45, descriptorIndex := 31, attributes := #[] }] 48 2 #[] #[{ accessFlags := 26, nameIndex := 84, descriptorIndex := 19, attributes := #[] }, { accessFlags := 26, nameIndex := 11, descriptorIndex := 12, attributes := #[] }, { accessFlags := 2, nameIndex := 15, descriptorIndex := 12, attributes := #[] }, { accessFlags := 2, nameIndex := 22, descriptorIndex := 19, attributes := #[] }, { accessFlags := 2, nameIndex := 18, descriptorIndex := 19, attributes := #[] }])
  fields := #[{ name := "FIRST_CAPACITY", type := .int, accessFlags := 26, slot := 0, constantValue := 0 }, { name := "NONE", type := (.array .byte), accessFlags := 26, slot := 1, constantValue := 0 }, { name := "bytes", type := (.array .byte), accessFlags := 2, slot := 0, constantValue := 0 }, { name := "start", type := .int, accessFlags := 2, slot := 1, constantValue := 0 }, { name := "end", type := .int, accessFlags := 2, slot := 2, constantValue := 0 }]
  methods := #[k2m0, k2m1, k2m2, k2m3, k2m4, k2m5, k2m6, k2m7]
  instanceTypes := #[(.array .byte), .int, .int]
  staticTypes := #[.int, (.array .byte)]
  resolved := Array.replicate 107 none
  statics := some 0 }

def pool3 : Array CpInfo := pool [(1, .class_ 2), (0, u "java/lang/Math"), (1, .class_ 6), (1, u "java/lang/Object"), (0, u "<init>"), (0, u "()V"), (89, .class_ 100), (1, u "java/lang/Math$RandomNumberGeneratorHolder"), (71, u "negativeZeroFloatBits"), (0, u "J"), (2, u "negativeZeroDoubleBits"), (21, u "max"), (46, u "$assertionsDisabled"), (0, u "Z"), (88, u "(II)I"), (2, u "twoToTheDoubleScaleDown"), (0, u "D"), (4, u "twoToTheDoubleScaleUp"), (9, u "E"), (3, u "PI"), (2, u "TAU"), (2, u "DEGREES_TO_RADIANS"), (0, u "RADIANS_TO_DEGREES")] 94

def k3m0 : Method := { name := "<init>", desc := "()V", sig := { parameters := [], returnType := none }, accessFlags := 2, code := none }
def k3c1 : Code := { maxStack := 2, maxLocals := 2, code := jdk_29_method_65_code, exceptionTable := #[], attributes := #[] }
def k3m1 : Method := { name := "max", desc := "(II)I", sig := { parameters := [.int, .int], returnType := some .int }, accessFlags := 9, code := some k3c1 }
/-- java/lang/Math -/
def k3 : Class := { plain "java/lang/Math" (some 0) with
  accessFlags := 49
  interfaces := #[]
  cf := some (fileOf pool3 1 #[.nestMembers #[98]] #[{ accessFlags := 2, nameIndex := 7, descriptorIndex := 8, attributes := #[] }, { accessFlags := 9, nameIndex := 198, descriptorIndex := 335, attributes := #[] }] 49 4 #[] #[{ accessFlags := 25, nameIndex := 354, descriptorIndex := 339, attributes := #[] }, { accessFlags := 25, nameIndex := 358, descriptorIndex := 339, attributes := #[] }, { accessFlags := 25, nameIndex := 361, descriptorIndex := 339, attributes := #[] }, { accessFlags := 26, nameIndex := 364, descriptorIndex := 339, attributes := #[] }, { accessFlags := 26, nameIndex := 365, descriptorIndex := 339, attributes := #[] }, { accessFlags := 26, nameIndex := 172, descriptorIndex := 173, attributes := #[] }, { accessFlags := 26, nameIndex := 176, descriptorIndex := 173, attributes := #[] }, { accessFlags := 8, nameIndex := 344, descriptorIndex := 339, attributes := #[] }, { accessFlags := 8, nameIndex := 338, descriptorIndex := 339, attributes := #[] }, { accessFlags := 4120, nameIndex := 245, descriptorIndex := 246, attributes := #[] }])
  fields := #[{ name := "E", type := .double, accessFlags := 25, slot := 0, constantValue := 0 }, { name := "PI", type := .double, accessFlags := 25, slot := 1, constantValue := 0 }, { name := "TAU", type := .double, accessFlags := 25, slot := 2, constantValue := 0 }, { name := "DEGREES_TO_RADIANS", type := .double, accessFlags := 26, slot := 3, constantValue := 0 }, { name := "RADIANS_TO_DEGREES", type := .double, accessFlags := 26, slot := 4, constantValue := 0 }, { name := "negativeZeroFloatBits", type := .long, accessFlags := 26, slot := 5, constantValue := 0 }, { name := "negativeZeroDoubleBits", type := .long, accessFlags := 26, slot := 6, constantValue := 0 }, { name := "twoToTheDoubleScaleUp", type := .double, accessFlags := 8, slot := 7, constantValue := 0 }, { name := "twoToTheDoubleScaleDown", type := .double, accessFlags := 8, slot := 8, constantValue := 0 }, { name := "$assertionsDisabled", type := .boolean, accessFlags := 4120, slot := 9, constantValue := 0 }]
  methods := #[k3m0, k3m1]
  instanceTypes := #[]
  staticTypes := #[.double, .double, .double, .double, .double, .long, .long, .double, .double, .boolean]
  resolved := Array.replicate 460 none
  statics := none }

def pool4 : Array CpInfo := pool [(2, .class_ 4), (1, u "java/lang/Object"), (0, u "<init>"), (0, u "()V"), (1, .class_ 10), (1, u "java/lang/System"), (0, u "allowSecurityManager"), (0, u "I"), (16, u "cons"), (0, u "Ljava/io/Console;"), (77, .class_ 110), (1, u "java/lang/System$CallersHolder"), (43, u "initialErrStream"), (0, u "Ljava/io/PrintStream;"), (19, u "security"), (0, u "Ljava/lang/SecurityManager;"), (31, .class_ 209), (0, u "java/lang/System$1"), (7, u "props"), (0, u "Ljava/util/Properties;"), (2, u "lineSeparator"), (0, u "Ljava/lang/String;"), (96, .class_ 321), (1, u "java/lang/System$LoggerFinder"), (5, .class_ 328), (0, u "java/lang/System$Logger"), (67, u "err"), (2, u "out"), (91, u "notSupportedJnuEncoding"), (15, u "in"), (17, u "initialIn"), (0, u "Ljava/io/InputStream;"), (35, u "bootLayer"), (0, u "Ljava/lang/ModuleLayer;"), (99, .class_ 664), (0, u "java/lang/System$2"), (9, u "NEVER"), (2, u "MAYBE"), (49, u "arraycopy"), (0, u "(Ljava/lang/Object;ILjava/lang/Object;II)V"), (72, .class_ 802), (0, u "java/lang/System$Logger$Level")] 31

def k4m0 : Method := { name := "<init>", desc := "()V", sig := { parameters := [], returnType := none }, accessFlags := 2, code := none }
def k4m1 : Method := { name := "arraycopy", desc := "(Ljava/lang/Object;ILjava/lang/Object;II)V", sig := { parameters := [(.object "java/lang/Object"), .int, (.object "java/lang/Object"), .int, .int], returnType := none }, accessFlags := 265, code := none }
/-- java/lang/System -/
def k4 : Class := { plain "java/lang/System" (some 0) with
  accessFlags := 49
  interfaces := #[]
  cf := some (fileOf pool4 8 #[.nestMembers #[319, 327, 801, 108, 663, 208]] #[{ accessFlags := 2, nameIndex := 5, descriptorIndex := 6, attributes := #[] }, { accessFlags := 265, nameIndex := 727, descriptorIndex := 728, attributes := #[] }] 49 2 #[] #[{ accessFlags := 25, nameIndex := 507, descriptorIndex := 526, attributes := #[] }, { accessFlags := 25, nameIndex := 399, descriptorIndex := 155, attributes := #[] }, { accessFlags := 25, nameIndex := 396, descriptorIndex := 155, attributes := #[] }, { accessFlags := 10, nameIndex := 525, descriptorIndex := 526, attributes := #[] }, { accessFlags := 26, nameIndex := 674, descriptorIndex := 12, attributes := #[] }, { accessFlags := 26, nameIndex := 677, descriptorIndex := 12, attributes := #[] }, { accessFlags := 10, nameIndex := 11, descriptorIndex := 12, attributes := #[] }, { accessFlags := 74, nameIndex := 175, descriptorIndex := 176, attributes := #[] }, { accessFlags := 10, nameIndex := 491, descriptorIndex := 222, attributes := #[] }, { accessFlags := 74, nameIndex := 29, descriptorIndex := 30, attributes := #[] }, { accessFlags := 74, nameIndex := 154, descriptorIndex := 155, attributes := #[] }, { accessFlags := 10, nameIndex := 217, descriptorIndex := 218, attributes := #[] }, { accessFlags := 10, nameIndex := 221, descriptorIndex := 222, attributes := #[] }, { accessFlags := 8, nameIndex := 562, descriptorIndex := 563, attributes := #[] }])
  fields := #[{ name := "in", type := (.object "java/io/InputStream"), accessFlags := 25, slot := 0, constantValue := 0 }, { name := "out", type := (.object "java/io/PrintStream"), accessFlags := 25, slot := 1, constantValue := 0 }, { name := "err", type := (.object "java/io/PrintStream"), accessFlags := 25, slot := 2, constantValue := 0 }, { name := "initialIn", type := (.object "java/io/InputStream"), accessFlags := 10, slot := 3, constantValue := 0 }, { name := "NEVER", type := .int, accessFlags := 26, slot := 4, constantValue := 0 }, { name := "MAYBE", type := .int, accessFlags := 26, slot := 5, constantValue := 0 }, { name := "allowSecurityManager", type := .int, accessFlags := 10, slot := 6, constantValue := 0 }, { name := "security", type := (.object "java/lang/SecurityManager"), accessFlags := 74, slot := 7, constantValue := 0 }, { name := "notSupportedJnuEncoding", type := (.object "java/lang/String"), accessFlags := 10, slot := 8, constantValue := 0 }, { name := "cons", type := (.object "java/io/Console"), accessFlags := 74, slot := 9, constantValue := 0 }, { name := "initialErrStream", type := (.object "java/io/PrintStream"), accessFlags := 74, slot := 10, constantValue := 0 }, { name := "props", type := (.object "java/util/Properties"), accessFlags := 10, slot := 11, constantValue := 0 }, { name := "lineSeparator", type := (.object "java/lang/String"), accessFlags := 10, slot := 12, constantValue := 0 }, { name := "bootLayer", type := (.object "java/lang/ModuleLayer"), accessFlags := 8, slot := 13, constantValue := 0 }]
  methods := #[k4m0, k4m1]
  instanceTypes := #[]
  staticTypes := #[(.object "java/io/InputStream"), (.object "java/io/PrintStream"), (.object "java/io/PrintStream"), (.object "java/io/InputStream"), .int, .int, .int, (.object "java/lang/SecurityManager"), (.object "java/lang/String"), (.object "java/io/Console"), (.object "java/io/PrintStream"), (.object "java/util/Properties"), (.object "java/lang/String"), (.object "java/lang/ModuleLayer")]
  resolved := Array.replicate 834 none
  statics := none }

def pool5 : Array CpInfo := pool [(1, u "java/lang/Cloneable"), (0, .class_ 1), (0, u "java/lang/Object"), (0, .class_ 3)] 3

/-- java/lang/Cloneable -/
def k5 : Class := { plain "java/lang/Cloneable" (some 0) with
  accessFlags := 1537
  interfaces := #[]
  cf := some (fileOf pool5 2 #[] #[] 1537 4 #[] #[])
  fields := #[]
  methods := #[]
  instanceTypes := #[]
  staticTypes := #[]
  resolved := Array.replicate 8 none
  statics := none }

def pool6 : Array CpInfo := pool [(1, u "java/io/Serializable"), (0, .class_ 1), (0, u "java/lang/Object"), (0, .class_ 3)] 3

/-- java/io/Serializable -/
def k6 : Class := { plain "java/io/Serializable" (some 0) with
  accessFlags := 1537
  interfaces := #[]
  cf := some (fileOf pool6 2 #[] #[] 1537 4 #[] #[])
  fields := #[]
  methods := #[]
  instanceTypes := #[]
  staticTypes := #[]
  resolved := Array.replicate 8 none
  statics := none }

/-- the primitive byte -/
def k7 : Class := { plain "byte" none with kind := .primitive 'B', accessFlags := 0x411 }
/-- [B -/
def k8 : Class := { plain "[B" (some 0) with kind := .array 7 .byte, interfaces := #[5, 6], accessFlags := 1041 }

/-- the primitive int -/
def k9 : Class := { plain "int" none with kind := .primitive 'I', accessFlags := 0x411 }
/-- [I -/
def k10 : Class := { plain "[I" (some 0) with kind := .array 9 .int, interfaces := #[5, 6], accessFlags := 1041 }

def heap : Heap := #[{ cls := 2, slots := #[.int 0, .ref 1], vm := .statics 2 },
  { cls := 8, slots := #[], vm := .none }]
def classes : Array Class := #[k0, k1, k2, k3, k4, k5, k6, k7, k8, k9, k10]
def interned : List (Array UInt16 × Addr) := []
def slotsUsed : Nat := 2
def theMethod : MethodId := ⟨1, 1⟩
def args0 : Array Value := #[.int 5, .int 7, .int 9, .int 11]
def aboutOver (below : List Frame) : State where
  vm := { classes := classes, interned := interned.toArray }
  heap := heap
  slotsUsed := slotsUsed
  threads := #[{ frames := .invoking theMethod args0 :: below }]
def below0 : List Frame := [.native { method := ⟨0, 0⟩, args := #[] }]
def about1 : State := aboutOver below0
def p0 : Program := .bare "" "" ""
def e0 : Env := launch0.env 0 0 0
theorem w_frames : about1.frames = Frame.invoking theMethod args0 :: below0 := rfl
set_option maxRecDepth 65536 in
theorem w_args : argsFit about1.vm theMethod args0 = true := by decide +kernel
set_option maxRecDepth 65536 in
theorem w_heap : heapFits about1 = true := by decide +kernel
set_option maxRecDepth 65536 in
theorem w_runnable : about1.curStatus? = some .runnable := by decide +kernel
set_option maxRecDepth 65536 in
theorem w_alone : about1.alone = true := by decide +kernel
set_option maxRecDepth 65536 in
theorem w_named : about1.methodNamed? x = some theMethod := by decide +kernel
set_option maxRecDepth 65536 in
theorem w_hears : about1.hears theMethod below0 = true := by decide +kernel
set_option maxRecDepth 65536 in
theorem w_ripe : about1.ripe theMethod args0 below0 = true := by decide +kernel
theorem w_running : about1.status = .running := rfl
set_option maxRecDepth 65536 in
theorem w_room : about1.hasRoom e0.platform room_1 = true :=
  launch0.hasRoom_least _ room_1 (by decide +kernel) (by decide +kernel) (by decide +kernel) (by decide +kernel) (by decide +kernel) (by decide +kernel)
theorem allAtoms_all (ts : List Jvm.Cond) (a : Array Jvm.Value) (st : Jvm.State) : (allAtoms ts).before a st = ts.all (fun c => c.before a st) := by
  induction ts with
  | nil => rfl
  | cons c t ih =>
    show (Jvm.Cond.and c (allAtoms t)).before a st = _
    rw [Jvm.Cond.before_and, ih, List.all_cons]
def words1 : List Jvm.Cond := Jvm.Cond.code x code maxLocals ret :: tables_1
/-- a 'code' word, met by the world's own term for the bytes: nothing is compared byte by byte -/
theorem code_word {y : MethodName} {bytes : ByteArray} {mx : Nat} {rt : Option FieldType} {a : Array Value} {s : State} {m : MethodId} {meth : Method} {c : Code} (h1 : s.methodNamed? y = some m) (h2 : s.vm.method? m = some meth) (h3 : meth.code = some c) (h4 : c.code = bytes)
    (h5 : (c.maxLocals == mx && c.exceptionTable.isEmpty && decide (c.maxStack ≤ mostOperands) && decide (meth.sig.returnType = rt) && !meth.locks && decide (parseMethodDescriptor y.desc = some meth.sig)) = true) : (Jvm.Cond.code y bytes mx rt).before a s = true := by
  simp only [Bool.and_eq_true, beq_iff_eq, Bool.not_eq_true', decide_eq_true_eq] at h5
  obtain ⟨⟨⟨⟨⟨g1, g2⟩, g3⟩, g4⟩, g5⟩, g6⟩ := h5
  simp [Cond.before, Cond.holds, Cond.value, h1, h2, h3, h4, g1, g2, g3, g4, g5, g6]
def isCode : Jvm.Cond → Bool
  | .code _ _ _ _ => true
  | _ => false
theorem all_split {L : List Jvm.Cond} {P : Jvm.Cond → Bool} (h1 : L.all (fun c => isCode c || P c) = true) (h2 : ∀ c ∈ L.filter isCode, P c = true) : L.all P = true := by
  refine List.all_eq_true.mpr fun c hc => ?_
  have h := List.all_eq_true.mp h1 c hc
  rcases Bool.eq_false_or_eq_true (isCode c) with hi | hi
  · exact h2 c (List.mem_filter.mpr ⟨hc, hi⟩)
  · simpa [hi] using h
set_option maxRecDepth 65536 in
theorem w_c0 : (Jvm.Cond.code x code maxLocals ret).before args0 about1 = true := code_word (m := ⟨1, 1⟩) (meth := k1m1) (c := k1c1) (by decide +kernel) rfl rfl rfl (by decide +kernel)
set_option maxRecDepth 65536 in
theorem w_c1 : (Jvm.Cond.code ({ cls := "com/example/backchannel/backchannel/server/ByteQueue", name := "<init>", desc := "()V" } : Jvm.MethodName) prog_47_method_1_code (1 : Nat) (Option.none : Option Jvm.ClassFile.FieldType)).before args0 about1 = true := code_word (m := ⟨2, 0⟩) (meth := k2m0) (c := k2c0) (by decide +kernel) rfl rfl rfl (by decide +kernel)
set_option maxRecDepth 65536 in
theorem w_c2 : (Jvm.Cond.code ({ cls := "java/lang/Object", name := "<init>", desc := "()V" } : Jvm.MethodName) object_method_1_code (1 : Nat) (Option.none : Option Jvm.ClassFile.FieldType)).before args0 about1 = true := code_word (m := ⟨0, 0⟩) (meth := k0m0) (c := k0c0) (by decide +kernel) rfl rfl rfl (by decide +kernel)
set_option maxRecDepth 65536 in
theorem w_c3 : (Jvm.Cond.code ({ cls := "com/example/backchannel/backchannel/server/ByteQueue", name := "append", desc := "([B)V" } : Jvm.MethodName) prog_47_method_7_code (2 : Nat) (Option.none : Option Jvm.ClassFile.FieldType)).before args0 about1 = true := code_word (m := ⟨2, 4⟩) (meth := k2m4) (c := k2c4) (by decide +kernel) rfl rfl rfl (by decide +kernel)
set_option maxRecDepth 65536 in
theorem w_c4 : (Jvm.Cond.code ({ cls := "com/example/backchannel/backchannel/server/ByteQueue", name := "room", desc := "(I)V" } : Jvm.MethodName) prog_47_method_12_code (6 : Nat) (Option.none : Option Jvm.ClassFile.FieldType)).before args0 about1 = true := code_word (m := ⟨2, 7⟩) (meth := k2m7) (c := k2c7) (by decide +kernel) rfl rfl rfl (by decide +kernel)
set_option maxRecDepth 65536 in
theorem w_c5 : (Jvm.Cond.code ({ cls := "com/example/backchannel/backchannel/server/ByteQueue", name := "size", desc := "()I" } : Jvm.MethodName) prog_47_method_2_code (1 : Nat) (Option.some Jvm.ClassFile.FieldType.int)).before args0 about1 = true := code_word (m := ⟨2, 1⟩) (meth := k2m1) (c := k2c1) (by decide +kernel) rfl rfl rfl (by decide +kernel)
set_option maxRecDepth 65536 in
theorem w_c6 : (Jvm.Cond.code ({ cls := "java/lang/Math", name := "max", desc := "(II)I" } : Jvm.MethodName) jdk_29_method_65_code (2 : Nat) (Option.some Jvm.ClassFile.FieldType.int)).before args0 about1 = true := code_word (m := ⟨3, 1⟩) (meth := k3m1) (c := k3c1) (by decide +kernel) rfl rfl rfl (by decide +kernel)
set_option maxRecDepth 65536 in
theorem w_c7 : (Jvm.Cond.code ({ cls := "com/example/backchannel/backchannel/server/ByteQueue", name := "remove", desc := "(I)V" } : Jvm.MethodName) prog_47_method_9_code (2 : Nat) (Option.none : Option Jvm.ClassFile.FieldType)).before args0 about1 = true := code_word (m := ⟨2, 5⟩) (meth := k2m5) (c := k2c5) (by decide +kernel) rfl rfl rfl (by decide +kernel)
set_option maxRecDepth 65536 in
theorem w_c8 : (Jvm.Cond.code ({ cls := "com/example/backchannel/backchannel/server/ByteQueue", name := "clear", desc := "()V" } : Jvm.MethodName) prog_47_method_11_code (1 : Nat) (Option.none : Option Jvm.ClassFile.FieldType)).before args0 about1 = true := code_word (m := ⟨2, 6⟩) (meth := k2m6) (c := k2c6) (by decide +kernel) rfl rfl rfl (by decide +kernel)
set_option maxRecDepth 65536 in
theorem w_c9 : (Jvm.Cond.code ({ cls := "com/example/backchannel/backchannel/server/ByteQueue", name := "isEmpty", desc := "()Z" } : Jvm.MethodName) prog_47_method_3_code (1 : Nat) (Option.some Jvm.ClassFile.FieldType.boolean)).before args0 about1 = true := code_word (m := ⟨2, 2⟩) (meth := k2m2) (c := k2c2) (by decide +kernel) rfl rfl rfl (by decide +kernel)
set_option maxRecDepth 65536 in
theorem w_c10 : (Jvm.Cond.code ({ cls := "com/example/backchannel/backchannel/server/ByteQueue", name := "at", desc := "(I)B" } : Jvm.MethodName) prog_47_method_4_code (2 : Nat) (Option.some Jvm.ClassFile.FieldType.byte)).before args0 about1 = true := code_word (m := ⟨2, 3⟩) (meth := k2m3) (c := k2c3) (by decide +kernel) rfl rfl rfl (by decide +kernel)
def codes1 : List Jvm.Cond := [Jvm.Cond.code x code maxLocals ret, Jvm.Cond.code ({ cls := "com/example/backchannel/backchannel/server/ByteQueue", name := "<init>", desc := "()V" } : Jvm.MethodName) prog_47_method_1_code (1 : Nat) (Option.none : Option Jvm.ClassFile.FieldType), Jvm.Cond.code ({ cls := "java/lang/Object", name := "<init>", desc := "()V" } : Jvm.MethodName) object_method_1_code (1 : Nat) (Option.none : Option Jvm.ClassFile.FieldType), Jvm.Cond.code ({ cls := "com/example/backchannel/backchannel/server/ByteQueue", name := "append", desc := "([B)V" } : Jvm.MethodName) prog_47_method_7_code (2 : Nat) (Option.none : Option Jvm.ClassFile.FieldType), Jvm.Cond.code ({ cls := "com/example/backchannel/backchannel/server/ByteQueue", name := "room", desc := "(I)V" } : Jvm.MethodName) prog_47_method_12_code (6 : Nat) (Option.none : Option Jvm.ClassFile.FieldType), Jvm.Cond.code ({ cls := "com/example/backchannel/backchannel/server/ByteQueue", name := "size", desc := "()I" } : Jvm.MethodName) prog_47_method_2_code (1 : Nat) (Option.some Jvm.ClassFile.FieldType.int), Jvm.Cond.code ({ cls := "java/lang/Math", name := "max", desc := "(II)I" } : Jvm.MethodName) jdk_29_method_65_code (2 : Nat) (Option.some Jvm.ClassFile.FieldType.int), Jvm.Cond.code ({ cls := "com/example/backchannel/backchannel/server/ByteQueue", name := "remove", desc := "(I)V" } : Jvm.MethodName) prog_47_method_9_code (2 : Nat) (Option.none : Option Jvm.ClassFile.FieldType), Jvm.Cond.code ({ cls := "com/example/backchannel/backchannel/server/ByteQueue", name := "clear", desc := "()V" } : Jvm.MethodName) prog_47_method_11_code (1 : Nat) (Option.none : Option Jvm.ClassFile.FieldType), Jvm.Cond.code ({ cls := "com/example/backchannel/backchannel/server/ByteQueue", name := "isEmpty", desc := "()Z" } : Jvm.MethodName) prog_47_method_3_code (1 : Nat) (Option.some Jvm.ClassFile.FieldType.boolean), Jvm.Cond.code ({ cls := "com/example/backchannel/backchannel/server/ByteQueue", name := "at", desc := "(I)B" } : Jvm.MethodName) prog_47_method_4_code (2 : Nat) (Option.some Jvm.ClassFile.FieldType.byte)]
set_option maxRecDepth 65536 in
theorem codes_eq : words1.filter isCode = codes1 := rfl
theorem w_codes : ∀ c ∈ words1.filter isCode, c.before args0 about1 = true := by
  rw [codes_eq]
  intro c hc
  simp only [codes1, List.mem_cons, List.not_mem_nil, or_false] at hc
  rcases hc with rfl | rfl | rfl | rfl | rfl | rfl | rfl | rfl | rfl | rfl | rfl
  · exact w_c0
  · exact w_c1
  · exact w_c2
  · exact w_c3
  · exact w_c4
  · exact w_c5
  · exact w_c6
  · exact w_c7
  · exact w_c8
  · exact w_c9
  · exact w_c10
set_option maxRecDepth 65536 in
theorem w_t1 : (words1.take 24).all (fun c => isCode c || c.before args0 about1) = true := by decide +kernel
set_option maxRecDepth 65536 in
theorem w_t2 : ((words1.drop 24).take 24).all (fun c => isCode c || c.before args0 about1) = true := by decide +kernel
set_option maxRecDepth 65536 in
theorem w_t3 : ((words1.drop 24).drop 24).all (fun c => isCode c || c.before args0 about1) = true := by decide +kernel
theorem w_tables : (allAtoms (Jvm.Cond.code x code maxLocals ret :: tables_1)).before args0 about1 = true := by
  rw [allAtoms_all]
  show words1.all (fun c => c.before args0 about1) = true
  refine all_split ?_ w_codes
  rw [← List.take_append_drop 24 words1, List.all_append, w_t1, ← List.take_append_drop 24 (words1.drop 24), List.all_append, w_t2, w_t3]
  rfl
set_option maxRecDepth 65536 in
theorem w_case : (Jvm.Cond.and given_1 narrow_1).before args0 about1 = true := by decide +kernel
theorem w_applies : (headSpec (Jvm.Cond.code x code maxLocals ret :: tables_1) room_1).applies x e0.platform about1 = true :=
  (Spec.applies_iff w_frames).mpr ⟨w_running, w_runnable, w_alone, w_named, w_hears, w_ripe, w_room, w_tables⟩
theorem atStart : AtStart classFile x code maxLocals ret World_1 tables_1 room_1 Calls_1 rest_1 Pre_1 launch0 p0 e0 about1 theMethod args0 below0 :=
  ⟨lists_1, trivial, launch0.admits_env _ _ _, launch0.least_env, fairChoices_fair.cas, fairChoices_fair.clock, w_frames, w_args, w_heap, w_applies, trivial, trivial, w_case⟩
end start1
theorem witness_1 : WitnessClaimed_1 := ⟨start1.p0, start1.e0, start1.about1, start1.theMethod, start1.args0, start1.below0, start1.atStart⟩
end Jvm.Pilot.@@N@@
