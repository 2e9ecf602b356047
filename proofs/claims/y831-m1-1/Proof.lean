import JvmDerived
import JvmDerived.Pilot.@@N@@Statement
import JvmDerived.Pilot.@@N@@Code
set_option linter.unusedVariables false
set_option linter.unusedSimpArgs false
@@BLOCK:NumsL.lean.txt@@
namespace Jvm.Pilot.@@N@@
open Jvm Jvm.ClassFile Sem Op Lib Jvm.Free Jvm.Stand Jvm.LawKit Jvm.RoadKit Bundle Jvm.Pilot.@@N@@.Jvm.D
theorem own_w {ws : List Jvm.Cond} {a0 : Array Value} {Z : State} (hw : ∀ d ∈ ws, d.before a0 Z = true) (i : Nat) {d : Jvm.Cond} (h : ws[i]? = some d) : d.before a0 Z = true := hw d (List.mem_of_getElem? h)
/-! the run from a frame comes to an end of which A holds: one walk a body, branches by cases -/
def own_Go (tb : Tables) (e : Env) (below : List Frame) (A : State → Prop) (T : State) (g : JFrame) : Prop := ∃ t, Steps tb e below (T.setTop g) t ∧ A t
theorem own_st {tb : Tables} {e : Env} {below : List Frame} {A : State → Prop} {T T1 : State} {g g1 : JFrame} (k : ∀ t, Steps tb e below (T1.setTop g1) t → Steps tb e below (T.setTop g) t) (h : own_Go tb e below A T1 g1) : own_Go tb e below A T g := by
  obtain ⟨t, a, b⟩ := h
  exact ⟨t, k t a, b⟩
def own_End (s : State) (below : List Frame) (Q : Option Value → Heap → List Loc → Prop) (k n : Nat) (t : State) : Prop := ∃ o, t.status = .running ∧ Ended t below o ∧ ∃ v L, o = .returned v ∧ Q v t.heap L ∧ FrameEnd s o t L k n
theorem own_open {tb : Tables} {e : Env} {below : List Frame} {s₁ s : State} {g g' : JFrame} {Q : Option Value → Heap → List Loc → Prop} {k n : Nat} (hg : g = g') (h : own_Go tb e below (own_End s below Q k n) s₁ g') : ∃ s₂ o, Steps tb e below (s₁.setTop g) s₂ ∧ s₂.status = .running ∧ Ended s₂ below o ∧ ∃ v L, o = .returned v ∧ Q v s₂.heap L ∧ FrameEnd s o s₂ L k n := by
  subst hg
  obtain ⟨t, a, o, b, c, d⟩ := h
  exact ⟨t, o, a, b, c, d⟩
theorem own_nar {t : FieldType} {w : Value} (hw : w.isRef = true) : narrow t w = w := by cases w <;> first | (cases t <;> rfl) | simp [Value.isRef] at hw
section OwnEnds
variable {p : Program} {l : Launch} {e : Env} {R : Room} {s : State} {m : MethodId} {args : Array Value} {below : List Frame} {meth : Method} {c : Code} {T : State} {locs : List Loc} {cells slots : Nat} {Q : Option Value → Heap → List Loc → Prop} {k n : Nat} {h : Heap}
theorem own_end (X : Stand p l e R s m args below meth c T locs cells slots) (hlk : meth.locks = false) (v : Option Value) (hv : meth.sig.returnType = none → v = none) (hk : cells ≤ k) (hn : slots ≤ n) (eT : T.heap = h) (hq : Q v h locs) {g : JFrame}
    (hs : ∀ fs, (∀ (f : JFrame) (acts : List Action), f.method = m → f.locked = none → f.entered = [] → (doReturn e (T.setTop f) acts v).1 = T.setFrames fs) → Steps p.tables e below (T.setTop g) (T.setFrames fs)) : own_Go p.tables e below (own_End s below Q k n) T g := by
  obtain ⟨fs, hr, hrun, hended, hW, hsame⟩ := X.leave (v := v) hv
  exact ⟨_, hs fs hr, _, hrun, hended, v, locs, rfl, (by show Q v T.heap locs; rw [eT]; exact hq), ⟨_, rfl⟩, hW, hsame.mono hk hn⟩
theorem own_retZ (X : Stand p l e R s m args below meth c T locs cells slots) (hx : p.tables.exec = Jvm.exec) (hlk : meth.locks = false) {pc : Nat} {Ls : Array Slot} {z : Int32} {rest : List Value} {t : FieldType} (hret : meth.sig.returnType = some t) (ht : t = .boolean ∨ t = .byte ∨ t = .char ∨ t = .short) (hd : decode c.code pc = .ok (.ireturn, 1)) (hk : cells ≤ k) (hn : slots ≤ n) (eT : T.heap = h) (hq : Q (some (.int (nar t z))) h locs) :
    own_Go p.tables e below (own_End s below Q k n) T (mkF m pc Ls (.int z :: rest)) :=
  own_end X hlk _ (fun q => by rw [hret] at q; cases q) hk hn eT hq (fun fs hr => retN X hx hret ht hd hr)
theorem own_retI (X : Stand p l e R s m args below meth c T locs cells slots) (hx : p.tables.exec = Jvm.exec) (hlk : meth.locks = false) {pc : Nat} {Ls : Array Slot} {z : Int32} {rest : List Value} (hret : meth.sig.returnType = some .int) (hd : decode c.code pc = .ok (.ireturn, 1)) (hk : cells ≤ k) (hn : slots ≤ n) (eT : T.heap = h) (hq : Q (some (.int z)) h locs) :
    own_Go p.tables e below (own_End s below Q k n) T (mkF m pc Ls (.int z :: rest)) :=
  own_end X hlk _ (fun q => by rw [hret] at q; cases q) hk hn eT hq (fun fs hr => retOut X hx hret rfl (Or.inl ⟨rfl, Or.inl rfl, z, rfl⟩) hd hr)
theorem own_retJ (X : Stand p l e R s m args below meth c T locs cells slots) (hx : p.tables.exec = Jvm.exec) (hlk : meth.locks = false) {pc : Nat} {Ls : Array Slot} {z : Int64} {rest : List Value} (hret : meth.sig.returnType = some .long) (hd : decode c.code pc = .ok (.lreturn, 1)) (hk : cells ≤ k) (hn : slots ≤ n) (eT : T.heap = h) (hq : Q (some (.long z)) h locs) :
    own_Go p.tables e below (own_End s below Q k n) T (mkF m pc Ls (.long z :: rest)) :=
  own_end X hlk _ (fun q => by rw [hret] at q; cases q) hk hn eT hq (fun fs hr => retOut X hx hret rfl (Or.inr (Or.inl ⟨rfl, rfl, z, rfl⟩)) hd hr)
theorem own_retA (X : Stand p l e R s m args below meth c T locs cells slots) (hx : p.tables.exec = Jvm.exec) (hlk : meth.locks = false) {pc : Nat} {Ls : Array Slot} {w : Value} {rest : List Value} {t : FieldType} (hret : meth.sig.returnType = some t) (ht : t.isReference = true) (hw : w.isRef = true) (hd : decode c.code pc = .ok (.areturn, 1)) (hk : cells ≤ k) (hn : slots ≤ n) (eT : T.heap = h) (hq : Q (some w) h locs) :
    own_Go p.tables e below (own_End s below Q k n) T (mkF m pc Ls (w :: rest)) :=
  own_end X hlk _ (fun q => by rw [hret] at q; cases q) hk hn eT hq (fun fs hr => retOut X hx hret (own_nar hw) (Or.inr (Or.inr (Or.inr (Or.inr ⟨rfl, ht, hw⟩)))) hd hr)
theorem own_retV (X : Stand p l e R s m args below meth c T locs cells slots) (hx : p.tables.exec = Jvm.exec) (hlk : meth.locks = false) {pc : Nat} {Ls : Array Slot} (hret : meth.sig.returnType = none) (hd : decode c.code pc = .ok (.return_, 1)) (hk : cells ≤ k) (hn : slots ≤ n) (eT : T.heap = h) (hq : Q none h locs) :
    own_Go p.tables e below (own_End s below Q k n) T (mkF m pc Ls []) :=
  own_end X hlk _ (fun _ => rfl) hk hn eT hq (fun fs hr => X.returnOut hx hret hd hr)
end OwnEnds
section OwnWords
variable {args : Array Value} {first s : State} {o : Option Outcome} {idx : List Nat} {a b : Jvm.Term}
theorem own_eqI {k : Int32} (h : (Jvm.Cond.eq a b).value args first o s idx = some true) (hb : b.eval args first o idx s = some (.int k)) : a.eval args first o idx s = some (.int k) := by
  cases ha : a.eval args first o idx s with
  | none => simp [Cond.value, ha] at h
  | some x => cases x <;> simp [Cond.value, ha, hb] at h ⊢; exact h
theorem own_eqR {y : Addr} (h : (Jvm.Cond.eq a b).value args first o s idx = some true) (hb : b.eval args first o idx s = some (.ref y)) : a.eval args first o idx s = some (.ref y) := by
  cases ha : a.eval args first o idx s with
  | none => simp [Cond.value, ha] at h
  | some x => cases x <;> simp [Cond.value, ha, hb] at h ⊢; exact h
end OwnWords
theorem own_nei {i j : Int32} (h : i ≠ j) : Value.int i ≠ Value.int j := fun q => h (Value.int.inj q)
theorem own_plE {Z : State} {h : Heap} {a : Addr} {C : String} (F : Exa Z h a C) : ∃ c : Cell, h[a]? = some c ∧ c.vm.isStatics = false := by
  obtain ⟨c, -, h1, -, -, h2, -⟩ := F
  exact ⟨c, h1, h2⟩
theorem own_plV {Z : State} {h : Heap} {a : Addr} {k : ClassId} {ty : FieldType} {n : Int32} {vs : List Value} {d : Value} (F : Arv Z h a k ty n vs d) : ∃ c : Cell, h[a]? = some c ∧ c.vm.isStatics = false := by
  obtain ⟨c, A, -⟩ := F
  exact ⟨c, A.1, A.plain⟩
theorem own_stak {Z : State} {h h' : Heap} {C n d : String} {v : Value} {ws : List Addr} (F : Sta Z h C n d v) (K : Keep h h' ws) (q : ∀ x ∈ ws, ∃ c : Cell, h[x]? = some c ∧ c.vm.isStatics = false) : Sta Z h' C n d v := by
  obtain ⟨cf, i, k, f, st, cell, h1, h2, h3, h4, h5, h6, h7⟩ := F
  refine ⟨cf, i, k, f, st, cell, h1, h2, h3, h4, K.2.1 _ _ h5 (fun m => ?_), h6, h7⟩
  obtain ⟨c, e1, e2⟩ := q _ m
  cases h5.symm.trans e1
  rw [h6] at e2; cases e2
theorem own_nev {Z : State} {h : Heap} {a b : Addr} {C : String} {k : ClassId} {ty : FieldType} {n : Int32} {vs : List Value} {d : Value} {a0 : Array Value} {kk : Nat} (F : Exa Z h a C) (wi : (Jvm.Cond.instantiable C kk).before a0 Z = true) (G : Arv Z h b k ty n vs d) : a ≠ b := by
  obtain ⟨c, A, -⟩ := G
  exact ne_arr F wi A
section OwnArrays
variable {p : Program} {l : Launch} {e : Env} {R : Room} {s : State} {m : MethodId} {args : Array Value} {below : List Frame} {meth : Method} {c : Code} {T : State} {locs : List Loc} {cells slots : Nat} {Z : State} {h : Heap} {a : Addr} {k : ClassId} {ty : FieldType} {n j : Int32} {vs : List Value} {d v : Value} {rest : List Value}
theorem own_aaload (X : Stand p l e R s m args below meth c T locs cells slots) (hx : p.tables.exec = Jvm.exec) (hZ : Z.Warmed39 s.vm) (eT : T.heap = h) (F : Arv Z h a k ty n vs d) (hty : ty.isReference = true) (hj : ¬ j < 0 ∧ j < n) (hv : vs.getD j.toNatClampNeg d = v) {g : JFrame} (hg : g.method = m) (hs : g.stack = .int j :: .ref a :: rest) (hd : decode c.code g.pc = .ok (.aaload, 1)) :
    ∀ target, Steps p.tables e below (T.setTop { g with pc := g.pc + 1, stack := v :: rest }) target → Steps p.tables e below (T.setTop g) target := by
  obtain ⟨cl, A, -, S, -, H, -⟩ := F
  exact X.aaload hx (by rw [eT]; exact A.1) (State.isArrayOf_alike hZ.alike A.2.1) hty A.2.2 (inb_of S hj) (H.at (inb_of S hj) hv) hg hs hd
theorem own_iaload (X : Stand p l e R s m args below meth c T locs cells slots) (hx : p.tables.exec = Jvm.exec) (hZ : Z.Warmed39 s.vm) (eT : T.heap = h) (F : Arv Z h a k .int n vs d) (hj : ¬ j < 0 ∧ j < n) (hv : vs.getD j.toNatClampNeg d = v) {g : JFrame} (hg : g.method = m) (hs : g.stack = .int j :: .ref a :: rest) (hd : decode c.code g.pc = .ok (.iaload, 1)) :
    ∀ target, Steps p.tables e below (T.setTop { g with pc := g.pc + 1, stack := v :: rest }) target → Steps p.tables e below (T.setTop g) target := by
  obtain ⟨cl, A, -, S, -, H, -⟩ := F
  exact X.iaload hx (by rw [eT]; exact A.1) (State.isArrayOf_alike hZ.alike A.2.1) A.2.2 (inb_of S hj) (H.at (inb_of S hj) hv) hg hs hd
theorem own_laload (X : Stand p l e R s m args below meth c T locs cells slots) (hx : p.tables.exec = Jvm.exec) (hZ : Z.Warmed39 s.vm) (eT : T.heap = h) (F : Arv Z h a k .long n vs d) (hj : ¬ j < 0 ∧ j < n) (hv : vs.getD j.toNatClampNeg d = v) {g : JFrame} (hg : g.method = m) (hs : g.stack = .int j :: .ref a :: rest) (hd : decode c.code g.pc = .ok (.laload, 1)) :
    ∀ target, Steps p.tables e below (T.setTop { g with pc := g.pc + 1, stack := v :: rest }) target → Steps p.tables e below (T.setTop g) target := by
  obtain ⟨cl, A, -, S, -, H, -⟩ := F
  exact X.laload hx (by rw [eT]; exact A.1) (State.isArrayOf_alike hZ.alike A.2.1) A.2.2 (inb_of S hj) (H.at (inb_of S hj) hv) hg hs hd
theorem own_baloadB (X : Stand p l e R s m args below meth c T locs cells slots) (hx : p.tables.exec = Jvm.exec) (hZ : Z.Warmed39 s.vm) (eT : T.heap = h) (F : Arv Z h a k .byte n vs d) (hj : ¬ j < 0 ∧ j < n) (hv : vs.getD j.toNatClampNeg d = v) {g : JFrame} (hg : g.method = m) (hs : g.stack = .int j :: .ref a :: rest) (hd : decode c.code g.pc = .ok (.baload, 1)) :
    ∀ target, Steps p.tables e below (T.setTop { g with pc := g.pc + 1, stack := v :: rest }) target → Steps p.tables e below (T.setTop g) target := by
  obtain ⟨cl, A, -, S, -, H, -⟩ := F
  exact X.baloadBytes hx (by rw [eT]; exact A.1) (State.isArrayOf_alike hZ.alike A.2.1) A.2.2 (inb_of S hj) (H.at (inb_of S hj) hv) hg hs hd
theorem own_baloadZ (X : Stand p l e R s m args below meth c T locs cells slots) (hx : p.tables.exec = Jvm.exec) (hZ : Z.Warmed39 s.vm) (eT : T.heap = h) (F : Arv Z h a k .boolean n vs d) (hj : ¬ j < 0 ∧ j < n) (hv : vs.getD j.toNatClampNeg d = v) {g : JFrame} (hg : g.method = m) (hs : g.stack = .int j :: .ref a :: rest) (hd : decode c.code g.pc = .ok (.baload, 1)) :
    ∀ target, Steps p.tables e below (T.setTop { g with pc := g.pc + 1, stack := v :: rest }) target → Steps p.tables e below (T.setTop g) target := by
  obtain ⟨cl, A, -, S, -, H, -⟩ := F
  exact X.baloadBooleans hx (by rw [eT]; exact A.1) (State.isArrayOf_alike hZ.alike A.2.1) A.2.2 (inb_of S hj) (H.at (inb_of S hj) hv) hg hs hd
theorem own_alen (X : Stand p l e R s m args below meth c T locs cells slots) (hx : p.tables.exec = Jvm.exec) (hZ : Z.Warmed39 s.vm) (eT : T.heap = h) (F : Arv Z h a k ty n vs d) {g : JFrame} (hg : g.method = m) (hs : g.stack = .ref a :: rest) (hd : decode c.code g.pc = .ok (.arraylength, 1)) :
    ∀ target, Steps p.tables e below (T.setTop { g with pc := g.pc + 1, stack := .int n :: rest }) target → Steps p.tables e below (T.setTop g) target := by
  obtain ⟨cl, A, -, S, N, -, -⟩ := F
  have q := X.arraylength hx (by rw [eT]; exact A.1) (State.isArrayOf_alike hZ.alike A.2.1) hg hs hd
  rw [len_of S N] at q
  exact q
end OwnArrays
theorem own_psel {Z s : State} {a0 args : Array Value} {y : MethodName} {n : Nat} (hZ : Z.Warmed39 s.vm) (wi : (Jvm.Cond.instantiable y.cls n).before a0 Z = true) (wp : (Jvm.Cond.privateMethod y).before a0 Z = true) (wm : (Jvm.Cond.instanceMethod y).before a0 Z = true) (hy : y.cls ≠ "java/lang/invoke/MethodHandle" ∧ y.cls ≠ "java/lang/invoke/VarHandle") : (Jvm.Cond.selects y.cls y y).before args s = true := by
  have wi' : (Jvm.Cond.instantiable y.cls n).before args s = true := mvT hZ wi
  obtain ⟨c2, k2, i1, i2, -, i4, -⟩ := Cond.instantiable_spec wi'
  simp only [Bool.or_eq_false_iff] at i4
  exact selects_self_of_private i1 i2 i4.1 (Cond.privateMethod_at (mvP hZ wp (args := args))) (mvT hZ wm) hy
section OwnMore
variable {args : Array Value} {s : State} {t u : Jvm.Term} {x y : Addr} {cl : Cell} {ty : FieldType} {n j : Int32}
theorem own_len (h : (Jvm.Cond.eq (Jvm.Term.length t) (Jvm.Term.int n)).value args s none s [] = some true) (ht : t.eval args s none [] s = some (.ref x)) (A : Jvm.RoadKit.Arr s s.heap x cl ty) : cl.slots.size < 2 ^ 31 ∧ cl.slots.size.toInt32 = n := by
  have e := own_eqI h (Term.int_eval _)
  have ha : s.arrayAt? x = some cl := A.fin (Vm.Alike.refl _)
  by_cases hl : cl.slots.size < 2 ^ 31
  · refine ⟨hl, ?_⟩
    rw [len_f ht ha hl] at e
    exact Value.int.inj (Option.some.inj e)
  · simp [Term.eval, ht, ha, hl] at e
theorem own_elem (h : (Jvm.Cond.eq (Jvm.Term.elem t (Jvm.Term.int j)) u).value args s none s [] = some true) (hu : u.eval args s none [] s = some (.ref y)) (ht : t.eval args s none [] s = some (.ref x)) (A : Jvm.RoadKit.Arr s s.heap x cl ty) : cl.slots[j.toNatClampNeg]? = some (.ref y) :=
  (elem_in (own_eqR h hu) ht (Term.int_eval _) A.1).2
end OwnMore
theorem own_sto {Z : State} {h : Heap} {a y : Addr} {k : ClassId} {ty : FieldType} {n : Int32} {vs : List Value} {d : Value} {C : String} (F : Arv Z h a k ty n vs d) (O : Ovr Z k C) (I : Ins Z h y C true) : Sto Z h a (.ref y) := by
  obtain ⟨c, A, q, -⟩ := F
  exact Sto.ofV A q O I
theorem own_cp0 {p : Program} {l : Launch} {e : Env} {R : Room} {s : State} {m : MethodId} {args : Array Value} {below : List Frame} {meth : Method} {c : Code} {T : State} {locs : List Loc} {cells slots : Nat} {Z : State} {h : Heap} {a b : Addr} {k k' : ClassId} {ty ty' : FieldType} {z z' : Int32} {vs vd : List Value} {dv dd : Value}
    (X : Stand p l e R s m args below meth c T locs cells slots) (hx : p.tables.exec = Jvm.exec) (hZ : Z.Warmed39 s.vm) {a0 : Array Value} {own : String} {index : Nat} (hown : s.vm.findClass own = some m.cls)
    (w1 : (Jvm.Cond.methodLink own index Jvm.Stand.acN).before a0 Z = true) (w2 : (Jvm.Cond.native Jvm.Stand.acN).before a0 Z = true) (w3 : (Jvm.Cond.static Jvm.Stand.acN).before a0 Z = true) (w4 : (Jvm.Cond.initialized "java/lang/System").before a0 Z = true) (eT : T.heap = h)
    {sp dp nn : Int32} (A : Arv Z h a k ty z vs dv) (B : Arv Z h b k' ty' z' vd dd) (h0 : nn = 0) (hty : (ty = ty' ∧ refKind ty = false) ∨ (refKind ty = true ∧ refKind ty' = true))
    (h1 : ¬ sp < 0) (h2 : ¬ dp < 0) (h4 : sp.toNatClampNeg ≤ z.toNatClampNeg) (h5 : dp.toNatClampNeg ≤ z'.toNatClampNeg)
    {g : JFrame} (hg : g.method = m) (hsize : g.locals.size = c.maxLocals) {rest : List Value} (hs : g.stack = .int nn :: .int dp :: .ref b :: .int sp :: .ref a :: rest) (hd : decode c.code g.pc = .ok (.invokestatic index, 3))
    (hf : 1 ≤ R.frames) {W : Nat} (hW : 2 * g.monitorRoom + (rest.map fun v => v.category).sum ≤ W) (hlo : W + (nativeFrameWords "java/lang/System" "arraycopy" 5 + 11) ≤ R.locals) :
    ∃ T', Stand p l e R s m args below meth c T' locs cells slots ∧ T'.heap = h ∧ ∀ target, Steps p.tables e below (T'.setTop { g with pc := g.pc + 3, stack := rest }) target → Steps p.tables e below (T.setTop g) target := by
  subst h0
  obtain ⟨cs, As, -, Ss, -, Hs, Gs⟩ := A
  obtain ⟨cd, Ad, qd, Sd, Nd, Hd, Gd⟩ := B
  obtain ⟨os, ks, hks, sc, hsk⟩ := State.isArrayOf_alike hZ.alike As.2.1
  obtain ⟨od, kd, hkd, dc, hdk⟩ := State.isArrayOf_alike hZ.alike Ad.2.1
  have nat : ∀ {x : Int32}, ¬ x < 0 → x.toInt = x.toNatClampNeg := fun {x} q => by
    rw [Int32.lt_iff_toInt_lt] at q; have : (0 : Int32).toInt = 0 := rfl
    simp only [Int32.toNatClampNeg]; omega
  have z0 : (0 : Int32).toInt = 0 := rfl
  obtain ⟨vm₁, hW₁, X', st⟩ := X.arraycopyK (srcPos := sp) (destPos := dp) (n := 0) hx hown (mvT hZ w1) (mvT hZ w2) (mvT hZ w3) (mvT hZ w4) (by rw [eT]; exact As.1) (by rw [eT]; exact Ad.1) os od As.2.2 Ad.2.2 hks hkd hsk hdk
    (by rcases hty with ⟨rfl, r⟩ | ⟨r1, r2⟩; simp [r]; simp [r1, r2]) h1 h2 (by decide) (by rw [nat h1, z0, Ss]; omega) (by rw [nat h2, z0, Sd]; omega) (fun vm₁ hw i hi => absurd hi (Nat.not_lt_zero i)) hg hsize hs hd hf (by omega)
  have ec : copied cs cd sp dp 0 = cd := rfl
  have el : locs ++ copyLocs b dp.toNatClampNeg (0 : Int32).toNatClampNeg = locs := List.append_nil _
  rw [ec] at X' st
  rw [el] at X'
  refine ⟨_, X', ?_, st⟩
  show T.heap.setIfInBounds b cd = h
  rw [eT]
  have hb : b < h.size := Ad.lt
  have hg2 := Ad.1
  apply Array.ext_getElem?
  intro i
  by_cases hi : b = i
  · subst hi; rw [Array.getElem?_setIfInBounds_self_of_lt hb, hg2]
  · rw [Array.getElem?_setIfInBounds_ne hi]
theorem own_nb (x : Int32) : nar .byte (x.toInt8.toInt32) = x.toInt8.toInt32 := by simp [nar]
theorem own_clone {p : Program} {l : Launch} {e : Env} {R : Room} {s : State} {m : MethodId} {args : Array Value} {below : List Frame} {meth : Method} {c : Code} {T : State} {locs : List Loc} {cells slots : Nat} {Z : State} {h : Heap} {a : Addr} {ty : FieldType}
    (X : Stand p l e R s m args below meth c T locs cells slots) (hx : p.tables.exec = Jvm.exec) (hZ : Z.Warmed39 s.vm) {a0 : Array Value} {own ad : String} {index : Nat} (hown : s.vm.findClass own = some m.cls)
    (w1 : (Jvm.Cond.methodLink own index ⟨ad, "clone", "()Ljava/lang/Object;"⟩).before a0 Z = true) (w2 : (Jvm.Cond.sameMethod ad "java/lang/Object" "clone" "()Ljava/lang/Object;").before a0 Z = true) (w3 : (Jvm.Cond.native ⟨"java/lang/Object", "clone", "()Ljava/lang/Object;"⟩).before a0 Z = true)
    (w4 : (Jvm.Cond.instanceMethod ⟨"java/lang/Object", "clone", "()Ljava/lang/Object;"⟩).before a0 Z = true) (w5 : (Jvm.Cond.selects ad ⟨ad, "clone", "()Ljava/lang/Object;"⟩ ⟨"java/lang/Object", "clone", "()Ljava/lang/Object;"⟩).before a0 Z = true) (w6 : (Jvm.Cond.castable ad "java/lang/Cloneable").before a0 Z = true)
    (eT : T.heap = h) {k : ClassId} {z : Int32} {vs : List Value} {dv : Value} (F : Arv Z h a k ty z vs dv) (E : Exa Z h a ad) {g : JFrame} (hg : g.method = m) (hsize : g.locals.size = c.maxLocals) {rest : List Value} (hst : g.stack = .ref a :: rest) (hd : decode c.code g.pc = .ok (.invokevirtual index, 3))
    (hf : 1 ≤ R.frames) {W cap : Nat} (hW : 2 * g.monitorRoom + (rest.map fun v => v.category).sum ≤ W) (hl : W + 14 ≤ R.locals) (hcap : z.toNatClampNeg ≤ cap) (hc : cells + 1 ≤ R.cells) (hsl : slots + cap ≤ R.slots) :
    ∃ T' h', Stand p l e R s m args below meth c T' locs (cells + 1) (slots + cap) ∧ T'.heap = h' ∧ Ext h h' ∧ Arv Z h' h.size k ty z vs dv ∧ Exa Z h' h.size ad ∧
      ∀ target, Steps p.tables e below (T'.setTop { g with pc := g.pc + 3, stack := .ref h.size :: rest }) target → Steps p.tables e below (T.setTop g) target := by
  obtain ⟨cl, A, q1, S, q3, H, G⟩ := F
  have FC : FitC Z cl := fitC_of A fun i hi v hv => by rw [H i hi] at hv; cases hv; exact G i hi
  obtain ⟨T', h', X', e', ex, A', E', st⟩ := cloneA X hx hZ hown w1 w2 w3 w4 w5 w6 eT A E FC hg hsize hst hd hf hW hl (by rw [S]; exact hcap) hc hsl
  exact ⟨T', h', X', e', ex, ⟨cloneOf cl, A', q1, S, q3, H, G⟩, E', st⟩
section OwnCps
variable {p : Program} {l : Launch} {e : Env} {R : Room} {s : State} {m : MethodId} {args : Array Value} {below : List Frame} {meth : Method} {c : Code} {T : State} {locs : List Loc} {cells slots : Nat} {Z : State} {a0 : Array Value} {h : Heap} {A : State → Prop}
theorem own_gF (X : Stand p l e R s m args below meth c T locs cells slots) (hx : p.tables.exec = Jvm.exec) (hZ : Z.Warmed39 s.vm) {own R0 O n d : String} {index : Nat} (hown : s.vm.findClass own = some m.cls) (w : (Jvm.Cond.fieldLink own index R0 n d).before a0 Z = true) (via : Via Z R0 O n d) (eT : T.heap = h) {a : Addr} {v : Value} (F : Fld Z h a O n d v)
    {g : JFrame} {rest : List Value} (hd : decode c.code g.pc = .ok (.getfield index, 3)) (hg : g.method = m) (hs : g.stack = .ref a :: rest) (k : ∀ T', Stand p l e R s m args below meth c T' locs cells slots → T'.heap = h → own_Go p.tables e below A T' { g with pc := g.pc + 3, stack := v :: rest }) : own_Go p.tables e below A T g := by
  obtain ⟨T', X', e', st⟩ := getF (host := "") X hx hZ hown (Or.inl w) via eT F hg hs hd
  exact own_st st (k T' X' e')
theorem own_gS (X : Stand p l e R s m args below meth c T locs cells slots) (hx : p.tables.exec = Jvm.exec) (hZ : Z.Warmed39 s.vm) {own O n d : String} {index : Nat} (hown : s.vm.findClass own = some m.cls) (w : (Jvm.Cond.fieldLink own index O n d).before a0 Z = true) (eT : T.heap = h) {v : Value} (F : Sta Z h O n d v)
    {g : JFrame} (hd : decode c.code g.pc = .ok (.getstatic index, 3)) (hg : g.method = m) (k : ∀ T', Stand p l e R s m args below meth c T' locs cells slots → T'.heap = h → own_Go p.tables e below A T' { g with pc := g.pc + 3, stack := v :: g.stack }) : own_Go p.tables e below A T g := by
  obtain ⟨T', X', e', st⟩ := getS2 (host := "") X hx hZ hown (Or.inl w) Via.refl eT F hg hd
  exact own_st st (k T' X' e')
theorem own_pF (X : Stand p l e R s m args below meth c T locs cells slots) (hx : p.tables.exec = Jvm.exec) (hZ : Z.Warmed39 s.vm) {own R0 O n d C : String} {index kk : Nat} {ty : FieldType} (hown : s.vm.findClass own = some m.cls) (w : (Jvm.Cond.fieldLink own index R0 n d).before a0 Z = true) (via : Via Z R0 O n d)
    (eT : T.heap = h) {a : Addr} {v old : Value} (F : Fld Z h a O n d old) (E : Exa Z h a C) (L : (Jvm.Cond.lays C O n d).before a0 Z = true ∨ ((Jvm.Cond.laysFinal C O n d).before a0 Z = true ∧ own = O ∧ meth.name = "<init>")) (wi : (Jvm.Cond.instantiable C kk).before a0 Z = true)
    (hty : parseFieldDescriptor d = some ty) {g : JFrame} {rest : List Value} (hd : decode c.code g.pc = .ok (.putfield index, 3)) (hg : g.method = m) (hs : g.stack = v :: .ref a :: rest) (hn : narrow ty v = v) (hf : fits ty v = true)
    (k : ∀ T' h', Stand p l e R s m args below meth c T' (locs ++ [⟨a, Jvm.RoadKit.slotOf Z O n d⟩]) cells slots → T'.heap = h' → Wr h h' a (Jvm.RoadKit.slotOf Z O n d) v → own_Go p.tables e below A T' { g with pc := g.pc + 3, stack := rest }) : own_Go p.tables e below A T g := by
  obtain ⟨T', h', X', e', W, st⟩ := putF (host := "") X hx hZ hown (Or.inl w) via eT F E L wi hty hn hf hg hs hd
  exact own_st st (k T' h' X' e' W)
section Calls
variable {own C : String} {index maxL W : Nat} {y z : MethodName} {bytes : ByteArray} {ret : Option FieldType} {rm : Room} {Q : Option Value → Heap → List Loc → Prop} {g : JFrame} {argsL rest : List Value} {a : Addr}
theorem own_cS (X : Stand p l e R s m args below meth c T locs cells slots) (hx : p.tables.exec = Jvm.exec) (hZ : Z.Warmed39 s.vm) (hown : s.vm.findClass own = some m.cls) (w1 : (Jvm.Cond.methodLink own index y).before a0 Z = true) (w2 : (Jvm.Cond.static y).before a0 Z = true) (w3 : (Jvm.Cond.initialized y.cls).before a0 Z = true) (w4 : (Jvm.Cond.code y bytes maxL ret).before a0 Z = true)
    (argsL rest : List Value) (hM : MetFree l y (head1 [Jvm.Cond.code y bytes maxL ret] rm) (fun a U => a = argsL.toArray ∧ Z.Warmed39 U.vm ∧ U.heap = h) (fun _ _ _ _ _ => True) (fun _ U o U' => ∃ v L, o = .returned v ∧ Q v U'.heap L ∧ FrameEnd U o U' L rm.cells rm.slots)) (W : Nat) (hd : decode c.code g.pc = .ok (.invokestatic index, 3)) (hsize : g.locals.size = c.maxLocals)
    (hlen : ∀ sig, parseMethodDescriptor y.desc = some sig → argsL.length = sig.parameters.length) (eT : T.heap = h) (hg : g.method = m) (hst : g.stack = argsL.reverse ++ rest) (hW : 2 * g.monitorRoom + (rest.map fun v => v.category).sum ≤ W) (hf : rm.frames + 1 ≤ R.frames) (hl : W + (maxL + 11) + rm.locals ≤ R.locals) (hy : y.cls ≠ "java/lang/invoke/MethodHandle" ∧ y.cls ≠ "java/lang/invoke/VarHandle")
    (hc : cells + rm.cells ≤ R.cells) (hs : slots + rm.slots ≤ R.slots) (k : ∀ v T' L, Stand p l e R s m args below meth c T' (locs ++ L) (cells + rm.cells) (slots + rm.slots) → Q v T'.heap L → own_Go p.tables e below A T' { g with pc := g.pc + 3, stack := v.toList ++ rest }) : own_Go p.tables e below A T g := by
  obtain ⟨v, _, ⟨T', L', k', n'⟩, -, X', ⟨Lc, hQ, l', y', z'⟩, st⟩ := Jvm.LawKit.callS X hx hown (mvT hZ w1) (mvT hZ w2) (mvT hZ w3) (mvT hZ w4) hy (backOf (W := W) hM hZ w4 w3 hf hl) hg hsize (argsL := argsL) (rest := rest) hlen hst hW hd (fun _ _ => ⟨rfl, eT, hc, hs⟩)
  dsimp only [Pt.U, Pt.locs, Pt.cells, Pt.slots] at X' l' y' z' st hQ
  subst l' y' z'
  exact own_st st (k v T' Lc X' hQ)
theorem own_cV (X : Stand p l e R s m args below meth c T locs cells slots) (hx : p.tables.exec = Jvm.exec) (hZ : Z.Warmed39 s.vm) (hown : s.vm.findClass own = some m.cls) (w1 : (Jvm.Cond.methodLink own index y).before a0 Z = true) (w2 : (Jvm.Cond.declares y).before a0 Z = true) (w5 : (Jvm.Cond.selects C y y).before a0 Z = true) (w6 : (Jvm.Cond.instanceMethod y).before a0 Z = true) (w3 : (Jvm.Cond.initialized y.cls).before a0 Z = true) (w4 : (Jvm.Cond.code y bytes maxL ret).before a0 Z = true)
    (argsL rest : List Value) (E : Exa Z h a C) (hM : MetFree l y (head1 [Jvm.Cond.code y bytes maxL ret] rm) (fun b U => b = (.ref a :: argsL).toArray ∧ Z.Warmed39 U.vm ∧ U.heap = h) (fun _ _ _ _ _ => True) (fun _ U o U' => ∃ v L, o = .returned v ∧ Q v U'.heap L ∧ FrameEnd U o U' L rm.cells rm.slots)) (W : Nat) (hd : decode c.code g.pc = .ok (.invokevirtual index, 3)) (hsize : g.locals.size = c.maxLocals)
    (hlen : ∀ sig, parseMethodDescriptor y.desc = some sig → argsL.length = sig.parameters.length) (eT : T.heap = h) (hg : g.method = m) (hst : g.stack = argsL.reverse ++ .ref a :: rest) (hW : 2 * g.monitorRoom + (rest.map fun v => v.category).sum ≤ W) (hf : rm.frames + 1 ≤ R.frames) (hl : W + (maxL + 11) + rm.locals ≤ R.locals) (hy : y.cls ≠ "java/lang/invoke/MethodHandle" ∧ y.cls ≠ "java/lang/invoke/VarHandle")
    (hc : cells + rm.cells ≤ R.cells) (hs : slots + rm.slots ≤ R.slots) (k : ∀ v T' L, Stand p l e R s m args below meth c T' (locs ++ L) (cells + rm.cells) (slots + rm.slots) → Q v T'.heap L → own_Go p.tables e below A T' { g with pc := g.pc + 3, stack := v.toList ++ rest }) : own_Go p.tables e below A T g := by
  obtain ⟨cq, kq, qa, qb, qc⟩ := isOf hZ eT E
  obtain ⟨v, _, ⟨T', L', k', n'⟩, -, X', ⟨Lc, hQ, l', y', z'⟩, st⟩ := X.virtualBack hx (y := y) (z := y) hown (mvT hZ w1) (mvT hZ w2) (notFace_of_selects (args := #[]) (mvT hZ w5)) (mvT hZ w5) (mvT hZ w6) hy (backOf (W := W) hM hZ w4 w3 hf hl) qa qc hg hsize (Steps.refl _) (argsL := argsL) (rest := rest) hlen hst hW hd (fun _ _ => ⟨rfl, eT, hc, hs⟩)
  dsimp only [Pt.U, Pt.locs, Pt.cells, Pt.slots] at X' l' y' z' st hQ
  subst l' y' z'
  exact own_st (fun t q => st.trans q) (k v T' Lc X' hQ)
theorem own_cP (X : Stand p l e R s m args below meth c T locs cells slots) (hx : p.tables.exec = Jvm.exec) (hZ : Z.Warmed39 s.vm) (hown : s.vm.findClass own = some m.cls) {ni : Nat} (w1 : (Jvm.Cond.methodLink own index y).before a0 Z = true) (w2 : (Jvm.Cond.privateMethod y).before a0 Z = true) (w5 : (Jvm.Cond.instantiable y.cls ni).before a0 Z = true) (w6 : (Jvm.Cond.instanceMethod y).before a0 Z = true) (w3 : (Jvm.Cond.initialized y.cls).before a0 Z = true) (w4 : (Jvm.Cond.code y bytes maxL ret).before a0 Z = true)
    (argsL rest : List Value) (E : Exa Z h a C) (hM : MetFree l y (head1 [Jvm.Cond.code y bytes maxL ret] rm) (fun b U => b = (.ref a :: argsL).toArray ∧ Z.Warmed39 U.vm ∧ U.heap = h) (fun _ _ _ _ _ => True) (fun _ U o U' => ∃ v L, o = .returned v ∧ Q v U'.heap L ∧ FrameEnd U o U' L rm.cells rm.slots)) (W : Nat) (hd : decode c.code g.pc = .ok (.invokevirtual index, 3)) (hsize : g.locals.size = c.maxLocals)
    (hlen : ∀ sig, parseMethodDescriptor y.desc = some sig → argsL.length = sig.parameters.length) (eT : T.heap = h) (hg : g.method = m) (hst : g.stack = argsL.reverse ++ .ref a :: rest) (hW : 2 * g.monitorRoom + (rest.map fun v => v.category).sum ≤ W) (hf : rm.frames + 1 ≤ R.frames) (hl : W + (maxL + 11) + rm.locals ≤ R.locals) (hy : y.cls ≠ "java/lang/invoke/MethodHandle" ∧ y.cls ≠ "java/lang/invoke/VarHandle")
    (hc : cells + rm.cells ≤ R.cells) (hs : slots + rm.slots ≤ R.slots) (k : ∀ v T' L, Stand p l e R s m args below meth c T' (locs ++ L) (cells + rm.cells) (slots + rm.slots) → Q v T'.heap L → own_Go p.tables e below A T' { g with pc := g.pc + 3, stack := v.toList ++ rest }) : own_Go p.tables e below A T g := by
  obtain ⟨cq, q1, q2⟩ := E.cell
  obtain ⟨v, _, ⟨T', L', k', n'⟩, -, X', ⟨Lc, hQ, l', y', z'⟩, st⟩ := X.privateBack hx (y := y) hown (mvT hZ w1) (mvT hZ w6) (own_psel hZ w5 w2 w6 hy) (Cond.privateMethod_at (mvP hZ w2 (args := #[]))) (mvT hZ w4) hy (backOf (W := W) hM hZ w4 w3 hf hl) hg hsize (Steps.refl _) (a := a) (by rw [eT]; exact q1) q2 (argsL := argsL) (rest := rest) hlen hst hW hd (fun _ _ => ⟨rfl, eT, hc, hs⟩)
  dsimp only [Pt.U, Pt.locs, Pt.cells, Pt.slots] at X' l' y' z' st hQ
  subst l' y' z'
  exact own_st (fun t q => st.trans q) (k v T' Lc X' hQ)
theorem own_cI (X : Stand p l e R s m args below meth c T locs cells slots) (hx : p.tables.exec = Jvm.exec) (hZ : Z.Warmed39 s.vm) (hown : s.vm.findClass own = some m.cls) (w1 : (Jvm.Cond.methodLink own index y).before a0 Z = true) (w6 : (Jvm.Cond.instanceMethod y).before a0 Z = true) (w3 : (Jvm.Cond.initialized y.cls).before a0 Z = true) (w4 : (Jvm.Cond.code y bytes maxL none).before a0 Z = true)
    (argsL rest : List Value) (hM : MetFree l y (head1 [Jvm.Cond.code y bytes maxL none] rm) (fun b U => b = (.ref a :: argsL).toArray ∧ Z.Warmed39 U.vm ∧ U.heap = h) (fun _ _ _ _ _ => True) (fun _ U o U' => ∃ v L, o = .returned v ∧ Q v U'.heap L ∧ FrameEnd U o U' L rm.cells rm.slots)) (W : Nat) (hd : decode c.code g.pc = .ok (.invokespecial index, 3)) (hsize : g.locals.size = c.maxLocals)
    (hlen : ∀ sig, parseMethodDescriptor y.desc = some sig → argsL.length = sig.parameters.length) (eT : T.heap = h) (hg : g.method = m) (hst : g.stack = argsL.reverse ++ .ref a :: rest) (hW : 2 * g.monitorRoom + (rest.map fun v => v.category).sum ≤ W) (hf : rm.frames + 1 ≤ R.frames) (hl : W + (maxL + 11) + rm.locals ≤ R.locals) (hy : y.cls ≠ "java/lang/invoke/MethodHandle" ∧ y.cls ≠ "java/lang/invoke/VarHandle") (hn : y.name = "<init>")
    (hc : cells + rm.cells ≤ R.cells) (hs : slots + rm.slots ≤ R.slots) (k : ∀ v T' L, Stand p l e R s m args below meth c T' (locs ++ L) (cells + rm.cells) (slots + rm.slots) → Q v T'.heap L → own_Go p.tables e below A T' { g with pc := g.pc + 3, stack := v.toList ++ rest }) : own_Go p.tables e below A T g := by
  obtain ⟨v, _, ⟨T', L', k', n'⟩, -, X', ⟨Lc, hQ, l', y', z'⟩, st⟩ := X.specialBack hx (y := y) hn hown (mvT hZ w1) (mvT hZ w6) (mvT hZ w4) hy (backOf (W := W) hM hZ w4 w3 hf hl) hg hsize (Steps.refl _) (a := a) (argsL := argsL) (rest := rest) hlen hst hW hd (fun _ _ => ⟨rfl, eT, hc, hs⟩)
  dsimp only [Pt.U, Pt.locs, Pt.cells, Pt.slots] at X' l' y' z' st hQ
  subst l' y' z'
  exact own_st (fun t q => st.trans q) (k v T' Lc X' hQ)
end Calls
end OwnCps
def own_lt (pa ia pb ib : Int64) : Prop := pa.toInt < pb.toInt ∨ (pa.toInt = pb.toInt ∧ ia.toInt < ib.toInt)
theorem own_and3 (x : Int32) : x &&& (3 : Int32) = (0 : Int32) ∨ x &&& (3 : Int32) = (1 : Int32) ∨ x &&& (3 : Int32) = (2 : Int32) ∨ x &&& (3 : Int32) = (3 : Int32) := by
  have e1 : (x &&& (3 : Int32)).toInt = x.toInt % 2 ^ 2 := Jvm.Kit.i32_mask x 3 (k := 2) (by decide) (by decide)
  have z0 : (0 : Int32).toInt = 0 := rfl
  have z1 : (1 : Int32).toInt = 1 := rfl
  have z2 : (2 : Int32).toInt = 2 := rfl
  have z3 : (3 : Int32).toInt = 3 := rfl
  simp only [← Int32.toInt_inj]
  omega
theorem own_mvLN {Z s : State} {a0 args : Array Value} {own host : String} {index : Nat} {y : MethodName} (hZ : Z.Warmed39 s.vm) (w : (Jvm.Cond.methodLinkNest own index y host).before a0 Z = true) : (Jvm.Cond.methodLinkNest own index y host).before args s = true := (Cond.methodLinkNest_wide hZ w :)
theorem own_nf {args : Array Value} {s : State} {C : String} {x y z : MethodName} (hsel : (Jvm.Cond.selects C x z).before args s = true) (hc : z.cls = y.cls) : NotFace s y := fun r0 h0 => by
  obtain ⟨c2, r2, m2, q1, q2, q3, q4, kP, hkP, hkPi⟩ := Cond.selects_spec hsel
  have e1 := findClass_of_methodNamed h0
  have e2 := findClass_of_methodNamed q3
  rw [hc, e1] at e2
  have e3 := Option.some.inj e2
  exact ⟨kP, by rw [e3]; exact hkP, hkPi⟩
section OwnCalls
variable {p : Program} {l : Launch} {e : Env} {R : Room} {s : State} {m : MethodId} {args : Array Value} {below : List Frame} {meth : Method} {c : Code} {T : State} {locs : List Loc} {cells slots : Nat}
theorem own_callSN (X : Stand p l e R s m args below meth c T locs cells slots) (hexec : p.tables.exec = Jvm.exec) {own host : String} {index : Nat} {y : MethodName} {bytes : ByteArray} {maxL : Nat} {ret : Option FieldType}
    (hown : s.vm.findClass own = some m.cls) (hlink : (Jvm.Cond.methodLinkNest own index y host).before args s = true) (hstat : (Jvm.Cond.static y).before args s = true) (hinit : (Jvm.Cond.initialized y.cls).before args s = true)
    (hcode : (Jvm.Cond.code y bytes maxL ret).before args s = true) (hy : y.cls ≠ "java/lang/invoke/MethodHandle" ∧ y.cls ≠ "java/lang/invoke/VarHandle")
    {W : Nat} {Pre : Pt → Array Value → Prop} {Post : Pt → Array Value → Option Value → Pt → Prop} (hK : Back l R p e below s args y 3 W Pre Post)
    {g : JFrame} (hg : g.method = m) (hsize : g.locals.size = c.maxLocals) {argsL rest : List Value} (hlen : ∀ sig, parseMethodDescriptor y.desc = some sig → argsL.length = sig.parameters.length)
    (hstack : g.stack = argsL.reverse ++ rest) (hW : 2 * g.monitorRoom + (rest.map fun v => v.category).sum ≤ W) (hdg : decode c.code g.pc = .ok (.invokestatic index, 3))
    (hpre : ∀ vm₁, s.WarmedH vm₁ → Pre ⟨T.setVm vm₁, locs, cells, slots⟩ argsL.toArray) :
    ∃ (v : Option Value) (vm₁ : Vm) (B : Pt), s.WarmedH vm₁ ∧ Stand p l e R s m args below meth c B.U B.locs B.cells B.slots ∧ Post ⟨T.setVm vm₁, locs, cells, slots⟩ argsL.toArray v B ∧
      ∀ target, Steps p.tables e below (B.U.setTop { g with pc := g.pc + 3, stack := v.toList ++ rest }) target → Steps p.tables e below (T.setTop g) target := by
  obtain ⟨mk, hnamed⟩ := Cond.code_named hcode
  obtain ⟨methM, cM, hmethM, -, -, -, -, -, -, hsigM⟩ := Cond.code_spec hnamed hcode
  have hstatic : methM.isStatic = true := Cond.static_spec hnamed hmethM hstat
  obtain ⟨kP, hkP, -⟩ := className_of_methodNamed hnamed
  have hinitP : kP.init = .initialized := Cond.initialized_spec (findClass_of_methodNamed hnamed) hkP hinit
  obtain ⟨vm₁, X₁, hstep₁⟩ := X.invokestaticNest hexec hown hlink hnamed hmethM hstatic hkP hinitP hy (g := g) hg (argsL := argsL) (rest := rest) (hlen _ hsigM) hstack hdg
  obtain ⟨v, B, X', hpost, hsteps⟩ := hK m meth c ⟨T.setVm vm₁, locs, cells, slots⟩ { g with stack := rest } (.invokestatic index) mk argsL.toArray X₁ hg hsize hdg hW (X₁.named hnamed) (hpre vm₁ X₁.warmed)
  exact ⟨v, vm₁, B, X₁.warmed, X', hpost, fun target h => hstep₁ _ fun acts => by rw [doInvoke_state]; exact hsteps.trans h⟩
theorem own_specialRef {Z : State} {a0 : Array Value} (X : Stand p l e R s m args below meth c T locs cells slots) (hexec : p.tables.exec = Jvm.exec) (hZ : Z.Warmed39 s.vm) {own : String} {index : Nat} {y : MethodName} (hy1 : y.name = "<init>")
    (hown : s.vm.findClass own = some m.cls) (hlink : (Jvm.Cond.methodRef own index y).before a0 Z = true) (hinst : (Jvm.Cond.instanceMethod y).before a0 Z = true)
    {bytes : ByteArray} {maxL : Nat} (hcode : (Jvm.Cond.code y bytes maxL none).before a0 Z = true)
    (hy : y.cls ≠ "java/lang/invoke/MethodHandle" ∧ y.cls ≠ "java/lang/invoke/VarHandle")
    {W : Nat} {Pre : Pt → Array Value → Prop} {Post : Pt → Array Value → Option Value → Pt → Prop} (hK : Back l R p e below s args y 3 W Pre Post)
    {g : JFrame} (hg : g.method = m) (hsize : g.locals.size = c.maxLocals) {s₀ : State} (hcome : Steps p.tables e below s₀ (T.setTop g)) {a : Addr} {argsL rest : List Value}
    (hlen : ∀ sig, parseMethodDescriptor y.desc = some sig → argsL.length = sig.parameters.length) (hstack : g.stack = argsL.reverse ++ .ref a :: rest) (hW : 2 * g.monitorRoom + (rest.map fun v => v.category).sum ≤ W)
    (hdg : decode c.code g.pc = .ok (.invokespecial index, 3)) (hpre : ∀ vm₁, s.WarmedH vm₁ → Pre ⟨T.setVm vm₁, locs, cells, slots⟩ (.ref a :: argsL).toArray) :
    ∃ (v : Option Value) (vm₁ : Vm) (B : Pt), s.WarmedH vm₁ ∧ Stand p l e R s m args below meth c B.U B.locs B.cells B.slots ∧ Post ⟨T.setVm vm₁, locs, cells, slots⟩ (.ref a :: argsL).toArray v B ∧
      Steps p.tables e below s₀ (B.U.setTop { g with pc := g.pc + 3, stack := v.toList ++ rest }) := by
  have hinstS : (Jvm.Cond.instanceMethod y).before args s = true := mvT hZ hinst
  have hcodeS : (Jvm.Cond.code y bytes maxL none).before args s = true := mvT hZ hcode
  obtain ⟨objZ, methZ, hnZ, -⟩ := Cond.instanceMethod_spec hinst
  obtain ⟨obj, methO, hnO, hmO, hstO, habO⟩ := Cond.instanceMethod_spec hinstS
  obtain ⟨methO', cO, hmO', hcO, hbO, hlO, -, hlockO, -, hsigO⟩ := Cond.code_spec hnO hcodeS
  cases hmO.symm.trans hmO'
  obtain ⟨kO, hkO, hnameO⟩ := className_of_methodNamed hnO
  obtain ⟨hnameMO, hdescO⟩ := name_of_methodNamed hnO hmO
  have hS : (Jvm.Cond.methodRef own index y).before a0 (Z.setVm s.vm) = true := Cond.methodRef_warmed39 hZ hnZ hy hlink
  have hnS : (Z.setVm s.vm).methodNamed? y = some obj := hnO
  have hT : (Jvm.Cond.methodRef own index y).before a0 ((Z.setVm s.vm).setVm T.vm) = true := Cond.methodRef_warmed (s := Z.setVm s.vm) X.warmed hnS hy hS
  have hal := X.warmed.alike
  have hownT : ((Z.setVm s.vm).setVm T.vm).vm.findClass own = some m.cls := by show T.vm.findClass own = _; rw [hal.findClass]; exact hown
  obtain ⟨mm, c', q1, q2, q3, q4⟩ := Cond.methodRef_named e hownT hT
  have hfO : s.methodFound? y.cls y.name y.desc = some obj := State.methodFound?_of_named hnO hy
  have q1' : T.methodFound? y.cls y.name y.desc = some mm := q1
  have hnT : T.methodNamed? y = some obj := X.named hnO
  cases (State.methodFound?_of_named hnT hy).symm.trans q1'
  have hc' : c' = obj.cls := by
    have e1 := findClass_of_methodNamed hnT
    exact Option.some.inj (q3.symm.trans e1)
  subst hc'
  obtain ⟨kT, hkT, -⟩ := hal.2.2 _ _ hkO
  have hmT : T.vm.method? obj = some methO := by rw [hal.method?]; exact hmO
  have hfound : lookupSpecial T.vm obj.cls "<init>" methO.desc = .method obj := by
    rw [hal.lookupSpecial, hdescO, ← hy1]; exact lookupSpecial_of_named hnO hmO hstO
  have X₁ : Stand p l e R s m args below meth c (T.setVm T.vm) locs cells slots := X.noted X.warmed
  obtain ⟨v, B, X', hpost, hsteps⟩ := hK m meth c ⟨T.setVm T.vm, locs, cells, slots⟩ { g with stack := rest } (.invokespecial index) obj (.ref a :: argsL).toArray X₁ hg hsize hdg hW (X₁.named hnO) (hpre T.vm X.warmed)
  refine ⟨v, T.vm, B, X.warmed, X', hpost, (hcome.trans ?_).trans hsteps⟩
  subst hg
  jvm_step X.here [hexec, hdg, invokespecial.wp_init (e := e) (s := T) (k := kT) (meth := methO) (m := obj) (a := a) (args := argsL) (rest := rest) (f := g)
      X.here.top q4 q2 hkT hmT (by rw [hnameMO]; exact hy1) hstO habO hfound (hlen _ hsigO) hstack]
  intro acts
  rw [doInvoke_state]
  exact Steps.refl _
end OwnCalls
theorem own_addne {x a b : Int64} (h : a ≠ b) : (x + a).toInt ≠ (x + b).toInt := fun q => h (by
  have e := Int64.toInt_inj.mp q
  have e2 := congrArg (fun t => t - x) e
  simpa [Int64.add_comm x, Int64.add_sub_cancel] using e2)
theorem own_o0 {a0 a1 a2 a3 a4 : Int64} (h0 : own_lt a0 a1 a2 a3) (h1 : a1.toInt ≠ a3.toInt) (h2 : a1.toInt ≠ a4.toInt) (h3 : a3.toInt ≠ a4.toInt) : ¬ own_lt a2 a3 a0 a1 := by
  simp only [own_lt] at *; omega
theorem own_o1 {a0 a1 a2 a3 a4 : Int64} (h0 : ¬ own_lt a0 a1 a2 a3) (h1 : a1.toInt ≠ a3.toInt) (h2 : a1.toInt ≠ a4.toInt) (h3 : a3.toInt ≠ a4.toInt) : own_lt a2 a3 a0 a1 := by
  simp only [own_lt] at *; omega
theorem own_o2 {a0 a1 a2 a3 a4 a5 : Int64} (h0 : own_lt a0 a1 a2 a3) (h1 : own_lt a2 a3 a4 a5) (h2 : a1.toInt ≠ a3.toInt) (h3 : a1.toInt ≠ a5.toInt) (h4 : a3.toInt ≠ a5.toInt) : ¬ own_lt a2 a3 a0 a1 := by
  simp only [own_lt] at *; omega
theorem own_o3 {a0 a1 a2 a3 a4 a5 : Int64} (h0 : own_lt a0 a1 a2 a3) (h1 : own_lt a2 a3 a4 a5) (h2 : ¬ own_lt a2 a3 a0 a1) (h3 : a1.toInt ≠ a3.toInt) (h4 : a1.toInt ≠ a5.toInt) (h5 : a3.toInt ≠ a5.toInt) : ¬ own_lt a4 a5 a0 a1 := by
  simp only [own_lt] at *; omega
theorem own_o4 {a0 a1 a2 a3 a4 a5 : Int64} (h0 : own_lt a0 a1 a2 a3) (h1 : ¬ own_lt a2 a3 a4 a5) (h2 : own_lt a0 a1 a4 a5) (h3 : a1.toInt ≠ a3.toInt) (h4 : a1.toInt ≠ a5.toInt) (h5 : a3.toInt ≠ a5.toInt) : ¬ own_lt a2 a3 a0 a1 := by
  simp only [own_lt] at *; omega
theorem own_o5 {a0 a1 a2 a3 a4 a5 : Int64} (h0 : own_lt a0 a1 a2 a3) (h1 : ¬ own_lt a2 a3 a4 a5) (h2 : own_lt a0 a1 a4 a5) (h3 : ¬ own_lt a2 a3 a0 a1) (h4 : a1.toInt ≠ a3.toInt) (h5 : a1.toInt ≠ a5.toInt) (h6 : a3.toInt ≠ a5.toInt) : ¬ own_lt a4 a5 a0 a1 := by
  simp only [own_lt] at *; omega
theorem own_o6 {a0 a1 a2 a3 a4 a5 : Int64} (h0 : own_lt a0 a1 a2 a3) (h1 : ¬ own_lt a2 a3 a4 a5) (h2 : ¬ own_lt a0 a1 a4 a5) (h3 : a1.toInt ≠ a3.toInt) (h4 : a1.toInt ≠ a5.toInt) (h5 : a3.toInt ≠ a5.toInt) : ¬ own_lt a2 a3 a0 a1 := by
  simp only [own_lt] at *; omega
theorem own_o7 {a0 a1 a2 a3 a4 a5 : Int64} (h0 : own_lt a0 a1 a2 a3) (h1 : ¬ own_lt a2 a3 a4 a5) (h2 : ¬ own_lt a0 a1 a4 a5) (h3 : ¬ own_lt a2 a3 a0 a1) (h4 : a1.toInt ≠ a3.toInt) (h5 : a1.toInt ≠ a5.toInt) (h6 : a3.toInt ≠ a5.toInt) : own_lt a4 a5 a0 a1 := by
  simp only [own_lt] at *; omega
theorem own_o8 {a0 a1 a2 a3 a4 a5 : Int64} (h0 : ¬ own_lt a0 a1 a2 a3) (h1 : own_lt a0 a1 a4 a5) (h2 : a1.toInt ≠ a3.toInt) (h3 : a1.toInt ≠ a5.toInt) (h4 : a3.toInt ≠ a5.toInt) : own_lt a2 a3 a0 a1 := by
  simp only [own_lt] at *; omega
theorem own_o9 {a0 a1 a2 a3 a4 a5 : Int64} (h0 : ¬ own_lt a0 a1 a2 a3) (h1 : own_lt a0 a1 a4 a5) (h2 : own_lt a2 a3 a0 a1) (h3 : a1.toInt ≠ a3.toInt) (h4 : a1.toInt ≠ a5.toInt) (h5 : a3.toInt ≠ a5.toInt) : ¬ own_lt a4 a5 a2 a3 := by
  simp only [own_lt] at *; omega
theorem own_o10 {a0 a1 a2 a3 a4 a5 : Int64} (h0 : ¬ own_lt a0 a1 a2 a3) (h1 : ¬ own_lt a0 a1 a4 a5) (h2 : own_lt a2 a3 a4 a5) (h3 : a1.toInt ≠ a3.toInt) (h4 : a1.toInt ≠ a5.toInt) (h5 : a3.toInt ≠ a5.toInt) : own_lt a2 a3 a0 a1 := by
  simp only [own_lt] at *; omega
theorem own_o11 {a0 a1 a2 a3 a4 a5 : Int64} (h0 : ¬ own_lt a0 a1 a2 a3) (h1 : ¬ own_lt a0 a1 a4 a5) (h2 : own_lt a2 a3 a4 a5) (h3 : own_lt a2 a3 a0 a1) (h4 : a1.toInt ≠ a3.toInt) (h5 : a1.toInt ≠ a5.toInt) (h6 : a3.toInt ≠ a5.toInt) : ¬ own_lt a4 a5 a2 a3 := by
  simp only [own_lt] at *; omega
theorem own_o12 {a0 a1 a2 a3 a4 a5 : Int64} (h0 : ¬ own_lt a0 a1 a2 a3) (h1 : ¬ own_lt a0 a1 a4 a5) (h2 : ¬ own_lt a2 a3 a4 a5) (h3 : a1.toInt ≠ a3.toInt) (h4 : a1.toInt ≠ a5.toInt) (h5 : a3.toInt ≠ a5.toInt) : own_lt a2 a3 a0 a1 := by
  simp only [own_lt] at *; omega
theorem own_o13 {a0 a1 a2 a3 a4 a5 : Int64} (h0 : ¬ own_lt a0 a1 a2 a3) (h1 : ¬ own_lt a0 a1 a4 a5) (h2 : ¬ own_lt a2 a3 a4 a5) (h3 : own_lt a2 a3 a0 a1) (h4 : a1.toInt ≠ a3.toInt) (h5 : a1.toInt ≠ a5.toInt) (h6 : a3.toInt ≠ a5.toInt) : own_lt a4 a5 a2 a3 := by
  simp only [own_lt] at *; omega
abbrev own_s0 : String := "com/example/lonborg/lonborg/ItemTree$Node"
abbrev own_s1 : String := "com/example/lonborg/lonborg/Item"
abbrev own_s2 : String := "com/example/lonborg/lonborg/LeastNeeds"
abbrev own_s3 : String := "com/example/lonborg/lonborg/Resources"
abbrev own_s4 : String := "com/example/lonborg/lonborg/ItemTree$Leaf"
abbrev own_s5 : String := "com/example/lonborg/lonborg/ItemTree"
abbrev own_s6 : String := "Lcom/example/lonborg/lonborg/LeastNeeds;"
abbrev own_s7 : String := "[Lcom/example/lonborg/lonborg/Item;"
abbrev own_s8 : String := "[Lcom/example/lonborg/lonborg/Resources;"
abbrev own_s9 : String := "(Lcom/example/lonborg/lonborg/Item;)Lcom/example/lonborg/lonborg/ItemTree$Node;"
abbrev own_s10 : String := "(Lcom/example/lonborg/lonborg/Resources;)V"
abbrev own_s11 : String := "()Lcom/example/lonborg/lonborg/Item;"
abbrev own_y0 : MethodName := ⟨own_s0, "widen", own_s10⟩
abbrev own_y1 : MethodName := ⟨own_s2, "with", "(Lcom/example/lonborg/lonborg/Resources;)Lcom/example/lonborg/lonborg/LeastNeeds;"⟩
abbrev own_y2 : MethodName := ⟨own_s4, "placeOf", "(Lcom/example/lonborg/lonborg/Item;)I"⟩
abbrev own_y3 : MethodName := ⟨own_s5, "add", "(Lcom/example/lonborg/lonborg/Item;)V"⟩
abbrev own_y4 : MethodName := ⟨own_s5, "before", "(Lcom/example/lonborg/lonborg/Item;JJ)Z"⟩
abbrev own_y5 : MethodName := ⟨own_s4, "first", own_s11⟩
abbrev own_y6 : MethodName := ⟨own_s4, "add", own_s9⟩
abbrev own_y7 : MethodName := ⟨own_s5, "first", own_s11⟩
abbrev own_y8 : MethodName := ⟨own_s4, "widen", own_s10⟩
theorem own_rem0 (x : Int32) : (x &&& (2147483647 : Int32)) % (6 : Int32) = (0 : Int32) ∨ (x &&& (2147483647 : Int32)) % (6 : Int32) = (1 : Int32) ∨ (x &&& (2147483647 : Int32)) % (6 : Int32) = (2 : Int32) ∨ (x &&& (2147483647 : Int32)) % (6 : Int32) = (3 : Int32) ∨ (x &&& (2147483647 : Int32)) % (6 : Int32) = (4 : Int32) ∨ (x &&& (2147483647 : Int32)) % (6 : Int32) = (5 : Int32) := by
  have e1 : (x &&& (2147483647 : Int32)).toInt = x.toInt % 2 ^ 31 := Jvm.Kit.i32_mask x 2147483647 (k := 31) (by decide) (by decide)
  have e2 : ((x &&& (2147483647 : Int32)) % (6 : Int32)).toInt = (x &&& (2147483647 : Int32)).toInt % (6 : Int32).toInt := Jvm.Kit.i32_rem_nonneg (by omega)
  have e3 : (6 : Int32).toInt = 6 := rfl
  rw [e3] at e2
  have z0 : (0 : Int32).toInt = 0 := rfl
  have z1 : (1 : Int32).toInt = 1 := rfl
  have z2 : (2 : Int32).toInt = 2 := rfl
  have z3 : (3 : Int32).toInt = 3 := rfl
  have z4 : (4 : Int32).toInt = 4 := rfl
  have z5 : (5 : Int32).toInt = 5 := rfl
  simp only [← Int32.toInt_inj]
  omega
theorem own_rem1 (x : Int32) : (x &&& (2147483647 : Int32)) % (4 : Int32) = (0 : Int32) ∨ (x &&& (2147483647 : Int32)) % (4 : Int32) = (1 : Int32) ∨ (x &&& (2147483647 : Int32)) % (4 : Int32) = (2 : Int32) ∨ (x &&& (2147483647 : Int32)) % (4 : Int32) = (3 : Int32) := by
  have e1 : (x &&& (2147483647 : Int32)).toInt = x.toInt % 2 ^ 31 := Jvm.Kit.i32_mask x 2147483647 (k := 31) (by decide) (by decide)
  have e2 : ((x &&& (2147483647 : Int32)) % (4 : Int32)).toInt = (x &&& (2147483647 : Int32)).toInt % (4 : Int32).toInt := Jvm.Kit.i32_rem_nonneg (by omega)
  have e3 : (4 : Int32).toInt = 4 := rfl
  rw [e3] at e2
  have z0 : (0 : Int32).toInt = 0 := rfl
  have z1 : (1 : Int32).toInt = 1 := rfl
  have z2 : (2 : Int32).toInt = 2 := rfl
  have z3 : (3 : Int32).toInt = 3 := rfl
  simp only [← Int32.toInt_inj]
  omega
theorem own_d2_0 : decode prog_1_method_1_code 0 = .ok (.aload_n 0, 1) := by decide +kernel
theorem own_d2_1 : decode prog_1_method_1_code 1 = .ok (.invokespecial 1, 3) := by decide +kernel
theorem own_d2_4 : decode prog_1_method_1_code 4 = .ok (.aload_n 0, 1) := by decide +kernel
theorem own_d2_5 : decode prog_1_method_1_code 5 = .ok (.lload_n 1, 1) := by decide +kernel
theorem own_d2_6 : decode prog_1_method_1_code 6 = .ok (.putfield 7, 3) := by decide +kernel
theorem own_d2_9 : decode prog_1_method_1_code 9 = .ok (.aload_n 0, 1) := by decide +kernel
theorem own_d2_10 : decode prog_1_method_1_code 10 = .ok (.lload_n 3, 1) := by decide +kernel
theorem own_d2_11 : decode prog_1_method_1_code 11 = .ok (.putfield 13, 3) := by decide +kernel
theorem own_d2_14 : decode prog_1_method_1_code 14 = .ok (.aload_n 0, 1) := by decide +kernel
theorem own_d2_15 : decode prog_1_method_1_code 15 = .ok (.aload 5, 2) := by decide +kernel
theorem own_d2_17 : decode prog_1_method_1_code 17 = .ok (.putfield 16, 3) := by decide +kernel
theorem own_d2_20 : decode prog_1_method_1_code 20 = .ok (.aload_n 0, 1) := by decide +kernel
theorem own_d2_21 : decode prog_1_method_1_code 21 = .ok (.aload 6, 2) := by decide +kernel
theorem own_d2_23 : decode prog_1_method_1_code 23 = .ok (.putfield 20, 3) := by decide +kernel
theorem own_d2_26 : decode prog_1_method_1_code 26 = .ok (.return_, 1) := by decide +kernel
theorem own_ef2RJJNR (m : MethodId) (x0 : Addr) (x1 : Int64) (x2 : Int64) (x4 : Addr) : entryFrame m #[(.ref x0), (.long x1), (.long x2), .null, (.ref x4)] 7 = mkF m 0 #[.val (.ref x0), .val (.long x1), .second, .val (.long x2), .second, .val .null, .val (.ref x4)] [] := by first | (simp [entryFrame, mkF, argsToLocals, Value.category]; done) | rfl
theorem own_pn0 : plainName own_s1 = true := by first | (simp [plainName, overriddenIn]; done) | decide +kernel
def own_Q2_6 (Z : State) (b5002 : Addr) (jp1x2_6 : Int64) (jp2x2_6 : Int64) (w_NONE : Addr) (h0 : Heap) (n0 : Nat) (v : Option Value) (h : Heap) (L : List Loc) : Prop := Fr n0 L ∧ Keep h0 h [b5002] ∧ ((v = none ∧ Fld Z h b5002 own_s1 "id" "J" (.long jp1x2_6) ∧ Fld Z h b5002 own_s1 "priority" "J" (.long jp2x2_6) ∧ Fld Z h b5002 own_s1 "payload" "[B" .null ∧ Fld Z h b5002 own_s1 "needs" "Lcom/example/lonborg/lonborg/Resources;" (.ref w_NONE) ∧ True))
set_option maxRecDepth 65536 in
set_option maxHeartbeats 40000000 in
theorem own_rm2_6 (l : Launch) (Z : State) (a0 : Array Value) (hw : ∀ d ∈ tables_1, d.before a0 Z = true) (ws : List Jvm.Cond) (b5002 : Addr) (jp1x2_6 : Int64) (jp2x2_6 : Int64) (w_NONE : Addr) (h0 : Heap) (n0 : Nat) (Z0 : n0 ≤ h0.size) (P0 : Exa Z h0 b5002 own_s1) (P1 : Fld Z h0 b5002 own_s1 "id" "J" (.long (0 : Int64))) (g_b5002 : n0 ≤ b5002) (P3 : Fld Z h0 b5002 own_s1 "priority" "J" (.long (0 : Int64))) (P4 : Fld Z h0 b5002 own_s1 "payload" "[B" .null) (P5 : Fld Z h0 b5002 own_s1 "needs" "Lcom/example/lonborg/lonborg/Resources;" .null) :
    MetFree l (⟨own_s1, "<init>", "(JJ[BLcom/example/lonborg/lonborg/Resources;)V"⟩ : MethodName) (head1 (Jvm.Cond.code (⟨own_s1, "<init>", "(JJ[BLcom/example/lonborg/lonborg/Resources;)V"⟩ : MethodName) prog_1_method_1_code 7 none :: ws) ({ frames := 1, cells := 0, slots := 0, locals := 12 } : Room)) (fun a U => a = #[(.ref b5002), (.long jp1x2_6), (.long jp2x2_6), .null, (.ref w_NONE)] ∧ Z.Warmed39 U.vm ∧ U.heap = h0) (fun _ _ _ _ _ => True) (fun _ U o U' => ∃ v L, o = .returned v ∧ own_Q2_6 Z b5002 jp1x2_6 jp2x2_6 w_NONE h0 n0 v U'.heap L ∧ FrameEnd U o U' L ({ frames := 1, cells := 0, slots := 0, locals := 12 } : Room).cells ({ frames := 1, cells := 0, slots := 0, locals := 12 } : Room).slots) := by
  refine MetFree.of_bodySF (plainFor_of_name own_pn0) hisR ?_
  intro p e s m args below meth c s₁ Bd hml0 hP hK
  obtain ⟨rfl, hZ, hh⟩ := hP
  have hx := Bd.exec
  have hlk := Bd.notSynchronized
  have hret := Bd.returns
  have hby := Bd.bytes
  have hml : c.maxLocals = 7 := hml0
  have hown : s.vm.findClass own_s1 = some m.cls := findClass_of_methodNamed Bd.named
  have hnm := (name_of_methodNamed Bd.named Bd.method).1
  have X0 : Stand p l e ({ frames := 1, cells := 0, slots := 0, locals := 12 } : Room) s m #[(.ref b5002), (.long jp1x2_6), (.long jp2x2_6), .null, (.ref w_NONE)] below meth c s₁ [] 0 0 := Stand.of_body Bd
  have e0 : s₁.heap = h0 := by rw [← hh, Bd.state]; rfl
  have N0 := Fr.nil n0
  refine own_open (Q := own_Q2_6 Z b5002 jp1x2_6 jp2x2_6 w_NONE h0 n0) (own_ef2RJJNR m b5002 jp1x2_6 jp2x2_6 w_NONE) ?_
  refine own_st (fun t k => XS.aloadN X0.here hx rfl (hb hby own_d2_0) rfl rfl k) ?_
  obtain ⟨T1, X1, e1, st1⟩ := initO X0 hx hZ hown (own_w hw 16 rfl) (own_w hw 17 rfl) (own_w hw 18 rfl) e0 (g := (mkF m 1 #[.val (.ref b5002), .val (.long jp1x2_6), .second, .val (.long jp2x2_6), .second, .val .null, .val (.ref w_NONE)] [(.ref b5002)])) rfl (by rw [hml]; rfl) rfl (hb hby own_d2_1) (by decide) (W := 0) (by show 2 * 0 + _ ≤ _; exact Nat.le_of_eq rfl) (by decide)
  refine own_st st1 ?_
  show own_Go _ _ _ _ T1 (mkF m 4 #[.val (.ref b5002), .val (.long jp1x2_6), .second, .val (.long jp2x2_6), .second, .val .null, .val (.ref w_NONE)] [])
  refine own_st (fun t k => XS.aloadN X1.here hx rfl (hb hby own_d2_4) rfl rfl (XS.lloadN X1.here hx rfl (hb hby own_d2_5) rfl k)) ?_
  refine own_pF X1 hx hZ hown (own_w hw 19 rfl) Via.refl e1 P1 P0 (Or.inr ⟨(own_w hw 20 rfl), rfl, hnm⟩) (own_w hw 5 rfl) (ty := .long) (by decide) (hb hby own_d2_6) rfl rfl rfl rfl fun T2 h2 X2 e2 W2 => ?_
  have K2 : Keep h0 h2 [b5002] := (Keep.refl h0 [b5002]).wr W2 (Or.inl (List.mem_of_getElem? (i := 0) rfl))
  have Z2 := Nat.le_trans Z0 (Keep.of_wr W2).1
  have N2 := Fr.snoc X2 N0 g_b5002
  have F2 := P1.same W2
  show own_Go _ _ _ _ T2 (mkF m 9 #[.val (.ref b5002), .val (.long jp1x2_6), .second, .val (.long jp2x2_6), .second, .val .null, .val (.ref w_NONE)] [])
  refine own_st (fun t k => XS.aloadN X2.here hx rfl (hb hby own_d2_9) rfl rfl (XS.lloadN X2.here hx rfl (hb hby own_d2_10) rfl k)) ?_
  have f3 := (P0.wr W2)
  have f4 := (P3.other W2 (Or.inr (slot_ne (Or.inr (own_w hw 22 rfl)) (Or.inr (own_w hw 20 rfl)) (by decide) (t := .long) (t' := .long) (by decide) (by decide))))
  refine own_pF X2 hx hZ hown (own_w hw 21 rfl) Via.refl e2 f4 f3 (Or.inr ⟨(own_w hw 22 rfl), rfl, hnm⟩) (own_w hw 5 rfl) (ty := .long) (by decide) (hb hby own_d2_11) rfl rfl rfl rfl fun T5 h5 X5 e5 W5 => ?_
  have K5 : Keep h0 h5 [b5002] := K2.wr W5 (Or.inl (List.mem_of_getElem? (i := 0) rfl))
  have Z5 := Nat.le_trans Z2 (Keep.of_wr W5).1
  have N5 := Fr.snoc X5 N2 g_b5002
  have F5 := f4.same W5
  show own_Go _ _ _ _ T5 (mkF m 14 #[.val (.ref b5002), .val (.long jp1x2_6), .second, .val (.long jp2x2_6), .second, .val .null, .val (.ref w_NONE)] [])
  refine own_st (fun t k => XS.aloadN X5.here hx rfl (hb hby own_d2_14) rfl rfl (XS.aload X5.here hx rfl (hb hby own_d2_15) rfl rfl k)) ?_
  have f6 := (f3.wr W5)
  have f7 := ((P4.other W2 (Or.inr (slot_ne (Or.inr (own_w hw 24 rfl)) (Or.inr (own_w hw 20 rfl)) (by decide) (t := (.array .byte)) (t' := .long) (by decide) (by decide)))).other W5 (Or.inr (slot_ne (Or.inr (own_w hw 24 rfl)) (Or.inr (own_w hw 22 rfl)) (by decide) (t := (.array .byte)) (t' := .long) (by decide) (by decide))))
  refine own_pF X5 hx hZ hown (own_w hw 23 rfl) Via.refl e5 f7 f6 (Or.inr ⟨(own_w hw 24 rfl), rfl, hnm⟩) (own_w hw 5 rfl) (ty := (.array .byte)) (by decide) (hb hby own_d2_17) rfl rfl rfl rfl fun T8 h8 X8 e8 W8 => ?_
  have K8 : Keep h0 h8 [b5002] := K5.wr W8 (Or.inl (List.mem_of_getElem? (i := 0) rfl))
  have Z8 := Nat.le_trans Z5 (Keep.of_wr W8).1
  have N8 := Fr.snoc X8 N5 g_b5002
  have F8 := f7.same W8
  show own_Go _ _ _ _ T8 (mkF m 20 #[.val (.ref b5002), .val (.long jp1x2_6), .second, .val (.long jp2x2_6), .second, .val .null, .val (.ref w_NONE)] [])
  refine own_st (fun t k => XS.aloadN X8.here hx rfl (hb hby own_d2_20) rfl rfl (XS.aload X8.here hx rfl (hb hby own_d2_21) rfl rfl k)) ?_
  have f9 := (f6.wr W8)
  have f10 := (((P5.other W2 (Or.inr (slot_ne (Or.inr (own_w hw 26 rfl)) (Or.inr (own_w hw 20 rfl)) (by decide) (t := (.object own_s3)) (t' := .long) (by decide) (by decide)))).other W5 (Or.inr (slot_ne (Or.inr (own_w hw 26 rfl)) (Or.inr (own_w hw 22 rfl)) (by decide) (t := (.object own_s3)) (t' := .long) (by decide) (by decide)))).other W8 (Or.inr (slot_ne (Or.inr (own_w hw 26 rfl)) (Or.inr (own_w hw 24 rfl)) (by decide) (t := (.object own_s3)) (t' := (.array .byte)) (by decide) (by decide))))
  refine own_pF X8 hx hZ hown (own_w hw 25 rfl) Via.refl e8 f10 f9 (Or.inr ⟨(own_w hw 26 rfl), rfl, hnm⟩) (own_w hw 5 rfl) (ty := (.object own_s3)) (by decide) (hb hby own_d2_23) rfl rfl rfl rfl fun T11 h11 X11 e11 W11 => ?_
  have K11 : Keep h0 h11 [b5002] := K8.wr W11 (Or.inl (List.mem_of_getElem? (i := 0) rfl))
  have Z11 := Nat.le_trans Z8 (Keep.of_wr W11).1
  have N11 := Fr.snoc X11 N8 g_b5002
  have F11 := f10.same W11
  show own_Go _ _ _ _ T11 (mkF m 26 #[.val (.ref b5002), .val (.long jp1x2_6), .second, .val (.long jp2x2_6), .second, .val .null, .val (.ref w_NONE)] [])
  have f12 := (((F2.other W5 (Or.inr (slot_ne (Or.inr (own_w hw 20 rfl)) (Or.inr (own_w hw 22 rfl)) (by decide) (t := .long) (t' := .long) (by decide) (by decide)))).other W8 (Or.inr (slot_ne (Or.inr (own_w hw 20 rfl)) (Or.inr (own_w hw 24 rfl)) (by decide) (t := .long) (t' := (.array .byte)) (by decide) (by decide)))).other W11 (Or.inr (slot_ne (Or.inr (own_w hw 20 rfl)) (Or.inr (own_w hw 26 rfl)) (by decide) (t := .long) (t' := (.object own_s3)) (by decide) (by decide))))
  have f13 := ((F5.other W8 (Or.inr (slot_ne (Or.inr (own_w hw 22 rfl)) (Or.inr (own_w hw 24 rfl)) (by decide) (t := .long) (t' := (.array .byte)) (by decide) (by decide)))).other W11 (Or.inr (slot_ne (Or.inr (own_w hw 22 rfl)) (Or.inr (own_w hw 26 rfl)) (by decide) (t := .long) (t' := (.object own_s3)) (by decide) (by decide))))
  have f14 := (F8.other W11 (Or.inr (slot_ne (Or.inr (own_w hw 24 rfl)) (Or.inr (own_w hw 26 rfl)) (by decide) (t := (.array .byte)) (t' := (.object own_s3)) (by decide) (by decide))))
  exact own_retV X11 hx hlk hret (hb hby own_d2_26) (by decide) (by decide) e11 ⟨N11, K11, ⟨rfl, f12, f13, f14, F11, trivial⟩⟩
theorem own_pd0 : parseMethodDescriptor "(JJ[BLcom/example/lonborg/lonborg/Resources;)V" = some ⟨[.long, .long, (.array .byte), (.object own_s3)], none⟩ := by decide +kernel
theorem own_d1_0 : decode prog_1_method_2_code 0 = .ok (.aload_n 0, 1) := by decide +kernel
theorem own_d1_1 : decode prog_1_method_2_code 1 = .ok (.lload_n 1, 1) := by decide +kernel
theorem own_d1_2 : decode prog_1_method_2_code 2 = .ok (.lload_n 3, 1) := by decide +kernel
theorem own_d1_3 : decode prog_1_method_2_code 3 = .ok (.aconst_null, 1) := by decide +kernel
theorem own_d1_4 : decode prog_1_method_2_code 4 = .ok (.aload 5, 2) := by decide +kernel
theorem own_d1_6 : decode prog_1_method_2_code 6 = .ok (.invokespecial 24, 3) := by decide +kernel
theorem own_d1_9 : decode prog_1_method_2_code 9 = .ok (.return_, 1) := by decide +kernel
theorem own_ef1 (m : MethodId) (x0 : Addr) (x1 : Int64) (x2 : Int64) (x3 : Addr) : entryFrame m #[(.ref x0), (.long x1), (.long x2), (.ref x3)] 6 = mkF m 0 #[.val (.ref x0), .val (.long x1), .second, .val (.long x2), .second, .val (.ref x3)] [] := by first | (simp [entryFrame, mkF, argsToLocals, Value.category]; done) | rfl
def own_Q1_4 (Z : State) (b5002 : Addr) (jp1x1_4 : Int64) (jp2x1_4 : Int64) (w_NONE : Addr) (h0 : Heap) (n0 : Nat) (v : Option Value) (h : Heap) (L : List Loc) : Prop := Fr n0 L ∧ Keep h0 h [b5002] ∧ ((v = none ∧ Fld Z h b5002 own_s1 "id" "J" (.long jp1x1_4) ∧ Fld Z h b5002 own_s1 "priority" "J" (.long jp2x1_4) ∧ Fld Z h b5002 own_s1 "payload" "[B" .null ∧ Fld Z h b5002 own_s1 "needs" "Lcom/example/lonborg/lonborg/Resources;" (.ref w_NONE) ∧ True))
set_option maxRecDepth 65536 in
set_option maxHeartbeats 40000000 in
theorem own_rm1_4 (l : Launch) (Z : State) (a0 : Array Value) (hw : ∀ d ∈ tables_1, d.before a0 Z = true) (ws : List Jvm.Cond) (b5002 : Addr) (jp1x1_4 : Int64) (jp2x1_4 : Int64) (w_NONE : Addr) (h0 : Heap) (n0 : Nat) (Z0 : n0 ≤ h0.size) (P0 : Exa Z h0 b5002 own_s1) (P1 : Fld Z h0 b5002 own_s1 "id" "J" (.long (0 : Int64))) (P2 : Fld Z h0 b5002 own_s1 "priority" "J" (.long (0 : Int64))) (P3 : Fld Z h0 b5002 own_s1 "payload" "[B" .null) (P4 : Fld Z h0 b5002 own_s1 "needs" "Lcom/example/lonborg/lonborg/Resources;" .null) (g_b5002 : n0 ≤ b5002) :
    MetFree l (⟨own_s1, "<init>", "(JJLcom/example/lonborg/lonborg/Resources;)V"⟩ : MethodName) (head1 (Jvm.Cond.code (⟨own_s1, "<init>", "(JJLcom/example/lonborg/lonborg/Resources;)V"⟩ : MethodName) prog_1_method_2_code 6 none :: ws) ({ frames := 2, cells := 0, slots := 0, locals := 30 } : Room)) (fun a U => a = #[(.ref b5002), (.long jp1x1_4), (.long jp2x1_4), (.ref w_NONE)] ∧ Z.Warmed39 U.vm ∧ U.heap = h0) (fun _ _ _ _ _ => True) (fun _ U o U' => ∃ v L, o = .returned v ∧ own_Q1_4 Z b5002 jp1x1_4 jp2x1_4 w_NONE h0 n0 v U'.heap L ∧ FrameEnd U o U' L ({ frames := 2, cells := 0, slots := 0, locals := 30 } : Room).cells ({ frames := 2, cells := 0, slots := 0, locals := 30 } : Room).slots) := by
  refine MetFree.of_bodySF (plainFor_of_name own_pn0) hisR ?_
  intro p e s m args below meth c s₁ Bd hml0 hP hK
  obtain ⟨rfl, hZ, hh⟩ := hP
  have hx := Bd.exec
  have hlk := Bd.notSynchronized
  have hret := Bd.returns
  have hby := Bd.bytes
  have hml : c.maxLocals = 6 := hml0
  have hown : s.vm.findClass own_s1 = some m.cls := findClass_of_methodNamed Bd.named
  have hnm := (name_of_methodNamed Bd.named Bd.method).1
  have X0 : Stand p l e ({ frames := 2, cells := 0, slots := 0, locals := 30 } : Room) s m #[(.ref b5002), (.long jp1x1_4), (.long jp2x1_4), (.ref w_NONE)] below meth c s₁ [] 0 0 := Stand.of_body Bd
  have e0 : s₁.heap = h0 := by rw [← hh, Bd.state]; rfl
  have N0 := Fr.nil n0
  refine own_open (Q := own_Q1_4 Z b5002 jp1x1_4 jp2x1_4 w_NONE h0 n0) (own_ef1 m b5002 jp1x1_4 jp2x1_4 w_NONE) ?_
  refine own_st (fun t k => XS.aloadN X0.here hx rfl (hb hby own_d1_0) rfl rfl (XS.lloadN X0.here hx rfl (hb hby own_d1_1) rfl k)) ?_
  show own_Go _ _ _ _ s₁ (mkF m 2 #[.val (.ref b5002), .val (.long jp1x1_4), .second, .val (.long jp2x1_4), .second, .val (.ref w_NONE)] [(.long jp1x1_4), (.ref b5002)])
  refine own_st (fun t k => XS.lloadN X0.here hx rfl (hb hby own_d1_2) rfl (XS.aconstNull X0.here hx rfl (hb hby own_d1_3) (XS.aload X0.here hx rfl (hb hby own_d1_4) rfl rfl k))) ?_
  show own_Go _ _ _ _ s₁ (mkF m 6 #[.val (.ref b5002), .val (.long jp1x1_4), .second, .val (.long jp2x1_4), .second, .val (.ref w_NONE)] [(.ref w_NONE), .null, (.long jp2x1_4), (.long jp1x1_4), (.ref b5002)])
  refine own_cI (a := b5002) X0 hx hZ hown (own_w hw 13 rfl) (own_w hw 14 rfl) (own_w hw 6 rfl) (own_w hw 15 rfl) [(.long jp1x1_4), (.long jp2x1_4), .null, (.ref w_NONE)] [] (own_rm2_6 l Z a0 hw [] b5002 jp1x1_4 jp2x1_4 w_NONE h0 n0 Z0 P0 P1 g_b5002 P2 P3 P4) 0 (hb hby own_d1_6) (by rw [hml]; rfl) (lenOf own_pd0 rfl) e0 rfl rfl (by show 2 * 0 + _ ≤ _; exact Nat.le_of_eq rfl) (by decide) (by decide) (by decide) rfl (by decide) (by decide) fun v1 T1 L1 X1 hQ1 => ?_
  obtain ⟨N1q, Kq1, hL1⟩ := hQ1
  have N1 := Fr.app N0 N1q
  have K1 : Keep h0 T1.heap [b5002] := (Keep.refl h0 [b5002]).trans Kq1 (allS (Or.inl (List.mem_of_getElem? (i := 0) rfl)) all0)
  have Z1 := Nat.le_trans Z0 Kq1.1
  rcases hL1 with ⟨rfl, Fc1_0_0, Fc1_0_1, Fc1_0_2, Fc1_0_3, -⟩
  · skip
    exact own_retV X1 hx hlk hret (hb hby own_d1_9) (by decide) (by decide) rfl ⟨N1, K1, ⟨rfl, Fc1_0_0, Fc1_0_1, Fc1_0_2, Fc1_0_3, trivial⟩⟩
theorem own_pd1 : parseMethodDescriptor "(JJLcom/example/lonborg/lonborg/Resources;)V" = some ⟨[.long, .long, (.object own_s3)], none⟩ := by decide +kernel
theorem own_d6_0 : decode prog_5_method_1_code 0 = .ok (.aload_n 0, 1) := by decide +kernel
theorem own_d6_1 : decode prog_5_method_1_code 1 = .ok (.invokespecial 1, 3) := by decide +kernel
theorem own_d6_4 : decode prog_5_method_1_code 4 = .ok (.aload_n 0, 1) := by decide +kernel
theorem own_d6_5 : decode prog_5_method_1_code 5 = .ok (.getstatic 7, 3) := by decide +kernel
theorem own_d6_8 : decode prog_5_method_1_code 8 = .ok (.putfield 13, 3) := by decide +kernel
theorem own_d6_11 : decode prog_5_method_1_code 11 = .ok (.return_, 1) := by decide +kernel
theorem own_ef6 (m : MethodId) (x0 : Addr) : entryFrame m #[(.ref x0)] 1 = mkF m 0 #[.val (.ref x0)] [] := by first | (simp [entryFrame, mkF, argsToLocals, Value.category]; done) | rfl
theorem own_pn1 : plainName own_s0 = true := by first | (simp [plainName, overriddenIn]; done) | decide +kernel
def own_Q6_20 (Z : State) (b2x4_14 : Addr) (w_EMPTY : Addr) (h0 : Heap) (n0 : Nat) (v : Option Value) (h : Heap) (L : List Loc) : Prop := Fr n0 L ∧ Keep h0 h [b2x4_14] ∧ ((v = none ∧ Fld Z h b2x4_14 own_s0 "least" own_s6 (.ref w_EMPTY) ∧ Fld Z h b2x4_14 own_s4 "items" own_s7 .null ∧ Fld Z h b2x4_14 own_s0 "count" "I" (.int (0 : Int32)) ∧ Fld Z h b2x4_14 own_s0 "stale" "Z" (.int (0 : Int32)) ∧ True))
set_option maxRecDepth 65536 in
set_option maxHeartbeats 40000000 in
theorem own_rm6_20 (l : Launch) (Z : State) (a0 : Array Value) (hw : ∀ d ∈ tables_1, d.before a0 Z = true) (ws : List Jvm.Cond) (b2x4_14 : Addr) (w_EMPTY : Addr) (h0 : Heap) (n0 : Nat) (Z0 : n0 ≤ h0.size) (P0 : Sta Z h0 own_s2 "EMPTY" own_s6 (.ref w_EMPTY)) (P1 : Exa Z h0 b2x4_14 own_s4) (P2 : Fld Z h0 b2x4_14 own_s0 "least" own_s6 .null) (g_b2x4_14 : n0 ≤ b2x4_14) (P4 : Fld Z h0 b2x4_14 own_s4 "items" own_s7 .null) (P5 : Fld Z h0 b2x4_14 own_s0 "count" "I" (.int (0 : Int32))) (P6 : Fld Z h0 b2x4_14 own_s0 "stale" "Z" (.int (0 : Int32))) :
    MetFree l (⟨own_s0, "<init>", "()V"⟩ : MethodName) (head1 (Jvm.Cond.code (⟨own_s0, "<init>", "()V"⟩ : MethodName) prog_5_method_1_code 1 none :: ws) ({ frames := 1, cells := 0, slots := 0, locals := 12 } : Room)) (fun a U => a = #[(.ref b2x4_14)] ∧ Z.Warmed39 U.vm ∧ U.heap = h0) (fun _ _ _ _ _ => True) (fun _ U o U' => ∃ v L, o = .returned v ∧ own_Q6_20 Z b2x4_14 w_EMPTY h0 n0 v U'.heap L ∧ FrameEnd U o U' L ({ frames := 1, cells := 0, slots := 0, locals := 12 } : Room).cells ({ frames := 1, cells := 0, slots := 0, locals := 12 } : Room).slots) := by
  refine MetFree.of_bodySF (plainFor_of_name own_pn1) hisR ?_
  intro p e s m args below meth c s₁ Bd hml0 hP hK
  obtain ⟨rfl, hZ, hh⟩ := hP
  have hx := Bd.exec
  have hlk := Bd.notSynchronized
  have hret := Bd.returns
  have hby := Bd.bytes
  have hml : c.maxLocals = 1 := hml0
  have hown : s.vm.findClass own_s0 = some m.cls := findClass_of_methodNamed Bd.named
  have hnm := (name_of_methodNamed Bd.named Bd.method).1
  have X0 : Stand p l e ({ frames := 1, cells := 0, slots := 0, locals := 12 } : Room) s m #[(.ref b2x4_14)] below meth c s₁ [] 0 0 := Stand.of_body Bd
  have e0 : s₁.heap = h0 := by rw [← hh, Bd.state]; rfl
  have N0 := Fr.nil n0
  refine own_open (Q := own_Q6_20 Z b2x4_14 w_EMPTY h0 n0) (own_ef6 m b2x4_14) ?_
  refine own_st (fun t k => XS.aloadN X0.here hx rfl (hb hby own_d6_0) rfl rfl k) ?_
  obtain ⟨T1, X1, e1, st1⟩ := initO X0 hx hZ hown (own_w hw 46 rfl) (own_w hw 17 rfl) (own_w hw 18 rfl) e0 (g := (mkF m 1 #[.val (.ref b2x4_14)] [(.ref b2x4_14)])) rfl (by rw [hml]; rfl) rfl (hb hby own_d6_1) (by decide) (W := 0) (by show 2 * 0 + _ ≤ _; exact Nat.le_of_eq rfl) (by decide)
  refine own_st st1 ?_
  show own_Go _ _ _ _ T1 (mkF m 4 #[.val (.ref b2x4_14)] [])
  refine own_st (fun t k => XS.aloadN X1.here hx rfl (hb hby own_d6_4) rfl rfl k) ?_
  refine own_gS X1 hx hZ hown (own_w hw 47 rfl) e1 P0 (hb hby own_d6_5) rfl fun T2 X2 e2 => ?_
  refine own_pF X2 hx hZ hown (own_w hw 50 rfl) Via.refl e2 P2 P1 (Or.inl (own_w hw 51 rfl)) (own_w hw 36 rfl) (ty := (.object own_s2)) (by decide) (hb hby own_d6_8) rfl rfl rfl rfl fun T3 h3 X3 e3 W3 => ?_
  have K3 : Keep h0 h3 [b2x4_14] := (Keep.refl h0 [b2x4_14]).wr W3 (Or.inl (List.mem_of_getElem? (i := 0) rfl))
  have Z3 := Nat.le_trans Z0 (Keep.of_wr W3).1
  have N3 := Fr.snoc X3 N0 g_b2x4_14
  have F3 := P2.same W3
  show own_Go _ _ _ _ T3 (mkF m 11 #[.val (.ref b2x4_14)] [])
  have f4 := (P4.other W3 (Or.inr (slot_ne (Or.inr (own_w hw 54 rfl)) (Or.inl (own_w hw 51 rfl)) (by decide) (t := (.array (.object own_s1))) (t' := (.object own_s2)) (by decide) (by decide))))
  have f5 := (P5.other W3 (Or.inr (slot_ne (Or.inl (own_w hw 80 rfl)) (Or.inl (own_w hw 51 rfl)) (by decide) (t := .int) (t' := (.object own_s2)) (by decide) (by decide))))
  have f6 := (P6.other W3 (Or.inr (slot_ne (Or.inl (own_w hw 94 rfl)) (Or.inl (own_w hw 51 rfl)) (by decide) (t := .boolean) (t' := (.object own_s2)) (by decide) (by decide))))
  exact own_retV X3 hx hlk hret (hb hby own_d6_11) (by decide) (by decide) e3 ⟨N3, K3, ⟨rfl, F3, f4, f5, f6, trivial⟩⟩
theorem own_pd2 : parseMethodDescriptor "()V" = some ⟨[], none⟩ := by decide +kernel
theorem own_d5_0 : decode prog_4_method_1_code 0 = .ok (.aload_n 0, 1) := by decide +kernel
theorem own_d5_1 : decode prog_4_method_1_code 1 = .ok (.invokespecial 3, 3) := by decide +kernel
theorem own_d5_4 : decode prog_4_method_1_code 4 = .ok (.aload_n 0, 1) := by decide +kernel
theorem own_d5_5 : decode prog_4_method_1_code 5 = .ok (.bipush 64, 2) := by decide +kernel
theorem own_d5_7 : decode prog_4_method_1_code 7 = .ok (.anewarray 9, 3) := by decide +kernel
theorem own_d5_10 : decode prog_4_method_1_code 10 = .ok (.putfield 11, 3) := by decide +kernel
theorem own_d5_13 : decode prog_4_method_1_code 13 = .ok (.return_, 1) := by decide +kernel
theorem own_ef5 (m : MethodId) (x0 : Addr) : entryFrame m #[(.ref x0)] 1 = mkF m 0 #[.val (.ref x0)] [] := by first | (simp [entryFrame, mkF, argsToLocals, Value.category]; done) | rfl
theorem own_pn2 : plainName own_s4 = true := by first | (simp [plainName, overriddenIn]; done) | decide +kernel
def own_Q5_18 (Z : State) (b2x4_14 : Addr) (w_EMPTY : Addr) (h0 : Heap) (n0 : Nat) (v : Option Value) (h : Heap) (L : List Loc) : Prop := Fr n0 L ∧ Keep h0 h [b2x4_14] ∧ ((∃ b2x5_18 : Addr, ∃ k2x5_18 : ClassId, v = none ∧ h0.size ≤ b2x5_18 ∧ Fld Z h b2x4_14 own_s0 "least" own_s6 (.ref w_EMPTY) ∧ Fld Z h b2x4_14 own_s4 "items" own_s7 (.ref b2x5_18) ∧ Fld Z h b2x4_14 own_s0 "count" "I" (.int (0 : Int32)) ∧ Fld Z h b2x4_14 own_s0 "stale" "Z" (.int (0 : Int32)) ∧ Arv Z h b2x5_18 k2x5_18 (.object own_s1) (64 : Int32) [] .null ∧ Ovr Z k2x5_18 own_s1 ∧ Exa Z h b2x5_18 own_s7 ∧ True))
set_option maxRecDepth 65536 in
set_option maxHeartbeats 40000000 in
theorem own_rm5_18 (l : Launch) (Z : State) (a0 : Array Value) (hw : ∀ d ∈ tables_1, d.before a0 Z = true) (ws : List Jvm.Cond) (b2x4_14 : Addr) (w_EMPTY : Addr) (h0 : Heap) (n0 : Nat) (Z0 : n0 ≤ h0.size) (P0 : Sta Z h0 own_s2 "EMPTY" own_s6 (.ref w_EMPTY)) (P1 : Exa Z h0 b2x4_14 own_s4) (P2 : Fld Z h0 b2x4_14 own_s0 "least" own_s6 .null) (P3 : Fld Z h0 b2x4_14 own_s4 "items" own_s7 .null) (P4 : Fld Z h0 b2x4_14 own_s0 "count" "I" (.int (0 : Int32))) (P5 : Fld Z h0 b2x4_14 own_s0 "stale" "Z" (.int (0 : Int32))) (g_b2x4_14 : n0 ≤ b2x4_14) :
    MetFree l (⟨own_s4, "<init>", "()V"⟩ : MethodName) (head1 (Jvm.Cond.code (⟨own_s4, "<init>", "()V"⟩ : MethodName) prog_4_method_1_code 1 none :: ws) ({ frames := 2, cells := 1, slots := 64, locals := 24 } : Room)) (fun a U => a = #[(.ref b2x4_14)] ∧ Z.Warmed39 U.vm ∧ U.heap = h0) (fun _ _ _ _ _ => True) (fun _ U o U' => ∃ v L, o = .returned v ∧ own_Q5_18 Z b2x4_14 w_EMPTY h0 n0 v U'.heap L ∧ FrameEnd U o U' L ({ frames := 2, cells := 1, slots := 64, locals := 24 } : Room).cells ({ frames := 2, cells := 1, slots := 64, locals := 24 } : Room).slots) := by
  refine MetFree.of_bodySF (plainFor_of_name own_pn2) hisR ?_
  intro p e s m args below meth c s₁ Bd hml0 hP hK
  obtain ⟨rfl, hZ, hh⟩ := hP
  have hx := Bd.exec
  have hlk := Bd.notSynchronized
  have hret := Bd.returns
  have hby := Bd.bytes
  have hml : c.maxLocals = 1 := hml0
  have hown : s.vm.findClass own_s4 = some m.cls := findClass_of_methodNamed Bd.named
  have hnm := (name_of_methodNamed Bd.named Bd.method).1
  have X0 : Stand p l e ({ frames := 2, cells := 1, slots := 64, locals := 24 } : Room) s m #[(.ref b2x4_14)] below meth c s₁ [] 0 0 := Stand.of_body Bd
  have e0 : s₁.heap = h0 := by rw [← hh, Bd.state]; rfl
  have N0 := Fr.nil n0
  refine own_open (Q := own_Q5_18 Z b2x4_14 w_EMPTY h0 n0) (own_ef5 m b2x4_14) ?_
  refine own_st (fun t k => XS.aloadN X0.here hx rfl (hb hby own_d5_0) rfl rfl k) ?_
  obtain ⟨_, _, ⟨T1, L1, k1, n1⟩, -, X1, ⟨Lc1, hQ1, l1, y1, z1⟩, st1⟩ := X0.specialBackNest hx (y := (⟨own_s0, "<init>", "()V"⟩ : MethodName)) rfl hown (own_mvLN hZ (own_w hw 41 rfl)) (mvT hZ (own_w hw 42 rfl)) (mvT hZ (own_w hw 45 rfl)) (by decide) (backOf (W := 0) (own_rm6_20 l Z a0 hw [] b2x4_14 w_EMPTY h0 n0 Z0 P0 P1 P2 g_b2x4_14 P3 P4 P5) hZ (own_w hw 45 rfl) (own_w hw 44 rfl) (by decide) (by decide)) (g := (mkF m 1 #[.val (.ref b2x4_14)] [(.ref b2x4_14)])) rfl (by rw [hml]; rfl) (Steps.refl _) (a := b2x4_14) (argsL := []) (rest := []) (lenOf own_pd2 rfl) rfl (by show 2 * 0 + _ ≤ _; exact Nat.le_of_eq rfl) (hb hby own_d5_1) (fun _ _ => ⟨rfl, e0, (by decide : 0 + 0 ≤ _), (by decide : 0 + 0 ≤ _)⟩)
  dsimp only [Pt.U, Pt.locs, Pt.cells, Pt.slots] at X1 l1 y1 z1 st1 hQ1
  subst l1 y1 z1
  obtain ⟨N1q, Kq1, hL1⟩ := hQ1
  have N1 := Fr.app N0 N1q
  have K1 : Keep h0 T1.heap [b2x4_14] := (Keep.refl h0 [b2x4_14]).trans Kq1 (allS (Or.inl (List.mem_of_getElem? (i := 0) rfl)) all0)
  have Z1 := Nat.le_trans Z0 Kq1.1
  rcases hL1 with ⟨rfl, Fc1_0_0, Fc1_0_1, Fc1_0_2, Fc1_0_3, -⟩
  · skip
    refine own_st (fun t k => st1.trans k) ?_
    show own_Go _ _ _ _ T1 (mkF m 4 #[.val (.ref b2x4_14)] [])
    refine own_st (fun t k => XS.aloadN X1.here hx rfl (hb hby own_d5_4) rfl rfl (XS.bipush X1.here hx rfl (hb hby own_d5_5) k)) ?_
    obtain ⟨T2, h2, k2x5_18, X2, e2, E2, A2, Ex2, O2, st2⟩ := newRE X1 hx hZ hown (own_w hw 52 rfl) (own_w hw 4 rfl) rfl (g := (mkF m 7 #[.val (.ref b2x4_14)] [(.int (64 : Int32)), (.ref b2x4_14)])) rfl (hb hby own_d5_7) rfl (by decide) (cap := 64) (by decide) (by decide) (by decide) (by decide) (ad := own_s7) (by decide +kernel)
    obtain ⟨b2x5_18, g2⟩ : ∃ z, z = T1.heap.size := ⟨_, rfl⟩
    rw [← g2] at A2 Ex2 st2
    have g_b2x5_18 : n0 ≤ b2x5_18 := Nat.le_trans Z1 (Nat.le_of_eq g2.symm)
    have sz_b2x5_18 : h0.size ≤ b2x5_18 := Nat.le_trans K1.1 (Nat.le_of_eq g2.symm)
    refine own_st st2 ?_
    have K2 : Keep h0 h2 [b2x4_14] := K1.ext E2
    have Z2 := Nat.le_trans Z1 E2.1
    have V2 : Arv Z h2 b2x5_18 k2x5_18 (.object own_s1) (64 : Int32) [] .null := Arv.new A2 (by decide)
    show own_Go _ _ _ _ T2 (mkF m 10 #[.val (.ref b2x4_14)] [(.ref b2x5_18), (.ref b2x4_14)])
    have f3 := (P1.keep K2)
    have f4 := (Fc1_0_1.ext E2)
    refine own_pF X2 hx hZ hown (own_w hw 53 rfl) Via.refl e2 f4 f3 (Or.inr ⟨(own_w hw 54 rfl), rfl, hnm⟩) (own_w hw 36 rfl) (ty := (.array (.object own_s1))) (by decide) (hb hby own_d5_10) rfl rfl rfl rfl fun T5 h5 X5 e5 W5 => ?_
    have K5 : Keep h0 h5 [b2x4_14] := K2.wr W5 (Or.inl (List.mem_of_getElem? (i := 0) rfl))
    have Z5 := Nat.le_trans Z2 (Keep.of_wr W5).1
    have N5 := Fr.snoc X5 N1 g_b2x4_14
    have F5 := f4.same W5
    have f6 := ((Fc1_0_0.ext E2).other W5 (Or.inr (slot_ne (Or.inl (own_w hw 51 rfl)) (Or.inr (own_w hw 54 rfl)) (by decide) (t := (.object own_s2)) (t' := (.array (.object own_s1))) (by decide) (by decide))))
    have f7 := ((Fc1_0_2.ext E2).other W5 (Or.inr (slot_ne (Or.inl (own_w hw 80 rfl)) (Or.inr (own_w hw 54 rfl)) (by decide) (t := .int) (t' := (.array (.object own_s1))) (by decide) (by decide))))
    have f8 := ((Fc1_0_3.ext E2).other W5 (Or.inr (slot_ne (Or.inl (own_w hw 94 rfl)) (Or.inr (own_w hw 54 rfl)) (by decide) (t := .boolean) (t' := (.array (.object own_s1))) (by decide) (by decide))))
    have ne9 : b2x4_14 ≠ b2x5_18 := Nat.ne_of_lt (Nat.lt_of_lt_of_le P1.lt sz_b2x5_18)
    have f10 := (V2.other W5 (Ne.symm ne9))
    have f11 := (Ex2.wr W5)
    exact own_retV X5 hx hlk hret (hb hby own_d5_13) (by decide) (by decide) e5 ⟨N5, K5, ⟨b2x5_18, _, rfl, sz_b2x5_18, f6, F5, f7, f8, f10, O2, f11, trivial⟩⟩
theorem own_d4_0 : decode prog_2_method_1_code 0 = .ok (.aload_n 0, 1) := by decide +kernel
theorem own_d4_1 : decode prog_2_method_1_code 1 = .ok (.invokespecial 1, 3) := by decide +kernel
theorem own_d4_4 : decode prog_2_method_1_code 4 = .ok (.aload_n 0, 1) := by decide +kernel
theorem own_d4_5 : decode prog_2_method_1_code 5 = .ok (.new 7, 3) := by decide +kernel
theorem own_d4_8 : decode prog_2_method_1_code 8 = .ok (.dup, 1) := by decide +kernel
theorem own_d4_9 : decode prog_2_method_1_code 9 = .ok (.invokespecial 9, 3) := by decide +kernel
theorem own_d4_12 : decode prog_2_method_1_code 12 = .ok (.putfield 10, 3) := by decide +kernel
theorem own_d4_15 : decode prog_2_method_1_code 15 = .ok (.return_, 1) := by decide +kernel
theorem own_ef4 (m : MethodId) (x0 : Addr) : entryFrame m #[(.ref x0)] 1 = mkF m 0 #[.val (.ref x0)] [] := by first | (simp [entryFrame, mkF, argsToLocals, Value.category]; done) | rfl
theorem own_pn3 : plainName own_s5 = true := by first | (simp [plainName, overriddenIn]; done) | decide +kernel
def own_Q4_14 (Z : State) (b5032 : Addr) (w_EMPTY : Addr) (h0 : Heap) (n0 : Nat) (v : Option Value) (h : Heap) (L : List Loc) : Prop := Fr n0 L ∧ Keep h0 h [b5032] ∧ ((∃ b2x4_14 : Addr, ∃ b2x5_18c4 : Addr, ∃ k2x5_18c4 : ClassId, v = none ∧ h0.size ≤ b2x4_14 ∧ h0.size ≤ b2x5_18c4 ∧ Fld Z h b5032 own_s5 "root" "Lcom/example/lonborg/lonborg/ItemTree$Node;" (.ref b2x4_14) ∧ Fld Z h b5032 own_s5 "size" "J" (.long (0 : Int64)) ∧ Exa Z h b2x4_14 own_s4 ∧ Fld Z h b2x4_14 own_s0 "least" own_s6 (.ref w_EMPTY) ∧ Fld Z h b2x4_14 own_s4 "items" own_s7 (.ref b2x5_18c4) ∧ Fld Z h b2x4_14 own_s0 "count" "I" (.int (0 : Int32)) ∧ Fld Z h b2x4_14 own_s0 "stale" "Z" (.int (0 : Int32)) ∧ Arv Z h b2x5_18c4 k2x5_18c4 (.object own_s1) (64 : Int32) [] .null ∧ Ovr Z k2x5_18c4 own_s1 ∧ Exa Z h b2x5_18c4 own_s7 ∧ True))
set_option maxRecDepth 65536 in
set_option maxHeartbeats 40000000 in
theorem own_rm4_14 (l : Launch) (Z : State) (a0 : Array Value) (hw : ∀ d ∈ tables_1, d.before a0 Z = true) (ws : List Jvm.Cond) (b5032 : Addr) (w_EMPTY : Addr) (h0 : Heap) (n0 : Nat) (Z0 : n0 ≤ h0.size) (P0 : Sta Z h0 own_s2 "EMPTY" own_s6 (.ref w_EMPTY)) (P1 : Exa Z h0 b5032 own_s5) (P2 : Fld Z h0 b5032 own_s5 "root" "Lcom/example/lonborg/lonborg/ItemTree$Node;" .null) (g_b5032 : n0 ≤ b5032) (P4 : Fld Z h0 b5032 own_s5 "size" "J" (.long (0 : Int64))) :
    MetFree l (⟨own_s5, "<init>", "()V"⟩ : MethodName) (head1 (Jvm.Cond.code (⟨own_s5, "<init>", "()V"⟩ : MethodName) prog_2_method_1_code 1 none :: ws) ({ frames := 3, cells := 2, slots := 68, locals := 38 } : Room)) (fun a U => a = #[(.ref b5032)] ∧ Z.Warmed39 U.vm ∧ U.heap = h0) (fun _ _ _ _ _ => True) (fun _ U o U' => ∃ v L, o = .returned v ∧ own_Q4_14 Z b5032 w_EMPTY h0 n0 v U'.heap L ∧ FrameEnd U o U' L ({ frames := 3, cells := 2, slots := 68, locals := 38 } : Room).cells ({ frames := 3, cells := 2, slots := 68, locals := 38 } : Room).slots) := by
  refine MetFree.of_bodySF (plainFor_of_name own_pn3) hisR ?_
  intro p e s m args below meth c s₁ Bd hml0 hP hK
  obtain ⟨rfl, hZ, hh⟩ := hP
  have hx := Bd.exec
  have hlk := Bd.notSynchronized
  have hret := Bd.returns
  have hby := Bd.bytes
  have hml : c.maxLocals = 1 := hml0
  have hown : s.vm.findClass own_s5 = some m.cls := findClass_of_methodNamed Bd.named
  have hnm := (name_of_methodNamed Bd.named Bd.method).1
  have X0 : Stand p l e ({ frames := 3, cells := 2, slots := 68, locals := 38 } : Room) s m #[(.ref b5032)] below meth c s₁ [] 0 0 := Stand.of_body Bd
  have e0 : s₁.heap = h0 := by rw [← hh, Bd.state]; rfl
  have N0 := Fr.nil n0
  refine own_open (Q := own_Q4_14 Z b5032 w_EMPTY h0 n0) (own_ef4 m b5032) ?_
  refine own_st (fun t k => XS.aloadN X0.here hx rfl (hb hby own_d4_0) rfl rfl k) ?_
  obtain ⟨T1, X1, e1, st1⟩ := initO X0 hx hZ hown (own_w hw 34 rfl) (own_w hw 17 rfl) (own_w hw 18 rfl) e0 (g := (mkF m 1 #[.val (.ref b5032)] [(.ref b5032)])) rfl (by rw [hml]; rfl) rfl (hb hby own_d4_1) (by decide) (W := 0) (by show 2 * 0 + _ ≤ _; exact Nat.le_of_eq rfl) (by decide)
  refine own_st st1 ?_
  show own_Go _ _ _ _ T1 (mkF m 4 #[.val (.ref b5032)] [])
  refine own_st (fun t k => XS.aloadN X1.here hx rfl (hb hby own_d4_4) rfl rfl k) ?_
  obtain ⟨T2, h2, X2, e2, E2, A2, D2, -, st2⟩ := newO X1 hx hZ hown (own_w hw 35 rfl) (own_w hw 36 rfl) (own_w hw 37 rfl) e1 (g := (mkF m 5 #[.val (.ref b5032)] [(.ref b5032)])) rfl (hb hby own_d4_5) (by decide) (by decide)
  obtain ⟨b2x4_14, g2⟩ : ∃ z, z = h0.size := ⟨_, rfl⟩
  rw [← g2] at A2 D2 st2
  have g_b2x4_14 : n0 ≤ b2x4_14 := Nat.le_trans Z0 (Nat.le_of_eq g2.symm)
  have sz_b2x4_14 : h0.size ≤ b2x4_14 := Nat.le_trans (Keep.refl h0 [b5032]).1 (Nat.le_of_eq g2.symm)
  refine own_st st2 ?_
  have K2 : Keep h0 h2 [b5032] := (Keep.refl h0 [b5032]).ext E2
  have Z2 := Nat.le_trans Z0 E2.1
  have F2_51 : Fld Z h2 b2x4_14 own_s0 "least" own_s6 .null := D2 (Or.inl (own_w hw 51 rfl)) (ty := (.object own_s2)) (by decide)
  have F2_54 : Fld Z h2 b2x4_14 own_s4 "items" own_s7 .null := D2 (Or.inr (own_w hw 54 rfl)) (ty := (.array (.object own_s1))) (by decide)
  have F2_80 : Fld Z h2 b2x4_14 own_s0 "count" "I" (.int (0 : Int32)) := D2 (Or.inl (own_w hw 80 rfl)) (ty := .int) (by decide)
  have F2_94 : Fld Z h2 b2x4_14 own_s0 "stale" "Z" (.int (0 : Int32)) := D2 (Or.inl (own_w hw 94 rfl)) (ty := .boolean) (by decide)
  refine own_st (fun t k => XS.dup X2.here hx rfl (hb hby own_d4_8) rfl rfl k) ?_
  show own_Go _ _ _ _ T2 (mkF m 9 #[.val (.ref b5032)] [(.ref b2x4_14), (.ref b2x4_14), (.ref b5032)])
  have f3 := (P0.ext E2)
  obtain ⟨_, _, ⟨T4, L4, k4, n4⟩, -, X4, ⟨Lc4, hQ4, l4, y4, z4⟩, st4⟩ := own_specialRef X2 hx hZ (y := (⟨own_s4, "<init>", "()V"⟩ : MethodName)) rfl hown (own_w hw 38 rfl) (own_w hw 39 rfl) (own_w hw 40 rfl) (by decide) (backOf (W := 2) (own_rm5_18 l Z a0 hw [] b2x4_14 w_EMPTY h2 n0 Z2 f3 A2 F2_51 F2_54 F2_80 F2_94 g_b2x4_14) hZ (own_w hw 40 rfl) (own_w hw 37 rfl) (by decide) (by decide)) (g := (mkF m 9 #[.val (.ref b5032)] [(.ref b2x4_14), (.ref b2x4_14), (.ref b5032)])) rfl (by rw [hml]; rfl) (Steps.refl _) (a := b2x4_14) (argsL := []) (rest := [(.ref b2x4_14), (.ref b5032)]) (lenOf own_pd2 rfl) rfl (by show 2 * 0 + _ ≤ _; exact Nat.le_of_eq rfl) (hb hby own_d4_9) (fun _ _ => ⟨rfl, e2, (by decide : 1 + 1 ≤ _), (by decide : 4 + 64 ≤ _)⟩)
  dsimp only [Pt.U, Pt.locs, Pt.cells, Pt.slots] at X4 l4 y4 z4 st4 hQ4
  subst l4 y4 z4
  obtain ⟨N4q, Kq4, hL4⟩ := hQ4
  have N4 := Fr.app N0 N4q
  have K4 : Keep h0 T4.heap [b5032] := K2.trans Kq4 (allS (Or.inr sz_b2x4_14) all0)
  have Z4 := Nat.le_trans Z2 Kq4.1
  rcases hL4 with ⟨b2x5_18c4, k2x5_18c4, rfl, sq_b2x5_18c4, Fc4_0_0, Fc4_0_1, Fc4_0_2, Fc4_0_3, Fc4_0_4, OFc4_0_4, Fc4_0_5, -⟩
  · skip
    have g_b2x5_18c4 : n0 ≤ b2x5_18c4 := Nat.le_trans Z2 sq_b2x5_18c4
    have sz_b2x5_18c4 : h0.size ≤ b2x5_18c4 := Nat.le_trans K2.1 sq_b2x5_18c4
    refine own_st (fun t k => st4.trans k) ?_
    have f5 := (P1.keep K4)
    have ne6 : b5032 ≠ b2x4_14 := Nat.ne_of_lt (Nat.lt_of_lt_of_le P1.lt sz_b2x4_14)
    have f7 := ((P2.ext E2).keep Kq4 (ninS ne6 nin0))
    refine own_pF X4 hx hZ hown (own_w hw 55 rfl) Via.refl rfl f7 f5 (Or.inl (own_w hw 56 rfl)) (own_w hw 29 rfl) (ty := (.object own_s0)) (by decide) (hb hby own_d4_12) rfl rfl rfl rfl fun T8 h8 X8 e8 W8 => ?_
    have K8 : Keep h0 h8 [b5032] := K4.wr W8 (Or.inl (List.mem_of_getElem? (i := 0) rfl))
    have Z8 := Nat.le_trans Z4 (Keep.of_wr W8).1
    have N8 := Fr.snoc X8 N4 g_b5032
    have F8 := f7.same W8
    have f9 := (((P4.ext E2).keep Kq4 (ninS ne6 nin0)).other W8 (Or.inr (slot_ne (Or.inl (own_w hw 63 rfl)) (Or.inl (own_w hw 56 rfl)) (by decide) (t := .long) (t' := (.object own_s0)) (by decide) (by decide))))
    have f10 := ((A2.keep Kq4).wr W8)
    have f11 := (Fc4_0_0.other W8 (Or.inl (Ne.symm ne6)))
    have f12 := (Fc4_0_1.other W8 (Or.inl (Ne.symm ne6)))
    have f13 := (Fc4_0_2.other W8 (Or.inl (Ne.symm ne6)))
    have f14 := (Fc4_0_3.other W8 (Or.inl (Ne.symm ne6)))
    have ne15 : b5032 ≠ b2x5_18c4 := Nat.ne_of_lt (Nat.lt_of_lt_of_le P1.lt sz_b2x5_18c4)
    have f16 := (Fc4_0_4.other W8 (Ne.symm ne15))
    have f17 := (Fc4_0_5.wr W8)
    exact own_retV X8 hx hlk hret (hb hby own_d4_15) (by decide) (by decide) e8 ⟨N8, K8, ⟨b2x4_14, b2x5_18c4, _, rfl, sz_b2x4_14, sz_b2x5_18c4, F8, f9, f10, f11, f12, f13, f14, f16, OFc4_0_4, f17, trivial⟩⟩
theorem own_d7_0 : decode prog_2_method_3_code 0 = .ok (.aload_n 0, 1) := by decide +kernel
theorem own_d7_1 : decode prog_2_method_3_code 1 = .ok (.getfield 27, 3) := by decide +kernel
theorem own_d7_4 : decode prog_2_method_3_code 4 = .ok (.lconst 0, 1) := by decide +kernel
theorem own_d7_5 : decode prog_2_method_3_code 5 = .ok (.lcmp, 1) := by decide +kernel
theorem own_d7_6 : decode prog_2_method_3_code 6 = .ok (.ifCond .ne 7, 3) := by decide +kernel
theorem own_d7_9 : decode prog_2_method_3_code 9 = .ok (.aconst_null, 1) := by decide +kernel
theorem own_d7_10 : decode prog_2_method_3_code 10 = .ok (.goto 10, 3) := by decide +kernel
theorem own_d7_20 : decode prog_2_method_3_code 20 = .ok (.areturn, 1) := by decide +kernel
theorem own_ef7 (m : MethodId) (x0 : Addr) : entryFrame m #[(.ref x0)] 1 = mkF m 0 #[.val (.ref x0)] [] := by first | (simp [entryFrame, mkF, argsToLocals, Value.category]; done) | rfl
def own_Q7_21 (Z : State) (b5032 : Addr) (h0 : Heap) (n0 : Nat) (v : Option Value) (h : Heap) (L : List Loc) : Prop := Fr n0 L ∧ Keep h0 h [] ∧ ((v = some .null ∧ True))
set_option maxRecDepth 65536 in
set_option maxHeartbeats 40000000 in
theorem own_rm7_21 (l : Launch) (Z : State) (a0 : Array Value) (hw : ∀ d ∈ tables_1, d.before a0 Z = true) (ws : List Jvm.Cond) (b5032 : Addr) (h0 : Heap) (n0 : Nat) (Z0 : n0 ≤ h0.size) (P0 : Fld Z h0 b5032 own_s5 "size" "J" (.long (0 : Int64))) :
    MetFree l own_y7 (head1 (Jvm.Cond.code own_y7 prog_2_method_3_code 1 (some (.object own_s1)) :: ws) ({ frames := 0, cells := 0, slots := 0, locals := 0 } : Room)) (fun a U => a = #[(.ref b5032)] ∧ Z.Warmed39 U.vm ∧ U.heap = h0) (fun _ _ _ _ _ => True) (fun _ U o U' => ∃ v L, o = .returned v ∧ own_Q7_21 Z b5032 h0 n0 v U'.heap L ∧ FrameEnd U o U' L ({ frames := 0, cells := 0, slots := 0, locals := 0 } : Room).cells ({ frames := 0, cells := 0, slots := 0, locals := 0 } : Room).slots) := by
  refine MetFree.of_bodySF (plainFor_of_name own_pn3) hisR ?_
  intro p e s m args below meth c s₁ Bd hml0 hP hK
  obtain ⟨rfl, hZ, hh⟩ := hP
  have hx := Bd.exec
  have hlk := Bd.notSynchronized
  have hret := Bd.returns
  have hby := Bd.bytes
  have hml : c.maxLocals = 1 := hml0
  have hown : s.vm.findClass own_s5 = some m.cls := findClass_of_methodNamed Bd.named
  have hnm := (name_of_methodNamed Bd.named Bd.method).1
  have X0 : Stand p l e ({ frames := 0, cells := 0, slots := 0, locals := 0 } : Room) s m #[(.ref b5032)] below meth c s₁ [] 0 0 := Stand.of_body Bd
  have e0 : s₁.heap = h0 := by rw [← hh, Bd.state]; rfl
  have N0 := Fr.nil n0
  refine own_open (Q := own_Q7_21 Z b5032 h0 n0) (own_ef7 m b5032) ?_
  refine own_st (fun t k => XS.aloadN X0.here hx rfl (hb hby own_d7_0) rfl rfl k) ?_
  refine own_gF X0 hx hZ hown (own_w hw 62 rfl) Via.refl e0 P0 (hb hby own_d7_1) rfl rfl fun T1 X1 e1 => ?_
  show own_Go _ _ _ _ T1 (mkF m 4 #[.val (.ref b5032)] [(.long (0 : Int64))])
  refine own_st (fun t k => XS.lconst X1.here hx rfl (hb hby own_d7_4) (XS.lcmp X1.here hx rfl (hb hby own_d7_5) rfl (XS.ifNo X1.here hx rfl (hb hby own_d7_6) rfl ((if0 _ _).trans (teq (by decide : (lcmpW (0 : Int64) (0 : Int64)) = (0 : Int32))).2) k))) ?_
  show own_Go _ _ _ _ T1 (mkF m 9 #[.val (.ref b5032)] [])
  refine own_st (fun t k => XS.aconstNull X1.here hx rfl (hb hby own_d7_9) (XS.goto X1.here hx rfl (pc0 := 10) (pc' := 20) rfl (hb hby own_d7_10) (by decide) (by decide) k)) ?_
  exact own_retA X1 hx hlk hret rfl rfl (hb hby own_d7_20) (by decide) (by decide) e1 ⟨N0, (Keep.refl h0 []), ⟨rfl, trivial⟩⟩
theorem own_pd3 : parseMethodDescriptor own_s11 = some ⟨[], some (.object own_s1)⟩ := by decide +kernel
theorem own_d10_0 : decode prog_4_method_9_code 0 = .ok (.iconst 0, 1) := by decide +kernel
theorem own_d10_1 : decode prog_4_method_9_code 1 = .ok (.istore_n 2, 1) := by decide +kernel
theorem own_d10_2 : decode prog_4_method_9_code 2 = .ok (.aload_n 0, 1) := by decide +kernel
theorem own_d10_3 : decode prog_4_method_9_code 3 = .ok (.getfield 21, 3) := by decide +kernel
theorem own_d10_6 : decode prog_4_method_9_code 6 = .ok (.istore_n 3, 1) := by decide +kernel
theorem own_d10_7 : decode prog_4_method_9_code 7 = .ok (.iload_n 2, 1) := by decide +kernel
theorem own_d10_8 : decode prog_4_method_9_code 8 = .ok (.iload_n 3, 1) := by decide +kernel
theorem own_d10_9 : decode prog_4_method_9_code 9 = .ok (.if_icmp .ge 45, 3) := by decide +kernel
theorem own_d10_54 : decode prog_4_method_9_code 54 = .ok (.iload_n 2, 1) := by decide +kernel
theorem own_d10_55 : decode prog_4_method_9_code 55 = .ok (.ireturn, 1) := by decide +kernel
theorem own_ef10 (m : MethodId) (x0 : Addr) (x1 : Addr) : entryFrame m #[(.ref x0), (.ref x1)] 5 = mkF m 0 #[.val (.ref x0), .val (.ref x1), .unset, .unset, .unset] [] := by first | (simp [entryFrame, mkF, argsToLocals, Value.category]; done) | rfl
def own_Q10_61 (Z : State) (b2x4_14c5034 : Addr) (b5002 : Addr) (h0 : Heap) (n0 : Nat) (v : Option Value) (h : Heap) (L : List Loc) : Prop := Fr n0 L ∧ Keep h0 h [] ∧ ((v = some (.int (0 : Int32)) ∧ True))
set_option maxRecDepth 65536 in
set_option maxHeartbeats 40000000 in
theorem own_rm10_61 (l : Launch) (Z : State) (a0 : Array Value) (hw : ∀ d ∈ tables_1, d.before a0 Z = true) (ws : List Jvm.Cond) (b2x4_14c5034 : Addr) (b5002 : Addr) (h0 : Heap) (n0 : Nat) (Z0 : n0 ≤ h0.size) (P0 : Fld Z h0 b2x4_14c5034 own_s0 "count" "I" (.int (0 : Int32))) :
    MetFree l own_y2 (head1 (Jvm.Cond.code own_y2 prog_4_method_9_code 5 (some .int) :: ws) ({ frames := 0, cells := 0, slots := 0, locals := 0 } : Room)) (fun a U => a = #[(.ref b2x4_14c5034), (.ref b5002)] ∧ Z.Warmed39 U.vm ∧ U.heap = h0) (fun _ _ _ _ _ => True) (fun _ U o U' => ∃ v L, o = .returned v ∧ own_Q10_61 Z b2x4_14c5034 b5002 h0 n0 v U'.heap L ∧ FrameEnd U o U' L ({ frames := 0, cells := 0, slots := 0, locals := 0 } : Room).cells ({ frames := 0, cells := 0, slots := 0, locals := 0 } : Room).slots) := by
  refine MetFree.of_bodySF (plainFor_of_name own_pn2) hisR ?_
  intro p e s m args below meth c s₁ Bd hml0 hP hK
  obtain ⟨rfl, hZ, hh⟩ := hP
  have hx := Bd.exec
  have hlk := Bd.notSynchronized
  have hret := Bd.returns
  have hby := Bd.bytes
  have hml : c.maxLocals = 5 := hml0
  have hown : s.vm.findClass own_s4 = some m.cls := findClass_of_methodNamed Bd.named
  have hnm := (name_of_methodNamed Bd.named Bd.method).1
  have X0 : Stand p l e ({ frames := 0, cells := 0, slots := 0, locals := 0 } : Room) s m #[(.ref b2x4_14c5034), (.ref b5002)] below meth c s₁ [] 0 0 := Stand.of_body Bd
  have e0 : s₁.heap = h0 := by rw [← hh, Bd.state]; rfl
  have N0 := Fr.nil n0
  refine own_open (Q := own_Q10_61 Z b2x4_14c5034 b5002 h0 n0) (own_ef10 m b2x4_14c5034 b5002) ?_
  refine own_st (fun t k => XS.iconst X0.here hx rfl (hb hby own_d10_0) (XS.istoreN X0.here hx rfl (hb hby own_d10_1) rfl (l' := #[.val (.ref b2x4_14c5034), .val (.ref b5002), .val (.int (0 : Int32)), .unset, .unset]) rfl k)) ?_
  show own_Go _ _ _ _ s₁ (mkF m 2 #[.val (.ref b2x4_14c5034), .val (.ref b5002), .val (.int (0 : Int32)), .unset, .unset] [])
  refine own_st (fun t k => XS.aloadN X0.here hx rfl (hb hby own_d10_2) rfl rfl k) ?_
  refine own_gF X0 hx hZ hown (own_w hw 78 rfl) (Via.of (own_w hw 79 rfl)) e0 P0 (hb hby own_d10_3) rfl rfl fun T1 X1 e1 => ?_
  refine own_st (fun t k => XS.istoreN X1.here hx rfl (hb hby own_d10_6) rfl (l' := #[.val (.ref b2x4_14c5034), .val (.ref b5002), .val (.int (0 : Int32)), .val (.int (0 : Int32)), .unset]) rfl k) ?_
  show own_Go _ _ _ _ T1 (mkF m 7 #[.val (.ref b2x4_14c5034), .val (.ref b5002), .val (.int (0 : Int32)), .val (.int (0 : Int32)), .unset] [])
  refine own_st (fun t k => XS.iloadN X1.here hx rfl (hb hby own_d10_7) rfl (XS.iloadN X1.here hx rfl (hb hby own_d10_8) rfl (XS.icmpYes X1.here hx rfl (pc0 := 9) (pc' := 54) rfl (hb hby own_d10_9) rfl (flt (by decide : ¬ ((0 : Int32) < (0 : Int32)))).2.1 (by decide) (by decide) k))) ?_
  show own_Go _ _ _ _ T1 (mkF m 54 #[.val (.ref b2x4_14c5034), .val (.ref b5002), .val (.int (0 : Int32)), .val (.int (0 : Int32)), .unset] [])
  refine own_st (fun t k => XS.iloadN X1.here hx rfl (hb hby own_d10_54) rfl k) ?_
  exact own_retI X1 hx hlk hret (hb hby own_d10_55) (by decide) (by decide) e1 ⟨N0, (Keep.refl h0 []), ⟨rfl, trivial⟩⟩
theorem own_pd4 : parseMethodDescriptor "(Lcom/example/lonborg/lonborg/Item;)I" = some ⟨[(.object own_s1)], some .int⟩ := by decide +kernel
theorem own_d11_0 : decode prog_1_method_7_code 0 = .ok (.aload_n 0, 1) := by decide +kernel
theorem own_d11_1 : decode prog_1_method_7_code 1 = .ok (.getfield 20, 3) := by decide +kernel
theorem own_d11_4 : decode prog_1_method_7_code 4 = .ok (.areturn, 1) := by decide +kernel
theorem own_ef11 (m : MethodId) (x0 : Addr) : entryFrame m #[(.ref x0)] 1 = mkF m 0 #[.val (.ref x0)] [] := by first | (simp [entryFrame, mkF, argsToLocals, Value.category]; done) | rfl
def own_Q11 (rp0 : Addr) (u_needs_rp0 : Addr) (h0 : Heap) (n0 : Nat) (v : Option Value) (h : Heap) (L : List Loc) : Prop := Fr n0 L ∧ h = h0 ∧ ((v = some (.ref u_needs_rp0) ∧ True))
set_option maxRecDepth 65536 in
set_option maxHeartbeats 40000000 in
theorem own_rm11 (l : Launch) (Z : State) (a0 : Array Value) (hw : ∀ d ∈ tables_1, d.before a0 Z = true) (ws : List Jvm.Cond) (rp0 : Addr) (u_needs_rp0 : Addr) (h0 : Heap) (n0 : Nat) (Z0 : n0 ≤ h0.size) (F_needs_rp0 : Fld Z h0 rp0 own_s1 "needs" "Lcom/example/lonborg/lonborg/Resources;" (.ref u_needs_rp0)) :
    MetFree l (⟨own_s1, "checkedNeeds", "()Lcom/example/lonborg/lonborg/Resources;"⟩ : MethodName) (head1 (Jvm.Cond.code (⟨own_s1, "checkedNeeds", "()Lcom/example/lonborg/lonborg/Resources;"⟩ : MethodName) prog_1_method_7_code 1 (some (.object own_s3)) :: ws) ({ frames := 0, cells := 0, slots := 0, locals := 0 } : Room)) (fun a U => a = #[(.ref rp0)] ∧ Z.Warmed39 U.vm ∧ U.heap = h0) (fun _ _ _ _ _ => True) (fun _ U o U' => ∃ v L, o = .returned v ∧ own_Q11 rp0 u_needs_rp0 h0 n0 v U'.heap L ∧ FrameEnd U o U' L ({ frames := 0, cells := 0, slots := 0, locals := 0 } : Room).cells ({ frames := 0, cells := 0, slots := 0, locals := 0 } : Room).slots) := by
  refine MetFree.of_bodySF (plainFor_of_name own_pn0) hisR ?_
  intro p e s m args below meth c s₁ Bd hml0 hP hK
  obtain ⟨rfl, hZ, hh⟩ := hP
  have hx := Bd.exec
  have hlk := Bd.notSynchronized
  have hret := Bd.returns
  have hby := Bd.bytes
  have hml : c.maxLocals = 1 := hml0
  have hown : s.vm.findClass own_s1 = some m.cls := findClass_of_methodNamed Bd.named
  have hnm := (name_of_methodNamed Bd.named Bd.method).1
  have X0 : Stand p l e ({ frames := 0, cells := 0, slots := 0, locals := 0 } : Room) s m #[(.ref rp0)] below meth c s₁ [] 0 0 := Stand.of_body Bd
  have e0 : s₁.heap = h0 := by rw [← hh, Bd.state]; rfl
  have N0 := Fr.nil n0
  refine own_open (Q := own_Q11 rp0 u_needs_rp0 h0 n0) (own_ef11 m rp0) ?_
  refine own_st (fun t k => XS.aloadN X0.here hx rfl (hb hby own_d11_0) rfl rfl k) ?_
  refine own_gF X0 hx hZ hown (own_w hw 25 rfl) Via.refl e0 F_needs_rp0 (hb hby own_d11_1) rfl rfl fun T1 X1 e1 => ?_
  show own_Go _ _ _ _ T1 (mkF m 4 #[.val (.ref rp0)] [(.ref u_needs_rp0)])
  exact own_retA X1 hx hlk hret rfl rfl (hb hby own_d11_4) (by decide) (by decide) e1 ⟨N0, rfl, ⟨rfl, trivial⟩⟩
theorem own_pd5 : parseMethodDescriptor "()Lcom/example/lonborg/lonborg/Resources;" = some ⟨[], some (.object own_s3)⟩ := by decide +kernel
theorem own_d15_0 : decode jdk_29_method_65_code 0 = .ok (.iload_n 0, 1) := by decide +kernel
theorem own_d15_1 : decode jdk_29_method_65_code 1 = .ok (.iload_n 1, 1) := by decide +kernel
theorem own_d15_2 : decode jdk_29_method_65_code 2 = .ok (.if_icmp .lt 7, 3) := by decide +kernel
theorem own_d15_5 : decode jdk_29_method_65_code 5 = .ok (.iload_n 0, 1) := by decide +kernel
theorem own_d15_6 : decode jdk_29_method_65_code 6 = .ok (.goto 4, 3) := by decide +kernel
theorem own_d15_9 : decode jdk_29_method_65_code 9 = .ok (.iload_n 1, 1) := by decide +kernel
theorem own_d15_10 : decode jdk_29_method_65_code 10 = .ok (.ireturn, 1) := by decide +kernel
theorem own_ef15 (m : MethodId) (x0 : Int32) (x1 : Int32) : entryFrame m #[(.int x0), (.int x1)] 2 = mkF m 0 #[.val (.int x0), .val (.int x1)] [] := by first | (simp [entryFrame, mkF, argsToLocals, Value.category]; done) | rfl
def own_Q15 (ip0 : Int32) (ip1 : Int32) (h0 : Heap) (n0 : Nat) (v : Option Value) (h : Heap) (L : List Loc) : Prop := Fr n0 L ∧ h = h0 ∧ ((v = some (.int ip1) ∧ (ip0 < ip1) ∧ True) ∨ (v = some (.int ip0) ∧ (¬ (ip0 < ip1)) ∧ True))
set_option maxRecDepth 65536 in
set_option maxHeartbeats 40000000 in
theorem own_rm15 (l : Launch) (Z : State) (a0 : Array Value) (hw : ∀ d ∈ tables_1, d.before a0 Z = true) (ws : List Jvm.Cond) (ip0 : Int32) (ip1 : Int32) (h0 : Heap) (n0 : Nat) (Z0 : n0 ≤ h0.size) :
    MetFree l (⟨"java/lang/Math", "max", "(II)I"⟩ : MethodName) (head1 (Jvm.Cond.code (⟨"java/lang/Math", "max", "(II)I"⟩ : MethodName) jdk_29_method_65_code 2 (some .int) :: ws) ({ frames := 0, cells := 0, slots := 0, locals := 0 } : Room)) (fun a U => a = #[(.int ip0), (.int ip1)] ∧ Z.Warmed39 U.vm ∧ U.heap = h0) (fun _ _ _ _ _ => True) (fun _ U o U' => ∃ v L, o = .returned v ∧ own_Q15 ip0 ip1 h0 n0 v U'.heap L ∧ FrameEnd U o U' L ({ frames := 0, cells := 0, slots := 0, locals := 0 } : Room).cells ({ frames := 0, cells := 0, slots := 0, locals := 0 } : Room).slots) := by
  refine MetFree.of_bodySF (Jvm.Free.JP.mathPlain rfl (by decide +kernel)) hisR ?_
  intro p e s m args below meth c s₁ Bd hml0 hP hK
  obtain ⟨rfl, hZ, hh⟩ := hP
  have hx := Bd.exec
  have hlk := Bd.notSynchronized
  have hret := Bd.returns
  have hby := Bd.bytes
  have hml : c.maxLocals = 2 := hml0
  have hown : s.vm.findClass "java/lang/Math" = some m.cls := findClass_of_methodNamed Bd.named
  have hnm := (name_of_methodNamed Bd.named Bd.method).1
  have X0 : Stand p l e ({ frames := 0, cells := 0, slots := 0, locals := 0 } : Room) s m #[(.int ip0), (.int ip1)] below meth c s₁ [] 0 0 := Stand.of_body Bd
  have e0 : s₁.heap = h0 := by rw [← hh, Bd.state]; rfl
  have N0 := Fr.nil n0
  refine own_open (Q := own_Q15 ip0 ip1 h0 n0) (own_ef15 m ip0 ip1) ?_
  refine own_st (fun t k => XS.iloadN X0.here hx rfl (hb hby own_d15_0) rfl (XS.iloadN X0.here hx rfl (hb hby own_d15_1) rfl k)) ?_
  show own_Go _ _ _ _ s₁ (mkF m 2 #[.val (.int ip0), .val (.int ip1)] [(.int ip1), (.int ip0)])
  by_cases hc1 : ip0 < ip1
  · skip
    refine own_st (fun t k => XS.icmpYes X0.here hx rfl (pc0 := 2) (pc' := 9) rfl (hb hby own_d15_2) rfl (tlt hc1).1 (by decide) (by decide) (XS.iloadN X0.here hx rfl (hb hby own_d15_9) rfl k)) ?_
    exact own_retI X0 hx hlk hret (hb hby own_d15_10) (by decide) (by decide) e0 ⟨N0, rfl, (Or.inl ⟨rfl, hc1, trivial⟩)⟩
  · skip
    refine own_st (fun t k => XS.icmpNo X0.here hx rfl (hb hby own_d15_2) rfl (flt hc1).1 k) ?_
    show own_Go _ _ _ _ s₁ (mkF m 5 #[.val (.int ip0), .val (.int ip1)] [])
    refine own_st (fun t k => XS.iloadN X0.here hx rfl (hb hby own_d15_5) rfl (XS.goto X0.here hx rfl (pc0 := 6) (pc' := 10) rfl (hb hby own_d15_6) (by decide) (by decide) k)) ?_
    exact own_retI X0 hx hlk hret (hb hby own_d15_10) (by decide) (by decide) e0 ⟨N0, rfl, (Or.inr ⟨rfl, hc1, trivial⟩)⟩
theorem own_pd6 : parseMethodDescriptor "(II)I" = some ⟨[.int, .int], some .int⟩ := by decide +kernel
theorem own_d16_0 : decode prog_8_method_1_code 0 = .ok (.aload_n 0, 1) := by decide +kernel
theorem own_d16_1 : decode prog_8_method_1_code 1 = .ok (.invokespecial 1, 3) := by decide +kernel
theorem own_d16_4 : decode prog_8_method_1_code 4 = .ok (.aload_n 0, 1) := by decide +kernel
theorem own_d16_5 : decode prog_8_method_1_code 5 = .ok (.aload_n 1, 1) := by decide +kernel
theorem own_d16_6 : decode prog_8_method_1_code 6 = .ok (.putfield 7, 3) := by decide +kernel
theorem own_d16_9 : decode prog_8_method_1_code 9 = .ok (.return_, 1) := by decide +kernel
theorem own_ef16 (m : MethodId) (x0 : Addr) (x1 : Addr) : entryFrame m #[(.ref x0), (.ref x1)] 2 = mkF m 0 #[.val (.ref x0), .val (.ref x1)] [] := by first | (simp [entryFrame, mkF, argsToLocals, Value.category]; done) | rfl
theorem own_pn4 : plainName own_s2 = true := by first | (simp [plainName, overriddenIn]; done) | decide +kernel
def own_Q16_71 (Z : State) (b6x14_69 : Addr) (b3x14_69 : Addr) (h0 : Heap) (n0 : Nat) (v : Option Value) (h : Heap) (L : List Loc) : Prop := Fr n0 L ∧ Keep h0 h [b6x14_69] ∧ ((v = none ∧ Fld Z h b6x14_69 own_s2 "parts" own_s8 (.ref b3x14_69) ∧ True))
set_option maxRecDepth 65536 in
set_option maxHeartbeats 40000000 in
theorem own_rm16_71 (l : Launch) (Z : State) (a0 : Array Value) (hw : ∀ d ∈ tables_1, d.before a0 Z = true) (ws : List Jvm.Cond) (b6x14_69 : Addr) (b3x14_69 : Addr) (h0 : Heap) (n0 : Nat) (Z0 : n0 ≤ h0.size) (P0 : Exa Z h0 b6x14_69 own_s2) (P1 : Fld Z h0 b6x14_69 own_s2 "parts" own_s8 .null) (g_b6x14_69 : n0 ≤ b6x14_69) :
    MetFree l (⟨own_s2, "<init>", "([Lcom/example/lonborg/lonborg/Resources;)V"⟩ : MethodName) (head1 (Jvm.Cond.code (⟨own_s2, "<init>", "([Lcom/example/lonborg/lonborg/Resources;)V"⟩ : MethodName) prog_8_method_1_code 2 none :: ws) ({ frames := 1, cells := 0, slots := 0, locals := 12 } : Room)) (fun a U => a = #[(.ref b6x14_69), (.ref b3x14_69)] ∧ Z.Warmed39 U.vm ∧ U.heap = h0) (fun _ _ _ _ _ => True) (fun _ U o U' => ∃ v L, o = .returned v ∧ own_Q16_71 Z b6x14_69 b3x14_69 h0 n0 v U'.heap L ∧ FrameEnd U o U' L ({ frames := 1, cells := 0, slots := 0, locals := 12 } : Room).cells ({ frames := 1, cells := 0, slots := 0, locals := 12 } : Room).slots) := by
  refine MetFree.of_bodySF (plainFor_of_name own_pn4) hisR ?_
  intro p e s m args below meth c s₁ Bd hml0 hP hK
  obtain ⟨rfl, hZ, hh⟩ := hP
  have hx := Bd.exec
  have hlk := Bd.notSynchronized
  have hret := Bd.returns
  have hby := Bd.bytes
  have hml : c.maxLocals = 2 := hml0
  have hown : s.vm.findClass own_s2 = some m.cls := findClass_of_methodNamed Bd.named
  have hnm := (name_of_methodNamed Bd.named Bd.method).1
  have X0 : Stand p l e ({ frames := 1, cells := 0, slots := 0, locals := 12 } : Room) s m #[(.ref b6x14_69), (.ref b3x14_69)] below meth c s₁ [] 0 0 := Stand.of_body Bd
  have e0 : s₁.heap = h0 := by rw [← hh, Bd.state]; rfl
  have N0 := Fr.nil n0
  refine own_open (Q := own_Q16_71 Z b6x14_69 b3x14_69 h0 n0) (own_ef16 m b6x14_69 b3x14_69) ?_
  refine own_st (fun t k => XS.aloadN X0.here hx rfl (hb hby own_d16_0) rfl rfl k) ?_
  obtain ⟨T1, X1, e1, st1⟩ := initO X0 hx hZ hown (own_w hw 118 rfl) (own_w hw 17 rfl) (own_w hw 18 rfl) e0 (g := (mkF m 1 #[.val (.ref b6x14_69), .val (.ref b3x14_69)] [(.ref b6x14_69)])) rfl (by rw [hml]; rfl) rfl (hb hby own_d16_1) (by decide) (W := 0) (by show 2 * 0 + _ ≤ _; exact Nat.le_of_eq rfl) (by decide)
  refine own_st st1 ?_
  show own_Go _ _ _ _ T1 (mkF m 4 #[.val (.ref b6x14_69), .val (.ref b3x14_69)] [])
  refine own_st (fun t k => XS.aloadN X1.here hx rfl (hb hby own_d16_4) rfl rfl (XS.aloadN X1.here hx rfl (hb hby own_d16_5) rfl rfl k)) ?_
  refine own_pF X1 hx hZ hown (own_w hw 100 rfl) Via.refl e1 P1 P0 (Or.inr ⟨(own_w hw 101 rfl), rfl, hnm⟩) (own_w hw 114 rfl) (ty := (.array (.object own_s3))) (by decide) (hb hby own_d16_6) rfl rfl rfl rfl fun T2 h2 X2 e2 W2 => ?_
  have K2 : Keep h0 h2 [b6x14_69] := (Keep.refl h0 [b6x14_69]).wr W2 (Or.inl (List.mem_of_getElem? (i := 0) rfl))
  have Z2 := Nat.le_trans Z0 (Keep.of_wr W2).1
  have N2 := Fr.snoc X2 N0 g_b6x14_69
  have F2 := P1.same W2
  show own_Go _ _ _ _ T2 (mkF m 9 #[.val (.ref b6x14_69), .val (.ref b3x14_69)] [])
  exact own_retV X2 hx hlk hret (hb hby own_d16_9) (by decide) (by decide) e2 ⟨N2, K2, ⟨rfl, F2, trivial⟩⟩
theorem own_pd7 : parseMethodDescriptor "([Lcom/example/lonborg/lonborg/Resources;)V" = some ⟨[(.array (.object own_s3))], none⟩ := by decide +kernel
theorem own_d14_0 : decode prog_8_method_5_code 0 = .ok (.aload_n 0, 1) := by decide +kernel
theorem own_d14_1 : decode prog_8_method_5_code 1 = .ok (.getfield 7, 3) := by decide +kernel
theorem own_d14_4 : decode prog_8_method_5_code 4 = .ok (.arraylength, 1) := by decide +kernel
theorem own_d14_5 : decode prog_8_method_5_code 5 = .ok (.iload_n 1, 1) := by decide +kernel
theorem own_d14_6 : decode prog_8_method_5_code 6 = .ok (.iconst 1, 1) := by decide +kernel
theorem own_d14_7 : decode prog_8_method_5_code 7 = .ok (.iadd, 1) := by decide +kernel
theorem own_d14_8 : decode prog_8_method_5_code 8 = .ok (.invokestatic 34, 3) := by decide +kernel
theorem own_d14_11 : decode prog_8_method_5_code 11 = .ok (.anewarray 14, 3) := by decide +kernel
theorem own_d14_14 : decode prog_8_method_5_code 14 = .ok (.astore_n 3, 1) := by decide +kernel
theorem own_d14_15 : decode prog_8_method_5_code 15 = .ok (.iconst 0, 1) := by decide +kernel
theorem own_d14_16 : decode prog_8_method_5_code 16 = .ok (.istore 4, 2) := by decide +kernel
theorem own_d14_18 : decode prog_8_method_5_code 18 = .ok (.iconst 0, 1) := by decide +kernel
theorem own_d14_19 : decode prog_8_method_5_code 19 = .ok (.istore 5, 2) := by decide +kernel
theorem own_d14_21 : decode prog_8_method_5_code 21 = .ok (.iload 5, 2) := by decide +kernel
theorem own_d14_23 : decode prog_8_method_5_code 23 = .ok (.aload_n 3, 1) := by decide +kernel
theorem own_d14_24 : decode prog_8_method_5_code 24 = .ok (.arraylength, 1) := by decide +kernel
theorem own_d14_25 : decode prog_8_method_5_code 25 = .ok (.if_icmp .ge 54, 3) := by decide +kernel
theorem own_d14_28 : decode prog_8_method_5_code 28 = .ok (.iload 5, 2) := by decide +kernel
theorem own_d14_30 : decode prog_8_method_5_code 30 = .ok (.iload_n 1, 1) := by decide +kernel
theorem own_d14_31 : decode prog_8_method_5_code 31 = .ok (.if_icmp .ne 14, 3) := by decide +kernel
theorem own_d14_34 : decode prog_8_method_5_code 34 = .ok (.aload_n 3, 1) := by decide +kernel
theorem own_d14_35 : decode prog_8_method_5_code 35 = .ok (.iload 4, 2) := by decide +kernel
theorem own_d14_37 : decode prog_8_method_5_code 37 = .ok (.aload_n 2, 1) := by decide +kernel
theorem own_d14_38 : decode prog_8_method_5_code 38 = .ok (.aastore, 1) := by decide +kernel
theorem own_d14_39 : decode prog_8_method_5_code 39 = .ok (.iinc 4 1, 3) := by decide +kernel
theorem own_d14_42 : decode prog_8_method_5_code 42 = .ok (.goto 31, 3) := by decide +kernel
theorem own_d14_73 : decode prog_8_method_5_code 73 = .ok (.iinc 5 1, 3) := by decide +kernel
theorem own_d14_76 : decode prog_8_method_5_code 76 = .ok (.goto (-55), 3) := by decide +kernel
theorem own_d14_79 : decode prog_8_method_5_code 79 = .ok (.new 8, 3) := by decide +kernel
theorem own_d14_82 : decode prog_8_method_5_code 82 = .ok (.dup, 1) := by decide +kernel
theorem own_d14_83 : decode prog_8_method_5_code 83 = .ok (.iload 4, 2) := by decide +kernel
theorem own_d14_85 : decode prog_8_method_5_code 85 = .ok (.aload_n 3, 1) := by decide +kernel
theorem own_d14_86 : decode prog_8_method_5_code 86 = .ok (.arraylength, 1) := by decide +kernel
theorem own_d14_87 : decode prog_8_method_5_code 87 = .ok (.if_icmp .ne 7, 3) := by decide +kernel
theorem own_d14_90 : decode prog_8_method_5_code 90 = .ok (.aload_n 3, 1) := by decide +kernel
theorem own_d14_91 : decode prog_8_method_5_code 91 = .ok (.goto 12, 3) := by decide +kernel
theorem own_d14_103 : decode prog_8_method_5_code 103 = .ok (.invokespecial 47, 3) := by decide +kernel
theorem own_d14_106 : decode prog_8_method_5_code 106 = .ok (.areturn, 1) := by decide +kernel
theorem own_ef14 (m : MethodId) (x0 : Addr) (x1 : Int32) (x2 : Addr) : entryFrame m #[(.ref x0), (.int x1), (.ref x2)] 6 = mkF m 0 #[.val (.ref x0), .val (.int x1), .val (.ref x2), .unset, .unset, .unset] [] := by first | (simp [entryFrame, mkF, argsToLocals, Value.category]; done) | rfl
def own_Q14_69 (Z : State) (w_EMPTY : Addr) (w_NONE : Addr) (w_EMPTY_parts : Addr) (k_w_EMPTY_parts : ClassId) (h0 : Heap) (n0 : Nat) (v : Option Value) (h : Heap) (L : List Loc) : Prop := Fr n0 L ∧ Keep h0 h [] ∧ ((∃ b6x14_69 : Addr, ∃ b3x14_69 : Addr, ∃ k3x14_69 : ClassId, v = some (.ref b6x14_69) ∧ ((0 : Int32) < ((0 : Int32) + (1 : Int32))) ∧ h0.size ≤ b6x14_69 ∧ h0.size ≤ b3x14_69 ∧ Exa Z h b6x14_69 own_s2 ∧ Fld Z h b6x14_69 own_s2 "parts" own_s8 (.ref b3x14_69) ∧ Arv Z h b3x14_69 k3x14_69 (.object own_s3) ((0 : Int32) + (1 : Int32)) [(.ref w_NONE)] .null ∧ Ovr Z k3x14_69 own_s3 ∧ Exa Z h b3x14_69 own_s8 ∧ True))
set_option maxRecDepth 65536 in
set_option maxHeartbeats 40000000 in
theorem own_rm14_69 (l : Launch) (Z : State) (a0 : Array Value) (hw : ∀ d ∈ tables_1, d.before a0 Z = true) (ws : List Jvm.Cond) (w_EMPTY : Addr) (w_NONE : Addr) (w_EMPTY_parts : Addr) (k_w_EMPTY_parts : ClassId) (h0 : Heap) (n0 : Nat) (Z0 : n0 ≤ h0.size) (P0 : Fld Z h0 w_EMPTY own_s2 "parts" own_s8 (.ref w_EMPTY_parts)) (P1 : Arv Z h0 w_EMPTY_parts k_w_EMPTY_parts (.object own_s3) (0 : Int32) [] .null) (P2 : Exa Z h0 w_NONE own_s3) :
    MetFree l (⟨own_s2, "replaced", "(ILcom/example/lonborg/lonborg/Resources;)Lcom/example/lonborg/lonborg/LeastNeeds;"⟩ : MethodName) (head1 (Jvm.Cond.code (⟨own_s2, "replaced", "(ILcom/example/lonborg/lonborg/Resources;)Lcom/example/lonborg/lonborg/LeastNeeds;"⟩ : MethodName) prog_8_method_5_code 6 (some (.object own_s2)) :: ws) ({ frames := 2, cells := 2, slots := 2, locals := 26 } : Room)) (fun a U => a = #[(.ref w_EMPTY), (.int (0 : Int32)), (.ref w_NONE)] ∧ Z.Warmed39 U.vm ∧ U.heap = h0) (fun _ _ _ _ _ => True) (fun _ U o U' => ∃ v L, o = .returned v ∧ own_Q14_69 Z w_EMPTY w_NONE w_EMPTY_parts k_w_EMPTY_parts h0 n0 v U'.heap L ∧ FrameEnd U o U' L ({ frames := 2, cells := 2, slots := 2, locals := 26 } : Room).cells ({ frames := 2, cells := 2, slots := 2, locals := 26 } : Room).slots) := by
  refine MetFree.of_bodySF (plainFor_of_name own_pn4) hisR ?_
  intro p e s m args below meth c s₁ Bd hml0 hP hK
  obtain ⟨rfl, hZ, hh⟩ := hP
  have hx := Bd.exec
  have hlk := Bd.notSynchronized
  have hret := Bd.returns
  have hby := Bd.bytes
  have hml : c.maxLocals = 6 := hml0
  have hown : s.vm.findClass own_s2 = some m.cls := findClass_of_methodNamed Bd.named
  have hnm := (name_of_methodNamed Bd.named Bd.method).1
  have X0 : Stand p l e ({ frames := 2, cells := 2, slots := 2, locals := 26 } : Room) s m #[(.ref w_EMPTY), (.int (0 : Int32)), (.ref w_NONE)] below meth c s₁ [] 0 0 := Stand.of_body Bd
  have e0 : s₁.heap = h0 := by rw [← hh, Bd.state]; rfl
  have N0 := Fr.nil n0
  refine own_open (Q := own_Q14_69 Z w_EMPTY w_NONE w_EMPTY_parts k_w_EMPTY_parts h0 n0) (own_ef14 m w_EMPTY (0 : Int32) w_NONE) ?_
  refine own_st (fun t k => XS.aloadN X0.here hx rfl (hb hby own_d14_0) rfl rfl k) ?_
  refine own_gF X0 hx hZ hown (own_w hw 100 rfl) Via.refl e0 P0 (hb hby own_d14_1) rfl rfl fun T1 X1 e1 => ?_
  show own_Go _ _ _ _ T1 (mkF m 4 #[.val (.ref w_EMPTY), .val (.int (0 : Int32)), .val (.ref w_NONE), .unset, .unset, .unset] [(.ref w_EMPTY_parts)])
  refine own_st (own_alen X1 hx hZ e1 P1 (g := (mkF m 4 #[.val (.ref w_EMPTY), .val (.int (0 : Int32)), .val (.ref w_NONE), .unset, .unset, .unset] [(.ref w_EMPTY_parts)])) rfl rfl (hb hby own_d14_4)) ?_
  refine own_st (fun t k => XS.iloadN X1.here hx rfl (hb hby own_d14_5) rfl (XS.iconst X1.here hx rfl (hb hby own_d14_6) k)) ?_
  show own_Go _ _ _ _ T1 (mkF m 7 #[.val (.ref w_EMPTY), .val (.int (0 : Int32)), .val (.ref w_NONE), .unset, .unset, .unset] [(.int (1 : Int32)), (.int (0 : Int32)), (.int (0 : Int32))])
  refine own_st (fun t k => XS.iadd X1.here hx rfl (hb hby own_d14_7) rfl k) ?_
  refine own_cS X1 hx hZ hown (own_w hw 106 rfl) (own_w hw 107 rfl) (own_w hw 108 rfl) (own_w hw 109 rfl) [(.int (0 : Int32)), (.int ((0 : Int32) + (1 : Int32)))] [] (own_rm15 l Z a0 hw [] (0 : Int32) ((0 : Int32) + (1 : Int32)) h0 n0 Z0 ) 0 (hb hby own_d14_8) (by rw [hml]; rfl) (lenOf own_pd6 rfl) e1 rfl rfl (by show 2 * 0 + _ ≤ _; exact Nat.le_of_eq rfl) (by decide) (by decide) (by decide) (by decide) (by decide) fun v2 T2 L2 X2 hQ2 => ?_
  obtain ⟨N2q, e2, hL2⟩ := hQ2
  have N2 := Fr.app N0 N2q
  rcases hL2 with ⟨rfl, hq2_0_0, -⟩ | ⟨rfl, hq2_1_0, -⟩
  · skip
    obtain ⟨T3, h3, k3x14_69, X3, e3, E3, A3, Ex3, O3, st3⟩ := newRE X2 hx hZ hown (own_w hw 110 rfl) (own_w hw 111 rfl) e2 (g := (mkF m 11 #[.val (.ref w_EMPTY), .val (.int (0 : Int32)), .val (.ref w_NONE), .unset, .unset, .unset] [(.int ((0 : Int32) + (1 : Int32)))])) rfl (hb hby own_d14_11) rfl (by decide) (cap := 1) (by decide) (by decide) (by decide) (by decide) (ad := own_s8) (by decide +kernel)
    obtain ⟨b3x14_69, g3⟩ : ∃ z, z = h0.size := ⟨_, rfl⟩
    rw [← g3] at A3 Ex3 st3
    have g_b3x14_69 : n0 ≤ b3x14_69 := Nat.le_trans Z0 (Nat.le_of_eq g3.symm)
    have sz_b3x14_69 : h0.size ≤ b3x14_69 := Nat.le_trans (Keep.refl h0 []).1 (Nat.le_of_eq g3.symm)
    refine own_st st3 ?_
    have K3 : Keep h0 h3 [] := (Keep.refl h0 []).ext E3
    have Z3 := Nat.le_trans Z0 E3.1
    have V3 : Arv Z h3 b3x14_69 k3x14_69 (.object own_s3) ((0 : Int32) + (1 : Int32)) [.null] .null := (Arv.new A3 (by decide)).pad (pad_rep [] .null 1)
    show own_Go _ _ _ _ T3 (mkF m 14 #[.val (.ref w_EMPTY), .val (.int (0 : Int32)), .val (.ref w_NONE), .unset, .unset, .unset] [(.ref b3x14_69)])
    refine own_st (fun t k => XS.astoreN X3.here hx rfl (hb hby own_d14_14) rfl rfl (l' := #[.val (.ref w_EMPTY), .val (.int (0 : Int32)), .val (.ref w_NONE), .val (.ref b3x14_69), .unset, .unset]) rfl (XS.iconst X3.here hx rfl (hb hby own_d14_15) (XS.istore X3.here hx rfl (hb hby own_d14_16) rfl (l' := #[.val (.ref w_EMPTY), .val (.int (0 : Int32)), .val (.ref w_NONE), .val (.ref b3x14_69), .val (.int (0 : Int32)), .unset]) rfl k))) ?_
    show own_Go _ _ _ _ T3 (mkF m 18 #[.val (.ref w_EMPTY), .val (.int (0 : Int32)), .val (.ref w_NONE), .val (.ref b3x14_69), .val (.int (0 : Int32)), .unset] [])
    refine own_st (fun t k => XS.iconst X3.here hx rfl (hb hby own_d14_18) (XS.istore X3.here hx rfl (hb hby own_d14_19) rfl (l' := #[.val (.ref w_EMPTY), .val (.int (0 : Int32)), .val (.ref w_NONE), .val (.ref b3x14_69), .val (.int (0 : Int32)), .val (.int (0 : Int32))]) rfl (XS.iload X3.here hx rfl (hb hby own_d14_21) rfl k))) ?_
    show own_Go _ _ _ _ T3 (mkF m 23 #[.val (.ref w_EMPTY), .val (.int (0 : Int32)), .val (.ref w_NONE), .val (.ref b3x14_69), .val (.int (0 : Int32)), .val (.int (0 : Int32))] [(.int (0 : Int32))])
    refine own_st (fun t k => XS.aloadN X3.here hx rfl (hb hby own_d14_23) rfl rfl k) ?_
    refine own_st (own_alen X3 hx hZ e3 V3 (g := (mkF m 24 #[.val (.ref w_EMPTY), .val (.int (0 : Int32)), .val (.ref w_NONE), .val (.ref b3x14_69), .val (.int (0 : Int32)), .val (.int (0 : Int32))] [(.ref b3x14_69), (.int (0 : Int32))])) rfl rfl (hb hby own_d14_24)) ?_
    refine own_st (fun t k => XS.icmpNo X3.here hx rfl (hb hby own_d14_25) rfl (tlt hq2_0_0).2.1 k) ?_
    show own_Go _ _ _ _ T3 (mkF m 28 #[.val (.ref w_EMPTY), .val (.int (0 : Int32)), .val (.ref w_NONE), .val (.ref b3x14_69), .val (.int (0 : Int32)), .val (.int (0 : Int32))] [])
    refine own_st (fun t k => XS.iload X3.here hx rfl (hb hby own_d14_28) rfl (XS.iloadN X3.here hx rfl (hb hby own_d14_30) rfl (XS.icmpNo X3.here hx rfl (hb hby own_d14_31) rfl (teq (by decide : (0 : Int32) = (0 : Int32))).2 k))) ?_
    show own_Go _ _ _ _ T3 (mkF m 34 #[.val (.ref w_EMPTY), .val (.int (0 : Int32)), .val (.ref w_NONE), .val (.ref b3x14_69), .val (.int (0 : Int32)), .val (.int (0 : Int32))] [])
    refine own_st (fun t k => XS.aloadN X3.here hx rfl (hb hby own_d14_34) rfl rfl (XS.iload X3.here hx rfl (hb hby own_d14_35) rfl (XS.aloadN X3.here hx rfl (hb hby own_d14_37) rfl rfl k))) ?_
    show own_Go _ _ _ _ T3 (mkF m 38 #[.val (.ref w_EMPTY), .val (.int (0 : Int32)), .val (.ref w_NONE), .val (.ref b3x14_69), .val (.int (0 : Int32)), .val (.int (0 : Int32))] [(.ref w_NONE), (.int (0 : Int32)), (.ref b3x14_69)])
    obtain ⟨c4, A4, q4, S4, M4, H4, G4⟩ := V3
    have f5 := (P2.ext E3)
    obtain ⟨T4, h4, X4, e4, W4, st4⟩ := stR X3 hx hZ e3 A4 (j := (0 : Int32)) (inb_of S4 ⟨by decide, by decide⟩) rfl (Sto.ofV A4 q4 O3 (Ins.self f5)) (g := (mkF m 38 #[.val (.ref w_EMPTY), .val (.int (0 : Int32)), .val (.ref w_NONE), .val (.ref b3x14_69), .val (.int (0 : Int32)), .val (.int (0 : Int32))] [(.ref w_NONE), (.int (0 : Int32)), (.ref b3x14_69)])) rfl rfl (hb hby own_d14_38)
    refine own_st st4 ?_
    have K4 : Keep h0 h4 [] := K3.wr W4 (Or.inr sz_b3x14_69)
    have Z4 := Nat.le_trans Z3 (Keep.of_wr W4).1
    have N4 := Fr.snoc X4 N2 g_b3x14_69
    have V4 : Arv Z h4 b3x14_69 k3x14_69 (.object own_s3) ((0 : Int32) + (1 : Int32)) [(.ref w_NONE)] .null := Arv.set A4 q4 S4 M4 H4 G4 rfl W4 0 rfl (Nat.le_of_ble_eq_true rfl)
    refine own_st (fun t k => XS.iinc X4.here hx rfl (hb hby own_d14_39) rfl (l' := #[.val (.ref w_EMPTY), .val (.int (0 : Int32)), .val (.ref w_NONE), .val (.ref b3x14_69), .val (.int ((0 : Int32) + (1 : Int32))), .val (.int (0 : Int32))]) rfl (XS.goto X4.here hx rfl (pc0 := 42) (pc' := 73) rfl (hb hby own_d14_42) (by decide) (by decide) k)) ?_
    show own_Go _ _ _ _ T4 (mkF m 73 #[.val (.ref w_EMPTY), .val (.int (0 : Int32)), .val (.ref w_NONE), .val (.ref b3x14_69), .val (.int ((0 : Int32) + (1 : Int32))), .val (.int (0 : Int32))] [])
    refine own_st (fun t k => XS.iinc X4.here hx rfl (hb hby own_d14_73) rfl (l' := #[.val (.ref w_EMPTY), .val (.int (0 : Int32)), .val (.ref w_NONE), .val (.ref b3x14_69), .val (.int ((0 : Int32) + (1 : Int32))), .val (.int ((0 : Int32) + (1 : Int32)))]) rfl (XS.goto X4.here hx rfl (pc0 := 76) (pc' := 21) rfl (hb hby own_d14_76) (by decide) (by decide) (XS.iload X4.here hx rfl (hb hby own_d14_21) rfl k))) ?_
    show own_Go _ _ _ _ T4 (mkF m 23 #[.val (.ref w_EMPTY), .val (.int (0 : Int32)), .val (.ref w_NONE), .val (.ref b3x14_69), .val (.int ((0 : Int32) + (1 : Int32))), .val (.int ((0 : Int32) + (1 : Int32)))] [(.int ((0 : Int32) + (1 : Int32)))])
    refine own_st (fun t k => XS.aloadN X4.here hx rfl (hb hby own_d14_23) rfl rfl k) ?_
    refine own_st (own_alen X4 hx hZ e4 V4 (g := (mkF m 24 #[.val (.ref w_EMPTY), .val (.int (0 : Int32)), .val (.ref w_NONE), .val (.ref b3x14_69), .val (.int ((0 : Int32) + (1 : Int32))), .val (.int ((0 : Int32) + (1 : Int32)))] [(.ref b3x14_69), (.int ((0 : Int32) + (1 : Int32)))])) rfl rfl (hb hby own_d14_24)) ?_
    refine own_st (fun t k => XS.icmpYes X4.here hx rfl (pc0 := 25) (pc' := 79) rfl (hb hby own_d14_25) rfl (flt (by decide : ¬ (((0 : Int32) + (1 : Int32)) < ((0 : Int32) + (1 : Int32))))).2.1 (by decide) (by decide) k) ?_
    show own_Go _ _ _ _ T4 (mkF m 79 #[.val (.ref w_EMPTY), .val (.int (0 : Int32)), .val (.ref w_NONE), .val (.ref b3x14_69), .val (.int ((0 : Int32) + (1 : Int32))), .val (.int ((0 : Int32) + (1 : Int32)))] [])
    obtain ⟨T6, h6, X6, e6, E6, A6, D6, -, st6⟩ := newO X4 hx hZ hown (own_w hw 113 rfl) (own_w hw 114 rfl) (own_w hw 48 rfl) e4 (g := (mkF m 79 #[.val (.ref w_EMPTY), .val (.int (0 : Int32)), .val (.ref w_NONE), .val (.ref b3x14_69), .val (.int ((0 : Int32) + (1 : Int32))), .val (.int ((0 : Int32) + (1 : Int32)))] [])) rfl (hb hby own_d14_79) (by decide) (by decide)
    obtain ⟨b6x14_69, g6⟩ : ∃ z, z = h4.size := ⟨_, rfl⟩
    rw [← g6] at A6 D6 st6
    have g_b6x14_69 : n0 ≤ b6x14_69 := Nat.le_trans Z4 (Nat.le_of_eq g6.symm)
    have sz_b6x14_69 : h0.size ≤ b6x14_69 := Nat.le_trans K4.1 (Nat.le_of_eq g6.symm)
    refine own_st st6 ?_
    have K6 : Keep h0 h6 [] := K4.ext E6
    have Z6 := Nat.le_trans Z4 E6.1
    have F6_101 : Fld Z h6 b6x14_69 own_s2 "parts" own_s8 .null := D6 (Or.inr (own_w hw 101 rfl)) (ty := (.array (.object own_s3))) (by decide)
    refine own_st (fun t k => XS.dup X6.here hx rfl (hb hby own_d14_82) rfl rfl (XS.iload X6.here hx rfl (hb hby own_d14_83) rfl k)) ?_
    show own_Go _ _ _ _ T6 (mkF m 85 #[.val (.ref w_EMPTY), .val (.int (0 : Int32)), .val (.ref w_NONE), .val (.ref b3x14_69), .val (.int ((0 : Int32) + (1 : Int32))), .val (.int ((0 : Int32) + (1 : Int32)))] [(.int ((0 : Int32) + (1 : Int32))), (.ref b6x14_69), (.ref b6x14_69)])
    refine own_st (fun t k => XS.aloadN X6.here hx rfl (hb hby own_d14_85) rfl rfl k) ?_
    have f7 := (V4.ext E6)
    refine own_st (own_alen X6 hx hZ e6 f7 (g := (mkF m 86 #[.val (.ref w_EMPTY), .val (.int (0 : Int32)), .val (.ref w_NONE), .val (.ref b3x14_69), .val (.int ((0 : Int32) + (1 : Int32))), .val (.int ((0 : Int32) + (1 : Int32)))] [(.ref b3x14_69), (.int ((0 : Int32) + (1 : Int32))), (.ref b6x14_69), (.ref b6x14_69)])) rfl rfl (hb hby own_d14_86)) ?_
    refine own_st (fun t k => XS.icmpNo X6.here hx rfl (hb hby own_d14_87) rfl (teq (by decide : ((0 : Int32) + (1 : Int32)) = ((0 : Int32) + (1 : Int32)))).2 k) ?_
    show own_Go _ _ _ _ T6 (mkF m 90 #[.val (.ref w_EMPTY), .val (.int (0 : Int32)), .val (.ref w_NONE), .val (.ref b3x14_69), .val (.int ((0 : Int32) + (1 : Int32))), .val (.int ((0 : Int32) + (1 : Int32)))] [(.ref b6x14_69), (.ref b6x14_69)])
    refine own_st (fun t k => XS.aloadN X6.here hx rfl (hb hby own_d14_90) rfl rfl (XS.goto X6.here hx rfl (pc0 := 91) (pc' := 103) rfl (hb hby own_d14_91) (by decide) (by decide) k)) ?_
    refine own_cI (a := b6x14_69) X6 hx hZ hown (own_w hw 115 rfl) (own_w hw 116 rfl) (own_w hw 48 rfl) (own_w hw 117 rfl) [(.ref b3x14_69)] [(.ref b6x14_69)] (own_rm16_71 l Z a0 hw [] b6x14_69 b3x14_69 h6 n0 Z6 A6 F6_101 g_b6x14_69) 1 (hb hby own_d14_103) (by rw [hml]; rfl) (lenOf own_pd7 rfl) e6 rfl rfl (by show 2 * 0 + _ ≤ _; exact Nat.le_of_eq rfl) (by decide) (by decide) (by decide) rfl (by decide) (by decide) fun v8 T8 L8 X8 hQ8 => ?_
    obtain ⟨N8q, Kq8, hL8⟩ := hQ8
    have N8 := Fr.app N4 N8q
    have K8 : Keep h0 T8.heap [] := K6.trans Kq8 (allS (Or.inr sz_b6x14_69) all0)
    have Z8 := Nat.le_trans Z6 Kq8.1
    rcases hL8 with ⟨rfl, Fc8_0_0, -⟩
    · skip
      show own_Go _ _ _ _ T8 (mkF m 106 #[.val (.ref w_EMPTY), .val (.int (0 : Int32)), .val (.ref w_NONE), .val (.ref b3x14_69), .val (.int ((0 : Int32) + (1 : Int32))), .val (.int ((0 : Int32) + (1 : Int32)))] [(.ref b6x14_69)])
      have f9 := (A6.keep Kq8)
      have ne10 : b3x14_69 ≠ b6x14_69 := Nat.ne_of_lt (Nat.lt_of_lt_of_le V4.lt (Nat.le_of_eq g6.symm))
      have f11 := (f7.keep Kq8 (ninS ne10 nin0))
      have f12 := (((Ex3.wr W4).ext E6).keep Kq8)
      exact own_retA X8 hx hlk hret rfl rfl (hb hby own_d14_106) (by decide) (by decide) rfl ⟨N8, K8, ⟨b6x14_69, b3x14_69, _, rfl, hq2_0_0, sz_b6x14_69, sz_b3x14_69, f9, Fc8_0_0, f11, O3, f12, trivial⟩⟩
  · skip
    exact absurd (by decide : (0 : Int32) < ((0 : Int32) + (1 : Int32))) hq2_1_0
theorem own_pd8 : parseMethodDescriptor "(ILcom/example/lonborg/lonborg/Resources;)Lcom/example/lonborg/lonborg/LeastNeeds;" = some ⟨[.int, (.object own_s3)], some (.object own_s2)⟩ := by decide +kernel
theorem own_d13_0 : decode prog_8_method_3_code 0 = .ok (.aload_n 0, 1) := by decide +kernel
theorem own_d13_1 : decode prog_8_method_3_code 1 = .ok (.getfield 7, 3) := by decide +kernel
theorem own_d13_4 : decode prog_8_method_3_code 4 = .ok (.arraylength, 1) := by decide +kernel
theorem own_d13_5 : decode prog_8_method_3_code 5 = .ok (.istore_n 2, 1) := by decide +kernel
theorem own_d13_6 : decode prog_8_method_3_code 6 = .ok (.iconst 0, 1) := by decide +kernel
theorem own_d13_7 : decode prog_8_method_3_code 7 = .ok (.istore_n 3, 1) := by decide +kernel
theorem own_d13_8 : decode prog_8_method_3_code 8 = .ok (.iload_n 3, 1) := by decide +kernel
theorem own_d13_9 : decode prog_8_method_3_code 9 = .ok (.aload_n 0, 1) := by decide +kernel
theorem own_d13_10 : decode prog_8_method_3_code 10 = .ok (.getfield 7, 3) := by decide +kernel
theorem own_d13_13 : decode prog_8_method_3_code 13 = .ok (.arraylength, 1) := by decide +kernel
theorem own_d13_14 : decode prog_8_method_3_code 14 = .ok (.if_icmp .ge 39, 3) := by decide +kernel
theorem own_d13_53 : decode prog_8_method_3_code 53 = .ok (.iload_n 2, 1) := by decide +kernel
theorem own_d13_54 : decode prog_8_method_3_code 54 = .ok (.iconst 4, 1) := by decide +kernel
theorem own_d13_55 : decode prog_8_method_3_code 55 = .ok (.if_icmp .ne 5, 3) := by decide +kernel
theorem own_d13_60 : decode prog_8_method_3_code 60 = .ok (.iload_n 2, 1) := by decide +kernel
theorem own_d13_61 : decode prog_8_method_3_code 61 = .ok (.aload_n 0, 1) := by decide +kernel
theorem own_d13_62 : decode prog_8_method_3_code 62 = .ok (.getfield 7, 3) := by decide +kernel
theorem own_d13_65 : decode prog_8_method_3_code 65 = .ok (.arraylength, 1) := by decide +kernel
theorem own_d13_66 : decode prog_8_method_3_code 66 = .ok (.if_icmp .ge 16, 3) := by decide +kernel
theorem own_d13_82 : decode prog_8_method_3_code 82 = .ok (.aload_n 1, 1) := by decide +kernel
theorem own_d13_83 : decode prog_8_method_3_code 83 = .ok (.astore_n 3, 1) := by decide +kernel
theorem own_d13_84 : decode prog_8_method_3_code 84 = .ok (.aload_n 0, 1) := by decide +kernel
theorem own_d13_85 : decode prog_8_method_3_code 85 = .ok (.iload_n 2, 1) := by decide +kernel
theorem own_d13_86 : decode prog_8_method_3_code 86 = .ok (.aload_n 3, 1) := by decide +kernel
theorem own_d13_87 : decode prog_8_method_3_code 87 = .ok (.invokevirtual 26, 3) := by decide +kernel
theorem own_d13_90 : decode prog_8_method_3_code 90 = .ok (.areturn, 1) := by decide +kernel
theorem own_ef13 (m : MethodId) (x0 : Addr) (x1 : Addr) : entryFrame m #[(.ref x0), (.ref x1)] 4 = mkF m 0 #[.val (.ref x0), .val (.ref x1), .unset, .unset] [] := by first | (simp [entryFrame, mkF, argsToLocals, Value.category]; done) | rfl
def own_Q13_68 (Z : State) (w_EMPTY : Addr) (w_NONE : Addr) (w_EMPTY_parts : Addr) (k_w_EMPTY_parts : ClassId) (h0 : Heap) (n0 : Nat) (v : Option Value) (h : Heap) (L : List Loc) : Prop := Fr n0 L ∧ Keep h0 h [] ∧ ((∃ b6x14_69c4 : Addr, ∃ b3x14_69c4 : Addr, ∃ k3x14_69c4 : ClassId, v = some (.ref b6x14_69c4) ∧ ((0 : Int32) < ((0 : Int32) + (1 : Int32))) ∧ h0.size ≤ b6x14_69c4 ∧ h0.size ≤ b3x14_69c4 ∧ Exa Z h b6x14_69c4 own_s2 ∧ Fld Z h b6x14_69c4 own_s2 "parts" own_s8 (.ref b3x14_69c4) ∧ Arv Z h b3x14_69c4 k3x14_69c4 (.object own_s3) ((0 : Int32) + (1 : Int32)) [(.ref w_NONE)] .null ∧ Ovr Z k3x14_69c4 own_s3 ∧ Exa Z h b3x14_69c4 own_s8 ∧ True))
set_option maxRecDepth 65536 in
set_option maxHeartbeats 40000000 in
theorem own_rm13_68 (l : Launch) (Z : State) (a0 : Array Value) (hw : ∀ d ∈ tables_1, d.before a0 Z = true) (ws : List Jvm.Cond) (w_EMPTY : Addr) (w_NONE : Addr) (w_EMPTY_parts : Addr) (k_w_EMPTY_parts : ClassId) (h0 : Heap) (n0 : Nat) (Z0 : n0 ≤ h0.size) (P0 : Fld Z h0 w_EMPTY own_s2 "parts" own_s8 (.ref w_EMPTY_parts)) (P1 : Arv Z h0 w_EMPTY_parts k_w_EMPTY_parts (.object own_s3) (0 : Int32) [] .null) (P2 : Exa Z h0 w_NONE own_s3) (P3 : Exa Z h0 w_EMPTY own_s2) :
    MetFree l own_y1 (head1 (Jvm.Cond.code own_y1 prog_8_method_3_code 4 (some (.object own_s2)) :: ws) ({ frames := 3, cells := 2, slots := 2, locals := 43 } : Room)) (fun a U => a = #[(.ref w_EMPTY), (.ref w_NONE)] ∧ Z.Warmed39 U.vm ∧ U.heap = h0) (fun _ _ _ _ _ => True) (fun _ U o U' => ∃ v L, o = .returned v ∧ own_Q13_68 Z w_EMPTY w_NONE w_EMPTY_parts k_w_EMPTY_parts h0 n0 v U'.heap L ∧ FrameEnd U o U' L ({ frames := 3, cells := 2, slots := 2, locals := 43 } : Room).cells ({ frames := 3, cells := 2, slots := 2, locals := 43 } : Room).slots) := by
  refine MetFree.of_bodySF (plainFor_of_name own_pn4) hisR ?_
  intro p e s m args below meth c s₁ Bd hml0 hP hK
  obtain ⟨rfl, hZ, hh⟩ := hP
  have hx := Bd.exec
  have hlk := Bd.notSynchronized
  have hret := Bd.returns
  have hby := Bd.bytes
  have hml : c.maxLocals = 4 := hml0
  have hown : s.vm.findClass own_s2 = some m.cls := findClass_of_methodNamed Bd.named
  have hnm := (name_of_methodNamed Bd.named Bd.method).1
  have X0 : Stand p l e ({ frames := 3, cells := 2, slots := 2, locals := 43 } : Room) s m #[(.ref w_EMPTY), (.ref w_NONE)] below meth c s₁ [] 0 0 := Stand.of_body Bd
  have e0 : s₁.heap = h0 := by rw [← hh, Bd.state]; rfl
  have N0 := Fr.nil n0
  refine own_open (Q := own_Q13_68 Z w_EMPTY w_NONE w_EMPTY_parts k_w_EMPTY_parts h0 n0) (own_ef13 m w_EMPTY w_NONE) ?_
  refine own_st (fun t k => XS.aloadN X0.here hx rfl (hb hby own_d13_0) rfl rfl k) ?_
  refine own_gF X0 hx hZ hown (own_w hw 100 rfl) Via.refl e0 P0 (hb hby own_d13_1) rfl rfl fun T1 X1 e1 => ?_
  show own_Go _ _ _ _ T1 (mkF m 4 #[.val (.ref w_EMPTY), .val (.ref w_NONE), .unset, .unset] [(.ref w_EMPTY_parts)])
  refine own_st (own_alen X1 hx hZ e1 P1 (g := (mkF m 4 #[.val (.ref w_EMPTY), .val (.ref w_NONE), .unset, .unset] [(.ref w_EMPTY_parts)])) rfl rfl (hb hby own_d13_4)) ?_
  refine own_st (fun t k => XS.istoreN X1.here hx rfl (hb hby own_d13_5) rfl (l' := #[.val (.ref w_EMPTY), .val (.ref w_NONE), .val (.int (0 : Int32)), .unset]) rfl (XS.iconst X1.here hx rfl (hb hby own_d13_6) k)) ?_
  show own_Go _ _ _ _ T1 (mkF m 7 #[.val (.ref w_EMPTY), .val (.ref w_NONE), .val (.int (0 : Int32)), .unset] [(.int (0 : Int32))])
  refine own_st (fun t k => XS.istoreN X1.here hx rfl (hb hby own_d13_7) rfl (l' := #[.val (.ref w_EMPTY), .val (.ref w_NONE), .val (.int (0 : Int32)), .val (.int (0 : Int32))]) rfl (XS.iloadN X1.here hx rfl (hb hby own_d13_8) rfl (XS.aloadN X1.here hx rfl (hb hby own_d13_9) rfl rfl k))) ?_
  show own_Go _ _ _ _ T1 (mkF m 10 #[.val (.ref w_EMPTY), .val (.ref w_NONE), .val (.int (0 : Int32)), .val (.int (0 : Int32))] [(.ref w_EMPTY), (.int (0 : Int32))])
  refine own_gF X1 hx hZ hown (own_w hw 100 rfl) Via.refl e1 P0 (hb hby own_d13_10) rfl rfl fun T2 X2 e2 => ?_
  refine own_st (own_alen X2 hx hZ e2 P1 (g := (mkF m 13 #[.val (.ref w_EMPTY), .val (.ref w_NONE), .val (.int (0 : Int32)), .val (.int (0 : Int32))] [(.ref w_EMPTY_parts), (.int (0 : Int32))])) rfl rfl (hb hby own_d13_13)) ?_
  refine own_st (fun t k => XS.icmpYes X2.here hx rfl (pc0 := 14) (pc' := 53) rfl (hb hby own_d13_14) rfl (flt (by decide : ¬ ((0 : Int32) < (0 : Int32)))).2.1 (by decide) (by decide) k) ?_
  show own_Go _ _ _ _ T2 (mkF m 53 #[.val (.ref w_EMPTY), .val (.ref w_NONE), .val (.int (0 : Int32)), .val (.int (0 : Int32))] [])
  refine own_st (fun t k => XS.iloadN X2.here hx rfl (hb hby own_d13_53) rfl (XS.iconst X2.here hx rfl (hb hby own_d13_54) (XS.icmpYes X2.here hx rfl (pc0 := 55) (pc' := 60) rfl (hb hby own_d13_55) rfl (feq (by decide : ¬ ((0 : Int32) = (4 : Int32)))).2 (by decide) (by decide) k))) ?_
  show own_Go _ _ _ _ T2 (mkF m 60 #[.val (.ref w_EMPTY), .val (.ref w_NONE), .val (.int (0 : Int32)), .val (.int (0 : Int32))] [])
  refine own_st (fun t k => XS.iloadN X2.here hx rfl (hb hby own_d13_60) rfl (XS.aloadN X2.here hx rfl (hb hby own_d13_61) rfl rfl k)) ?_
  refine own_gF X2 hx hZ hown (own_w hw 100 rfl) Via.refl e2 P0 (hb hby own_d13_62) rfl rfl fun T3 X3 e3 => ?_
  show own_Go _ _ _ _ T3 (mkF m 65 #[.val (.ref w_EMPTY), .val (.ref w_NONE), .val (.int (0 : Int32)), .val (.int (0 : Int32))] [(.ref w_EMPTY_parts), (.int (0 : Int32))])
  refine own_st (own_alen X3 hx hZ e3 P1 (g := (mkF m 65 #[.val (.ref w_EMPTY), .val (.ref w_NONE), .val (.int (0 : Int32)), .val (.int (0 : Int32))] [(.ref w_EMPTY_parts), (.int (0 : Int32))])) rfl rfl (hb hby own_d13_65)) ?_
  refine own_st (fun t k => XS.icmpYes X3.here hx rfl (pc0 := 66) (pc' := 82) rfl (hb hby own_d13_66) rfl (flt (by decide : ¬ ((0 : Int32) < (0 : Int32)))).2.1 (by decide) (by decide) (XS.aloadN X3.here hx rfl (hb hby own_d13_82) rfl rfl k)) ?_
  show own_Go _ _ _ _ T3 (mkF m 83 #[.val (.ref w_EMPTY), .val (.ref w_NONE), .val (.int (0 : Int32)), .val (.int (0 : Int32))] [(.ref w_NONE)])
  refine own_st (fun t k => XS.astoreN X3.here hx rfl (hb hby own_d13_83) rfl rfl (l' := #[.val (.ref w_EMPTY), .val (.ref w_NONE), .val (.int (0 : Int32)), .val (.ref w_NONE)]) rfl (XS.aloadN X3.here hx rfl (hb hby own_d13_84) rfl rfl (XS.iloadN X3.here hx rfl (hb hby own_d13_85) rfl k))) ?_
  show own_Go _ _ _ _ T3 (mkF m 86 #[.val (.ref w_EMPTY), .val (.ref w_NONE), .val (.int (0 : Int32)), .val (.ref w_NONE)] [(.int (0 : Int32)), (.ref w_EMPTY)])
  refine own_st (fun t k => XS.aloadN X3.here hx rfl (hb hby own_d13_86) rfl rfl k) ?_
  refine own_cP (a := w_EMPTY) X3 hx hZ hown (own_w hw 102 rfl) (own_w hw 104 rfl) (own_w hw 114 rfl) (own_w hw 103 rfl) (own_w hw 48 rfl) (own_w hw 105 rfl) [(.int (0 : Int32)), (.ref w_NONE)] [] P3 (own_rm14_69 l Z a0 hw [] w_EMPTY w_NONE w_EMPTY_parts k_w_EMPTY_parts h0 n0 Z0 P0 P1 P2) 0 (hb hby own_d13_87) (by rw [hml]; rfl) (lenOf own_pd8 rfl) e3 rfl rfl (by show 2 * 0 + _ ≤ _; exact Nat.le_of_eq rfl) (by decide) (by decide) (by decide) (by decide) (by decide) fun v4 T4 L4 X4 hQ4 => ?_
  obtain ⟨N4q, Kq4, hL4⟩ := hQ4
  have N4 := Fr.app N0 N4q
  have K4 : Keep h0 T4.heap [] := (Keep.refl h0 []).trans Kq4 all0
  have Z4 := Nat.le_trans Z0 Kq4.1
  rcases hL4 with ⟨b6x14_69c4, b3x14_69c4, k3x14_69c4, rfl, hq4_0_0, sq_b6x14_69c4, sq_b3x14_69c4, Fc4_0_0, Fc4_0_1, Fc4_0_2, OFc4_0_2, Fc4_0_3, -⟩
  · skip
    have g_b6x14_69c4 : n0 ≤ b6x14_69c4 := Nat.le_trans Z0 sq_b6x14_69c4
    have sz_b6x14_69c4 : h0.size ≤ b6x14_69c4 := Nat.le_trans (Keep.refl h0 []).1 sq_b6x14_69c4
    have g_b3x14_69c4 : n0 ≤ b3x14_69c4 := Nat.le_trans Z0 sq_b3x14_69c4
    have sz_b3x14_69c4 : h0.size ≤ b3x14_69c4 := Nat.le_trans (Keep.refl h0 []).1 sq_b3x14_69c4
    exact own_retA X4 hx hlk hret rfl rfl (hb hby own_d13_90) (by decide) (by decide) rfl ⟨N4, K4, ⟨b6x14_69c4, b3x14_69c4, _, rfl, hq4_0_0, sz_b6x14_69c4, sz_b3x14_69c4, Fc4_0_0, Fc4_0_1, Fc4_0_2, OFc4_0_2, Fc4_0_3, trivial⟩⟩
theorem own_pd9 : parseMethodDescriptor "(Lcom/example/lonborg/lonborg/Resources;)Lcom/example/lonborg/lonborg/LeastNeeds;" = some ⟨[(.object own_s3)], some (.object own_s2)⟩ := by decide +kernel
theorem own_d12_0 : decode prog_5_method_10_code 0 = .ok (.aload_n 0, 1) := by decide +kernel
theorem own_d12_1 : decode prog_5_method_10_code 1 = .ok (.getfield 18, 3) := by decide +kernel
theorem own_d12_4 : decode prog_5_method_10_code 4 = .ok (.ifCond .ne 15, 3) := by decide +kernel
theorem own_d12_7 : decode prog_5_method_10_code 7 = .ok (.aload_n 0, 1) := by decide +kernel
theorem own_d12_8 : decode prog_5_method_10_code 8 = .ok (.getstatic 7, 3) := by decide +kernel
theorem own_d12_11 : decode prog_5_method_10_code 11 = .ok (.putfield 13, 3) := by decide +kernel
theorem own_d12_14 : decode prog_5_method_10_code 14 = .ok (.aload_n 0, 1) := by decide +kernel
theorem own_d12_15 : decode prog_5_method_10_code 15 = .ok (.iconst 0, 1) := by decide +kernel
theorem own_d12_16 : decode prog_5_method_10_code 16 = .ok (.putfield 26, 3) := by decide +kernel
theorem own_d12_19 : decode prog_5_method_10_code 19 = .ok (.aload_n 0, 1) := by decide +kernel
theorem own_d12_20 : decode prog_5_method_10_code 20 = .ok (.aload_n 0, 1) := by decide +kernel
theorem own_d12_21 : decode prog_5_method_10_code 21 = .ok (.getfield 13, 3) := by decide +kernel
theorem own_d12_24 : decode prog_5_method_10_code 24 = .ok (.aload_n 1, 1) := by decide +kernel
theorem own_d12_25 : decode prog_5_method_10_code 25 = .ok (.invokevirtual 30, 3) := by decide +kernel
theorem own_d12_28 : decode prog_5_method_10_code 28 = .ok (.putfield 13, 3) := by decide +kernel
theorem own_d12_31 : decode prog_5_method_10_code 31 = .ok (.return_, 1) := by decide +kernel
theorem own_ef12 (m : MethodId) (x0 : Addr) (x1 : Addr) : entryFrame m #[(.ref x0), (.ref x1)] 2 = mkF m 0 #[.val (.ref x0), .val (.ref x1)] [] := by first | (simp [entryFrame, mkF, argsToLocals, Value.category]; done) | rfl
def own_Q12_67 (Z : State) (b2x4_14c5034 : Addr) (w_NONE : Addr) (w_EMPTY : Addr) (w_EMPTY_parts : Addr) (k_w_EMPTY_parts : ClassId) (b2x5_18c4c5034 : Addr) (h0 : Heap) (n0 : Nat) (v : Option Value) (h : Heap) (L : List Loc) : Prop := Fr n0 L ∧ Keep h0 h [b2x4_14c5034] ∧ ((∃ b6x14_69c4c13 : Addr, ∃ b3x14_69c4c13 : Addr, ∃ k3x14_69c4c13 : ClassId, v = none ∧ ((0 : Int32) < ((0 : Int32) + (1 : Int32))) ∧ h0.size ≤ b6x14_69c4c13 ∧ h0.size ≤ b3x14_69c4c13 ∧ Fld Z h b2x4_14c5034 own_s0 "count" "I" (.int (0 : Int32)) ∧ Fld Z h b2x4_14c5034 own_s0 "least" own_s6 (.ref b6x14_69c4c13) ∧ Fld Z h b2x4_14c5034 own_s0 "stale" "Z" (.int (0 : Int32)) ∧ Fld Z h b2x4_14c5034 own_s4 "items" own_s7 (.ref b2x5_18c4c5034) ∧ Exa Z h b6x14_69c4c13 own_s2 ∧ Fld Z h b6x14_69c4c13 own_s2 "parts" own_s8 (.ref b3x14_69c4c13) ∧ Arv Z h b3x14_69c4c13 k3x14_69c4c13 (.object own_s3) ((0 : Int32) + (1 : Int32)) [(.ref w_NONE)] .null ∧ Ovr Z k3x14_69c4c13 own_s3 ∧ Exa Z h b3x14_69c4c13 own_s8 ∧ True))
set_option maxRecDepth 65536 in
set_option maxHeartbeats 40000000 in
theorem own_rm12_67 (l : Launch) (Z : State) (a0 : Array Value) (hw : ∀ d ∈ tables_1, d.before a0 Z = true) (ws : List Jvm.Cond) (b2x4_14c5034 : Addr) (w_NONE : Addr) (w_EMPTY : Addr) (w_EMPTY_parts : Addr) (k_w_EMPTY_parts : ClassId) (b2x5_18c4c5034 : Addr) (h0 : Heap) (n0 : Nat) (Z0 : n0 ≤ h0.size) (P0 : Fld Z h0 b2x4_14c5034 own_s0 "count" "I" (.int (0 : Int32))) (P1 : Sta Z h0 own_s2 "EMPTY" own_s6 (.ref w_EMPTY)) (P2 : Exa Z h0 b2x4_14c5034 own_s4) (P3 : Fld Z h0 b2x4_14c5034 own_s0 "least" own_s6 (.ref w_EMPTY)) (g_b2x4_14c5034 : n0 ≤ b2x4_14c5034) (P5 : Fld Z h0 b2x4_14c5034 own_s0 "stale" "Z" (.int (0 : Int32))) (P6 : Fld Z h0 w_EMPTY own_s2 "parts" own_s8 (.ref w_EMPTY_parts)) (P7 : Arv Z h0 w_EMPTY_parts k_w_EMPTY_parts (.object own_s3) (0 : Int32) [] .null) (P8 : Exa Z h0 w_NONE own_s3) (P9 : Exa Z h0 w_EMPTY own_s2) (P10 : Fld Z h0 b2x4_14c5034 own_s4 "items" own_s7 (.ref b2x5_18c4c5034)) :
    MetFree l own_y0 (head1 (Jvm.Cond.code own_y0 prog_5_method_10_code 2 none :: ws) ({ frames := 4, cells := 2, slots := 2, locals := 59 } : Room)) (fun a U => a = #[(.ref b2x4_14c5034), (.ref w_NONE)] ∧ Z.Warmed39 U.vm ∧ U.heap = h0) (fun _ _ _ _ _ => True) (fun _ U o U' => ∃ v L, o = .returned v ∧ own_Q12_67 Z b2x4_14c5034 w_NONE w_EMPTY w_EMPTY_parts k_w_EMPTY_parts b2x5_18c4c5034 h0 n0 v U'.heap L ∧ FrameEnd U o U' L ({ frames := 4, cells := 2, slots := 2, locals := 59 } : Room).cells ({ frames := 4, cells := 2, slots := 2, locals := 59 } : Room).slots) := by
  refine MetFree.of_bodySF (plainFor_of_name own_pn1) hisR ?_
  intro p e s m args below meth c s₁ Bd hml0 hP hK
  obtain ⟨rfl, hZ, hh⟩ := hP
  have hx := Bd.exec
  have hlk := Bd.notSynchronized
  have hret := Bd.returns
  have hby := Bd.bytes
  have hml : c.maxLocals = 2 := hml0
  have hown : s.vm.findClass own_s0 = some m.cls := findClass_of_methodNamed Bd.named
  have hnm := (name_of_methodNamed Bd.named Bd.method).1
  have X0 : Stand p l e ({ frames := 4, cells := 2, slots := 2, locals := 59 } : Room) s m #[(.ref b2x4_14c5034), (.ref w_NONE)] below meth c s₁ [] 0 0 := Stand.of_body Bd
  have e0 : s₁.heap = h0 := by rw [← hh, Bd.state]; rfl
  have N0 := Fr.nil n0
  refine own_open (Q := own_Q12_67 Z b2x4_14c5034 w_NONE w_EMPTY w_EMPTY_parts k_w_EMPTY_parts b2x5_18c4c5034 h0 n0) (own_ef12 m b2x4_14c5034 w_NONE) ?_
  refine own_st (fun t k => XS.aloadN X0.here hx rfl (hb hby own_d12_0) rfl rfl k) ?_
  refine own_gF X0 hx hZ hown (own_w hw 92 rfl) Via.refl e0 P0 (hb hby own_d12_1) rfl rfl fun T1 X1 e1 => ?_
  show own_Go _ _ _ _ T1 (mkF m 4 #[.val (.ref b2x4_14c5034), .val (.ref w_NONE)] [(.int (0 : Int32))])
  refine own_st (fun t k => XS.ifNo X1.here hx rfl (hb hby own_d12_4) rfl ((if0 _ _).trans (teq (by decide : (0 : Int32) = (0 : Int32))).2) (XS.aloadN X1.here hx rfl (hb hby own_d12_7) rfl rfl k)) ?_
  refine own_gS X1 hx hZ hown (own_w hw 47 rfl) e1 P1 (hb hby own_d12_8) rfl fun T2 X2 e2 => ?_
  show own_Go _ _ _ _ T2 (mkF m 11 #[.val (.ref b2x4_14c5034), .val (.ref w_NONE)] [(.ref w_EMPTY), (.ref b2x4_14c5034)])
  refine own_pF X2 hx hZ hown (own_w hw 50 rfl) Via.refl e2 P3 P2 (Or.inl (own_w hw 51 rfl)) (own_w hw 36 rfl) (ty := (.object own_s2)) (by decide) (hb hby own_d12_11) rfl rfl rfl rfl fun T3 h3 X3 e3 W3 => ?_
  have K3 : Keep h0 h3 [b2x4_14c5034] := (Keep.refl h0 [b2x4_14c5034]).wr W3 (Or.inl (List.mem_of_getElem? (i := 0) rfl))
  have Z3 := Nat.le_trans Z0 (Keep.of_wr W3).1
  have N3 := Fr.snoc X3 N0 g_b2x4_14c5034
  have F3 := P3.same W3
  refine own_st (fun t k => XS.aloadN X3.here hx rfl (hb hby own_d12_14) rfl rfl (XS.iconst X3.here hx rfl (hb hby own_d12_15) k)) ?_
  show own_Go _ _ _ _ T3 (mkF m 16 #[.val (.ref b2x4_14c5034), .val (.ref w_NONE)] [(.int (0 : Int32)), (.ref b2x4_14c5034)])
  have f4 := (P2.wr W3)
  have f5 := (P5.other W3 (Or.inr (slot_ne (Or.inl (own_w hw 94 rfl)) (Or.inl (own_w hw 51 rfl)) (by decide) (t := .boolean) (t' := (.object own_s2)) (by decide) (by decide))))
  obtain ⟨T6, h6, X6, e6, W6, st6⟩ := putFN X3 hx hZ hown (own_w hw 93 rfl) Via.refl e3 f5 f4 (Or.inl (own_w hw 94 rfl)) (own_w hw 36 rfl) (ty := .boolean) (v' := (.int (0 : Int32))) (by decide) rfl rfl (g := (mkF m 16 #[.val (.ref b2x4_14c5034), .val (.ref w_NONE)] [(.int (0 : Int32)), (.ref b2x4_14c5034)])) rfl rfl (hb hby own_d12_16)
  refine own_st st6 ?_
  have K6 : Keep h0 h6 [b2x4_14c5034] := K3.wr W6 (Or.inl (List.mem_of_getElem? (i := 0) rfl))
  have Z6 := Nat.le_trans Z3 (Keep.of_wr W6).1
  have N6 := Fr.snoc X6 N3 g_b2x4_14c5034
  have F6 := f5.same W6
  refine own_st (fun t k => XS.aloadN X6.here hx rfl (hb hby own_d12_19) rfl rfl (XS.aloadN X6.here hx rfl (hb hby own_d12_20) rfl rfl k)) ?_
  show own_Go _ _ _ _ T6 (mkF m 21 #[.val (.ref b2x4_14c5034), .val (.ref w_NONE)] [(.ref b2x4_14c5034), (.ref b2x4_14c5034)])
  have f7 := (F3.other W6 (Or.inr (slot_ne (Or.inl (own_w hw 51 rfl)) (Or.inl (own_w hw 94 rfl)) (by decide) (t := (.object own_s2)) (t' := .boolean) (by decide) (by decide))))
  refine own_gF X6 hx hZ hown (own_w hw 50 rfl) Via.refl e6 f7 (hb hby own_d12_21) rfl rfl fun T8 X8 e8 => ?_
  refine own_st (fun t k => XS.aloadN X8.here hx rfl (hb hby own_d12_24) rfl rfl k) ?_
  have f9 := (P6.keep K6 (ninS (ne_exa P9 P2 (by decide)) nin0))
  have f10 := (P7.keep K6 (ninS (Ne.symm (own_nev P2 (own_w hw 36 rfl) P7)) nin0))
  have f11 := (P8.keep K6)
  have f12 := (P9.keep K6)
  refine own_cV (a := w_EMPTY) X8 hx hZ hown (own_w hw 95 rfl) (own_w hw 96 rfl) (own_w hw 98 rfl) (own_w hw 97 rfl) (own_w hw 48 rfl) (own_w hw 99 rfl) [(.ref w_NONE)] [(.ref b2x4_14c5034)] f12 (own_rm13_68 l Z a0 hw [] w_EMPTY w_NONE w_EMPTY_parts k_w_EMPTY_parts h6 n0 Z6 f9 f10 f11 f12) 1 (hb hby own_d12_25) (by rw [hml]; rfl) (lenOf own_pd9 rfl) e8 rfl rfl (by show 2 * 0 + _ ≤ _; exact Nat.le_of_eq rfl) (by decide) (by decide) (by decide) (by decide) (by decide) fun v13 T13 L13 X13 hQ13 => ?_
  obtain ⟨N13q, Kq13, hL13⟩ := hQ13
  have N13 := Fr.app N6 N13q
  have K13 : Keep h0 T13.heap [b2x4_14c5034] := K6.trans Kq13 all0
  have Z13 := Nat.le_trans Z6 Kq13.1
  rcases hL13 with ⟨b6x14_69c4c13, b3x14_69c4c13, k3x14_69c4c13, rfl, hq13_0_0, sq_b6x14_69c4c13, sq_b3x14_69c4c13, Fc13_0_0, Fc13_0_1, Fc13_0_2, OFc13_0_2, Fc13_0_3, -⟩
  · skip
    have g_b6x14_69c4c13 : n0 ≤ b6x14_69c4c13 := Nat.le_trans Z6 sq_b6x14_69c4c13
    have sz_b6x14_69c4c13 : h0.size ≤ b6x14_69c4c13 := Nat.le_trans K6.1 sq_b6x14_69c4c13
    have g_b3x14_69c4c13 : n0 ≤ b3x14_69c4c13 := Nat.le_trans Z6 sq_b3x14_69c4c13
    have sz_b3x14_69c4c13 : h0.size ≤ b3x14_69c4c13 := Nat.le_trans K6.1 sq_b3x14_69c4c13
    show own_Go _ _ _ _ T13 (mkF m 28 #[.val (.ref b2x4_14c5034), .val (.ref w_NONE)] [(.ref b6x14_69c4c13), (.ref b2x4_14c5034)])
    have f14 := (P2.keep K13)
    have f15 := (f7.keep Kq13 nin0)
    refine own_pF X13 hx hZ hown (own_w hw 50 rfl) Via.refl rfl f15 f14 (Or.inl (own_w hw 51 rfl)) (own_w hw 36 rfl) (ty := (.object own_s2)) (by decide) (hb hby own_d12_28) rfl rfl rfl rfl fun T16 h16 X16 e16 W16 => ?_
    have K16 : Keep h0 h16 [b2x4_14c5034] := K13.wr W16 (Or.inl (List.mem_of_getElem? (i := 0) rfl))
    have Z16 := Nat.le_trans Z13 (Keep.of_wr W16).1
    have N16 := Fr.snoc X16 N13 g_b2x4_14c5034
    have F16 := f15.same W16
    have f17 := ((((P0.other W3 (Or.inr (slot_ne (Or.inl (own_w hw 80 rfl)) (Or.inl (own_w hw 51 rfl)) (by decide) (t := .int) (t' := (.object own_s2)) (by decide) (by decide)))).other W6 (Or.inr (slot_ne (Or.inl (own_w hw 80 rfl)) (Or.inl (own_w hw 94 rfl)) (by decide) (t := .int) (t' := .boolean) (by decide) (by decide)))).keep Kq13 nin0).other W16 (Or.inr (slot_ne (Or.inl (own_w hw 80 rfl)) (Or.inl (own_w hw 51 rfl)) (by decide) (t := .int) (t' := (.object own_s2)) (by decide) (by decide))))
    have f18 := ((F6.keep Kq13 nin0).other W16 (Or.inr (slot_ne (Or.inl (own_w hw 94 rfl)) (Or.inl (own_w hw 51 rfl)) (by decide) (t := .boolean) (t' := (.object own_s2)) (by decide) (by decide))))
    have f19 := ((((P10.other W3 (Or.inr (slot_ne (Or.inr (own_w hw 54 rfl)) (Or.inl (own_w hw 51 rfl)) (by decide) (t := (.array (.object own_s1))) (t' := (.object own_s2)) (by decide) (by decide)))).other W6 (Or.inr (slot_ne (Or.inr (own_w hw 54 rfl)) (Or.inl (own_w hw 94 rfl)) (by decide) (t := (.array (.object own_s1))) (t' := .boolean) (by decide) (by decide)))).keep Kq13 nin0).other W16 (Or.inr (slot_ne (Or.inr (own_w hw 54 rfl)) (Or.inl (own_w hw 51 rfl)) (by decide) (t := (.array (.object own_s1))) (t' := (.object own_s2)) (by decide) (by decide))))
    have f20 := (Fc13_0_0.wr W16)
    have ne21 : b2x4_14c5034 ≠ b6x14_69c4c13 := Nat.ne_of_lt (Nat.lt_of_lt_of_le P0.lt sz_b6x14_69c4c13)
    have f22 := (Fc13_0_1.other W16 (Or.inl (Ne.symm ne21)))
    have ne23 : b2x4_14c5034 ≠ b3x14_69c4c13 := Nat.ne_of_lt (Nat.lt_of_lt_of_le P0.lt sz_b3x14_69c4c13)
    have f24 := (Fc13_0_2.other W16 (Ne.symm ne23))
    have f25 := (Fc13_0_3.wr W16)
    exact own_retV X16 hx hlk hret (hb hby own_d12_31) (by decide) (by decide) e16 ⟨N16, K16, ⟨b6x14_69c4c13, b3x14_69c4c13, _, rfl, hq13_0_0, sz_b6x14_69c4c13, sz_b3x14_69c4c13, f17, F16, f18, f19, f20, f22, f24, OFc13_0_2, f25, trivial⟩⟩
theorem own_pd10 : parseMethodDescriptor own_s10 = some ⟨[(.object own_s3)], none⟩ := by decide +kernel
theorem own_d9_0 : decode prog_4_method_2_code 0 = .ok (.aload_n 0, 1) := by decide +kernel
theorem own_d9_1 : decode prog_4_method_2_code 1 = .ok (.aload_n 1, 1) := by decide +kernel
theorem own_d9_2 : decode prog_4_method_2_code 2 = .ok (.invokevirtual 17, 3) := by decide +kernel
theorem own_d9_5 : decode prog_4_method_2_code 5 = .ok (.istore_n 2, 1) := by decide +kernel
theorem own_d9_6 : decode prog_4_method_2_code 6 = .ok (.aload_n 0, 1) := by decide +kernel
theorem own_d9_7 : decode prog_4_method_2_code 7 = .ok (.getfield 21, 3) := by decide +kernel
theorem own_d9_10 : decode prog_4_method_2_code 10 = .ok (.bipush 64, 2) := by decide +kernel
theorem own_d9_12 : decode prog_4_method_2_code 12 = .ok (.if_icmp .ge 51, 3) := by decide +kernel
theorem own_d9_15 : decode prog_4_method_2_code 15 = .ok (.aload_n 0, 1) := by decide +kernel
theorem own_d9_16 : decode prog_4_method_2_code 16 = .ok (.aload_n 1, 1) := by decide +kernel
theorem own_d9_17 : decode prog_4_method_2_code 17 = .ok (.invokevirtual 25, 3) := by decide +kernel
theorem own_d9_20 : decode prog_4_method_2_code 20 = .ok (.invokevirtual 29, 3) := by decide +kernel
theorem own_d9_23 : decode prog_4_method_2_code 23 = .ok (.aload_n 0, 1) := by decide +kernel
theorem own_d9_24 : decode prog_4_method_2_code 24 = .ok (.getfield 11, 3) := by decide +kernel
theorem own_d9_27 : decode prog_4_method_2_code 27 = .ok (.iload_n 2, 1) := by decide +kernel
theorem own_d9_28 : decode prog_4_method_2_code 28 = .ok (.aload_n 0, 1) := by decide +kernel
theorem own_d9_29 : decode prog_4_method_2_code 29 = .ok (.getfield 11, 3) := by decide +kernel
theorem own_d9_32 : decode prog_4_method_2_code 32 = .ok (.iload_n 2, 1) := by decide +kernel
theorem own_d9_33 : decode prog_4_method_2_code 33 = .ok (.iconst 1, 1) := by decide +kernel
theorem own_d9_34 : decode prog_4_method_2_code 34 = .ok (.iadd, 1) := by decide +kernel
theorem own_d9_35 : decode prog_4_method_2_code 35 = .ok (.aload_n 0, 1) := by decide +kernel
theorem own_d9_36 : decode prog_4_method_2_code 36 = .ok (.getfield 21, 3) := by decide +kernel
theorem own_d9_39 : decode prog_4_method_2_code 39 = .ok (.iload_n 2, 1) := by decide +kernel
theorem own_d9_40 : decode prog_4_method_2_code 40 = .ok (.isub, 1) := by decide +kernel
theorem own_d9_41 : decode prog_4_method_2_code 41 = .ok (.invokestatic 33, 3) := by decide +kernel
theorem own_d9_44 : decode prog_4_method_2_code 44 = .ok (.aload_n 0, 1) := by decide +kernel
theorem own_d9_45 : decode prog_4_method_2_code 45 = .ok (.getfield 11, 3) := by decide +kernel
theorem own_d9_48 : decode prog_4_method_2_code 48 = .ok (.iload_n 2, 1) := by decide +kernel
theorem own_d9_49 : decode prog_4_method_2_code 49 = .ok (.aload_n 1, 1) := by decide +kernel
theorem own_d9_50 : decode prog_4_method_2_code 50 = .ok (.aastore, 1) := by decide +kernel
theorem own_d9_51 : decode prog_4_method_2_code 51 = .ok (.aload_n 0, 1) := by decide +kernel
theorem own_d9_52 : decode prog_4_method_2_code 52 = .ok (.dup, 1) := by decide +kernel
theorem own_d9_53 : decode prog_4_method_2_code 53 = .ok (.getfield 21, 3) := by decide +kernel
theorem own_d9_56 : decode prog_4_method_2_code 56 = .ok (.iconst 1, 1) := by decide +kernel
theorem own_d9_57 : decode prog_4_method_2_code 57 = .ok (.iadd, 1) := by decide +kernel
theorem own_d9_58 : decode prog_4_method_2_code 58 = .ok (.putfield 21, 3) := by decide +kernel
theorem own_d9_61 : decode prog_4_method_2_code 61 = .ok (.aconst_null, 1) := by decide +kernel
theorem own_d9_62 : decode prog_4_method_2_code 62 = .ok (.areturn, 1) := by decide +kernel
theorem own_ef9 (m : MethodId) (x0 : Addr) (x1 : Addr) : entryFrame m #[(.ref x0), (.ref x1)] 4 = mkF m 0 #[.val (.ref x0), .val (.ref x1), .unset, .unset] [] := by first | (simp [entryFrame, mkF, argsToLocals, Value.category]; done) | rfl
def own_Q9_60 (Z : State) (b2x4_14c5034 : Addr) (b5002 : Addr) (w_NONE : Addr) (w_EMPTY : Addr) (w_EMPTY_parts : Addr) (k_w_EMPTY_parts : ClassId) (b2x5_18c4c5034 : Addr) (k2x5_18c4c5034 : ClassId) (h0 : Heap) (n0 : Nat) (v : Option Value) (h : Heap) (L : List Loc) : Prop := Fr n0 L ∧ Keep h0 h [b2x4_14c5034, b2x5_18c4c5034] ∧ ((∃ b6x14_69c4c13c16 : Addr, ∃ b3x14_69c4c13c16 : Addr, ∃ k2x5_18c4c5034 : ClassId, ∃ k3x14_69c4c13c16 : ClassId, v = some .null ∧ ((0 : Int32) < ((0 : Int32) + (1 : Int32))) ∧ h0.size ≤ b6x14_69c4c13c16 ∧ h0.size ≤ b3x14_69c4c13c16 ∧ Fld Z h b2x4_14c5034 own_s0 "count" "I" (.int ((0 : Int32) + (1 : Int32))) ∧ Fld Z h b2x4_14c5034 own_s0 "least" own_s6 (.ref b6x14_69c4c13c16) ∧ Fld Z h b2x4_14c5034 own_s0 "stale" "Z" (.int (0 : Int32)) ∧ Fld Z h b2x4_14c5034 own_s4 "items" own_s7 (.ref b2x5_18c4c5034) ∧ Arv Z h b2x5_18c4c5034 k2x5_18c4c5034 (.object own_s1) (64 : Int32) [(.ref b5002)] .null ∧ Ovr Z k2x5_18c4c5034 own_s1 ∧ Exa Z h b6x14_69c4c13c16 own_s2 ∧ Fld Z h b6x14_69c4c13c16 own_s2 "parts" own_s8 (.ref b3x14_69c4c13c16) ∧ Arv Z h b3x14_69c4c13c16 k3x14_69c4c13c16 (.object own_s3) ((0 : Int32) + (1 : Int32)) [(.ref w_NONE)] .null ∧ Ovr Z k3x14_69c4c13c16 own_s3 ∧ Exa Z h b3x14_69c4c13c16 own_s8 ∧ True))
set_option maxRecDepth 65536 in
set_option maxHeartbeats 40000000 in
theorem own_rm9_60 (l : Launch) (Z : State) (a0 : Array Value) (hw : ∀ d ∈ tables_1, d.before a0 Z = true) (ws : List Jvm.Cond) (b2x4_14c5034 : Addr) (b5002 : Addr) (w_NONE : Addr) (w_EMPTY : Addr) (w_EMPTY_parts : Addr) (k_w_EMPTY_parts : ClassId) (b2x5_18c4c5034 : Addr) (k2x5_18c4c5034 : ClassId) (h0 : Heap) (n0 : Nat) (Z0 : n0 ≤ h0.size) (P0 : Fld Z h0 b2x4_14c5034 own_s0 "count" "I" (.int (0 : Int32))) (P1 : Exa Z h0 b2x4_14c5034 own_s4) (P2 : Fld Z h0 b5002 own_s1 "needs" "Lcom/example/lonborg/lonborg/Resources;" (.ref w_NONE)) (P3 : Exa Z h0 b5002 own_s1) (P4 : Sta Z h0 own_s2 "EMPTY" own_s6 (.ref w_EMPTY)) (P5 : Fld Z h0 b2x4_14c5034 own_s0 "least" own_s6 (.ref w_EMPTY)) (P6 : Fld Z h0 b2x4_14c5034 own_s0 "stale" "Z" (.int (0 : Int32))) (P7 : Fld Z h0 w_EMPTY own_s2 "parts" own_s8 (.ref w_EMPTY_parts)) (P8 : Arv Z h0 w_EMPTY_parts k_w_EMPTY_parts (.object own_s3) (0 : Int32) [] .null) (P9 : Exa Z h0 w_NONE own_s3) (P10 : Exa Z h0 w_EMPTY own_s2) (P11 : Fld Z h0 b2x4_14c5034 own_s4 "items" own_s7 (.ref b2x5_18c4c5034)) (g_b2x4_14c5034 : n0 ≤ b2x4_14c5034) (P13 : Arv Z h0 b2x5_18c4c5034 k2x5_18c4c5034 (.object own_s1) (64 : Int32) [] .null) (OFc5034_0_7 : Ovr Z k2x5_18c4c5034 own_s1) (P15 : Exa Z h0 b2x5_18c4c5034 own_s7) (g_b2x5_18c4c5034 : n0 ≤ b2x5_18c4c5034) :
    MetFree l own_y6 (head1 (Jvm.Cond.code own_y6 prog_4_method_2_code 4 (some (.object own_s0)) :: ws) ({ frames := 5, cells := 2, slots := 2, locals := 72 } : Room)) (fun a U => a = #[(.ref b2x4_14c5034), (.ref b5002)] ∧ Z.Warmed39 U.vm ∧ U.heap = h0) (fun _ _ _ _ _ => True) (fun _ U o U' => ∃ v L, o = .returned v ∧ own_Q9_60 Z b2x4_14c5034 b5002 w_NONE w_EMPTY w_EMPTY_parts k_w_EMPTY_parts b2x5_18c4c5034 k2x5_18c4c5034 h0 n0 v U'.heap L ∧ FrameEnd U o U' L ({ frames := 5, cells := 2, slots := 2, locals := 72 } : Room).cells ({ frames := 5, cells := 2, slots := 2, locals := 72 } : Room).slots) := by
  refine MetFree.of_bodySF (plainFor_of_name own_pn2) hisR ?_
  intro p e s m args below meth c s₁ Bd hml0 hP hK
  obtain ⟨rfl, hZ, hh⟩ := hP
  have hx := Bd.exec
  have hlk := Bd.notSynchronized
  have hret := Bd.returns
  have hby := Bd.bytes
  have hml : c.maxLocals = 4 := hml0
  have hown : s.vm.findClass own_s4 = some m.cls := findClass_of_methodNamed Bd.named
  have hnm := (name_of_methodNamed Bd.named Bd.method).1
  have X0 : Stand p l e ({ frames := 5, cells := 2, slots := 2, locals := 72 } : Room) s m #[(.ref b2x4_14c5034), (.ref b5002)] below meth c s₁ [] 0 0 := Stand.of_body Bd
  have e0 : s₁.heap = h0 := by rw [← hh, Bd.state]; rfl
  have N0 := Fr.nil n0
  refine own_open (Q := own_Q9_60 Z b2x4_14c5034 b5002 w_NONE w_EMPTY w_EMPTY_parts k_w_EMPTY_parts b2x5_18c4c5034 k2x5_18c4c5034 h0 n0) (own_ef9 m b2x4_14c5034 b5002) ?_
  refine own_st (fun t k => XS.aloadN X0.here hx rfl (hb hby own_d9_0) rfl rfl (XS.aloadN X0.here hx rfl (hb hby own_d9_1) rfl rfl k)) ?_
  show own_Go _ _ _ _ s₁ (mkF m 2 #[.val (.ref b2x4_14c5034), .val (.ref b5002), .unset, .unset] [(.ref b5002), (.ref b2x4_14c5034)])
  refine own_cP (a := b2x4_14c5034) X0 hx hZ hown (own_w hw 74 rfl) (own_w hw 76 rfl) (own_w hw 36 rfl) (own_w hw 75 rfl) (own_w hw 37 rfl) (own_w hw 77 rfl) [(.ref b5002)] [] P1 (own_rm10_61 l Z a0 hw [] b2x4_14c5034 b5002 h0 n0 Z0 P0) 0 (hb hby own_d9_2) (by rw [hml]; rfl) (lenOf own_pd4 rfl) e0 rfl rfl (by show 2 * 0 + _ ≤ _; exact Nat.le_of_eq rfl) (by decide) (by decide) (by decide) (by decide) (by decide) fun v1 T1 L1 X1 hQ1 => ?_
  obtain ⟨N1q, Kq1, hL1⟩ := hQ1
  have N1 := Fr.app N0 N1q
  have K1 : Keep h0 T1.heap [b2x4_14c5034, b2x5_18c4c5034] := (Keep.refl h0 [b2x4_14c5034, b2x5_18c4c5034]).trans Kq1 all0
  have Z1 := Nat.le_trans Z0 Kq1.1
  rcases hL1 with ⟨rfl, -⟩
  · skip
    refine own_st (fun t k => XS.istoreN X1.here hx rfl (hb hby own_d9_5) rfl (l' := #[.val (.ref b2x4_14c5034), .val (.ref b5002), .val (.int (0 : Int32)), .unset]) rfl (XS.aloadN X1.here hx rfl (hb hby own_d9_6) rfl rfl k)) ?_
    show own_Go _ _ _ _ T1 (mkF m 7 #[.val (.ref b2x4_14c5034), .val (.ref b5002), .val (.int (0 : Int32)), .unset] [(.ref b2x4_14c5034)])
    have f2 := (P0.keep Kq1 nin0)
    refine own_gF X1 hx hZ hown (own_w hw 78 rfl) (Via.of (own_w hw 79 rfl)) rfl f2 (hb hby own_d9_7) rfl rfl fun T3 X3 e3 => ?_
    refine own_st (fun t k => XS.bipush X3.here hx rfl (hb hby own_d9_10) (XS.icmpNo X3.here hx rfl (hb hby own_d9_12) rfl (tlt (by decide : (0 : Int32) < (64 : Int32))).2.1 k)) ?_
    show own_Go _ _ _ _ T3 (mkF m 15 #[.val (.ref b2x4_14c5034), .val (.ref b5002), .val (.int (0 : Int32)), .unset] [])
    refine own_st (fun t k => XS.aloadN X3.here hx rfl (hb hby own_d9_15) rfl rfl (XS.aloadN X3.here hx rfl (hb hby own_d9_16) rfl rfl k)) ?_
    have f4 := (P2.keep Kq1 nin0)
    have f6 := (P3.keep Kq1)
    refine own_cV (a := b5002) X3 hx hZ hown (own_w hw 81 rfl) (own_w hw 82 rfl) (own_w hw 84 rfl) (own_w hw 83 rfl) (own_w hw 6 rfl) (own_w hw 85 rfl) [] [(.ref b2x4_14c5034)] f6 (own_rm11 l Z a0 hw [] b5002 w_NONE T1.heap n0 Z1 f4) 1 (hb hby own_d9_17) (by rw [hml]; rfl) (lenOf own_pd5 rfl) e3 rfl rfl (by show 2 * 0 + _ ≤ _; exact Nat.le_of_eq rfl) (by decide) (by decide) (by decide) (by decide) (by decide) fun v5 T5 L5 X5 hQ5 => ?_
    obtain ⟨N5q, e5, hL5⟩ := hQ5
    have N5 := Fr.app N1 N5q
    rcases hL5 with ⟨rfl, -⟩
    · skip
      show own_Go _ _ _ _ T5 (mkF m 20 #[.val (.ref b2x4_14c5034), .val (.ref b5002), .val (.int (0 : Int32)), .unset] [(.ref w_NONE), (.ref b2x4_14c5034)])
      have f7 := (own_stak P4 Kq1 all0)
      have f8 := (P1.keep Kq1)
      have f9 := (P5.keep Kq1 nin0)
      have f10 := (P6.keep Kq1 nin0)
      have f11 := (P7.keep Kq1 nin0)
      have f12 := (P8.keep Kq1 nin0)
      have f13 := (P9.keep Kq1)
      have f14 := (P10.keep Kq1)
      have f15 := (P11.keep Kq1 nin0)
      obtain ⟨cq16, kq16, q16a, q16b, q16c⟩ := isOf hZ e5 f8
      obtain ⟨_, _, ⟨T16, L16, k16, n16⟩, -, X16, ⟨Lc16, hQ16, l16, y16, z16⟩, st16⟩ := X5.virtualBackUp hx (owner := own_s0) (x := own_y8) (y := own_y0) hown (mvT hZ (own_w hw 86 rfl)) (mvT hZ (own_w hw 87 rfl)) (mvT hZ (own_w hw 88 rfl)) (by decide) (mvT hZ (own_w hw 90 rfl)) (mvT hZ (own_w hw 89 rfl)) (backOf (W := 0) (own_rm12_67 l Z a0 hw [] b2x4_14c5034 w_NONE w_EMPTY w_EMPTY_parts k_w_EMPTY_parts b2x5_18c4c5034 T1.heap n0 Z1 f2 f7 f8 f9 g_b2x4_14c5034 f10 f11 f12 f13 f14 f15) hZ (own_w hw 91 rfl) (own_w hw 44 rfl) (by decide) (by decide)) q16a q16c (g := (mkF m 20 #[.val (.ref b2x4_14c5034), .val (.ref b5002), .val (.int (0 : Int32)), .unset] [(.ref w_NONE), (.ref b2x4_14c5034)])) rfl (by rw [hml]; rfl) (Steps.refl _) (argsL := [(.ref w_NONE)]) (rest := []) (lenOf own_pd10 rfl) rfl (by show 2 * 0 + _ ≤ _; exact Nat.le_of_eq rfl) (hb hby own_d9_20) (fun _ _ => ⟨rfl, e5, (by decide : 0 + 2 ≤ _), (by decide : 0 + 2 ≤ _)⟩)
      dsimp only [Pt.U, Pt.locs, Pt.cells, Pt.slots] at X16 l16 y16 z16 st16 hQ16
      subst l16 y16 z16
      obtain ⟨N16q, Kq16, hL16⟩ := hQ16
      have N16 := Fr.app N5 N16q
      have K16 : Keep h0 T16.heap [b2x4_14c5034, b2x5_18c4c5034] := K1.trans Kq16 (allS (Or.inl (List.mem_of_getElem? (i := 0) rfl)) all0)
      have Z16 := Nat.le_trans Z1 Kq16.1
      rcases hL16 with ⟨b6x14_69c4c13c16, b3x14_69c4c13c16, k3x14_69c4c13c16, rfl, hq16_0_0, sq_b6x14_69c4c13c16, sq_b3x14_69c4c13c16, Fc16_0_0, Fc16_0_1, Fc16_0_2, Fc16_0_3, Fc16_0_4, Fc16_0_5, Fc16_0_6, OFc16_0_6, Fc16_0_7, -⟩
      · skip
        have g_b6x14_69c4c13c16 : n0 ≤ b6x14_69c4c13c16 := Nat.le_trans Z1 sq_b6x14_69c4c13c16
        have sz_b6x14_69c4c13c16 : h0.size ≤ b6x14_69c4c13c16 := Nat.le_trans K1.1 sq_b6x14_69c4c13c16
        have g_b3x14_69c4c13c16 : n0 ≤ b3x14_69c4c13c16 := Nat.le_trans Z1 sq_b3x14_69c4c13c16
        have sz_b3x14_69c4c13c16 : h0.size ≤ b3x14_69c4c13c16 := Nat.le_trans K1.1 sq_b3x14_69c4c13c16
        refine own_st (fun t k => st16.trans k) ?_
        refine own_st (fun t k => XS.aloadN X16.here hx rfl (hb hby own_d9_23) rfl rfl k) ?_
        refine own_gF X16 hx hZ hown (own_w hw 53 rfl) Via.refl rfl Fc16_0_3 (hb hby own_d9_24) rfl rfl fun T17 X17 e17 => ?_
        show own_Go _ _ _ _ T17 (mkF m 27 #[.val (.ref b2x4_14c5034), .val (.ref b5002), .val (.int (0 : Int32)), .unset] [(.ref b2x5_18c4c5034)])
        refine own_st (fun t k => XS.iloadN X17.here hx rfl (hb hby own_d9_27) rfl (XS.aloadN X17.here hx rfl (hb hby own_d9_28) rfl rfl k)) ?_
        refine own_gF X17 hx hZ hown (own_w hw 53 rfl) Via.refl e17 Fc16_0_3 (hb hby own_d9_29) rfl rfl fun T18 X18 e18 => ?_
        show own_Go _ _ _ _ T18 (mkF m 32 #[.val (.ref b2x4_14c5034), .val (.ref b5002), .val (.int (0 : Int32)), .unset] [(.ref b2x5_18c4c5034), (.int (0 : Int32)), (.ref b2x5_18c4c5034)])
        refine own_st (fun t k => XS.iloadN X18.here hx rfl (hb hby own_d9_32) rfl (XS.iconst X18.here hx rfl (hb hby own_d9_33) (XS.iadd X18.here hx rfl (hb hby own_d9_34) rfl k))) ?_
        show own_Go _ _ _ _ T18 (mkF m 35 #[.val (.ref b2x4_14c5034), .val (.ref b5002), .val (.int (0 : Int32)), .unset] [(.int ((0 : Int32) + (1 : Int32))), (.ref b2x5_18c4c5034), (.int (0 : Int32)), (.ref b2x5_18c4c5034)])
        refine own_st (fun t k => XS.aloadN X18.here hx rfl (hb hby own_d9_35) rfl rfl k) ?_
        refine own_gF X18 hx hZ hown (own_w hw 78 rfl) (Via.of (own_w hw 79 rfl)) e18 Fc16_0_0 (hb hby own_d9_36) rfl rfl fun T19 X19 e19 => ?_
        refine own_st (fun t k => XS.iloadN X19.here hx rfl (hb hby own_d9_39) rfl k) ?_
        show own_Go _ _ _ _ T19 (mkF m 40 #[.val (.ref b2x4_14c5034), .val (.ref b5002), .val (.int (0 : Int32)), .unset] [(.int (0 : Int32)), (.int (0 : Int32)), (.int ((0 : Int32) + (1 : Int32))), (.ref b2x5_18c4c5034), (.int (0 : Int32)), (.ref b2x5_18c4c5034)])
        refine own_st (fun t k => XS.isub X19.here hx rfl (hb hby own_d9_40) rfl k) ?_
        have f21 := ((P13.keep Kq1 nin0).keep Kq16 (ninS (ne_exa P15 P1 (by decide)) nin0))
        obtain ⟨T20, X20, e20, st20⟩ := own_cp0 X19 hx hZ hown (own_w hw 119 rfl) (own_w hw 122 rfl) (own_w hw 120 rfl) (own_w hw 121 rfl) e19 f21 f21 (sp := (0 : Int32)) (dp := ((0 : Int32) + (1 : Int32))) (nn := ((0 : Int32) - (0 : Int32))) rfl (Or.inr ⟨rfl, rfl⟩) (by decide) (by decide) (by decide) (by decide) (g := (mkF m 41 #[.val (.ref b2x4_14c5034), .val (.ref b5002), .val (.int (0 : Int32)), .unset] [(.int ((0 : Int32) - (0 : Int32))), (.int ((0 : Int32) + (1 : Int32))), (.ref b2x5_18c4c5034), (.int (0 : Int32)), (.ref b2x5_18c4c5034)])) rfl (by rw [hml]; rfl) rfl (hb hby own_d9_41) (by decide) (W := 0) (by show 2 * 0 + _ ≤ _; exact Nat.le_of_eq rfl) (by decide)
        refine own_st st20 ?_
        refine own_st (fun t k => XS.aloadN X20.here hx rfl (hb hby own_d9_44) rfl rfl k) ?_
        show own_Go _ _ _ _ T20 (mkF m 45 #[.val (.ref b2x4_14c5034), .val (.ref b5002), .val (.int (0 : Int32)), .unset] [(.ref b2x4_14c5034)])
        refine own_gF X20 hx hZ hown (own_w hw 53 rfl) Via.refl e20 Fc16_0_3 (hb hby own_d9_45) rfl rfl fun T22 X22 e22 => ?_
        refine own_st (fun t k => XS.iloadN X22.here hx rfl (hb hby own_d9_48) rfl (XS.aloadN X22.here hx rfl (hb hby own_d9_49) rfl rfl k)) ?_
        show own_Go _ _ _ _ T22 (mkF m 50 #[.val (.ref b2x4_14c5034), .val (.ref b5002), .val (.int (0 : Int32)), .unset] [(.ref b5002), (.int (0 : Int32)), (.ref b2x5_18c4c5034)])
        have Pd23 := f21.pad (pad_rep [] .null 1)
        obtain ⟨c23, A23, q23, S23, M23, H23, G23⟩ := Pd23
        have f24 := (f6.keep Kq16)
        obtain ⟨T23, h23, X23, e23, W23, st23⟩ := stR X22 hx hZ e22 A23 (j := (0 : Int32)) (inb_of S23 ⟨by decide, by decide⟩) rfl (Sto.ofV A23 q23 OFc5034_0_7 (Ins.self f24)) (g := (mkF m 50 #[.val (.ref b2x4_14c5034), .val (.ref b5002), .val (.int (0 : Int32)), .unset] [(.ref b5002), (.int (0 : Int32)), (.ref b2x5_18c4c5034)])) rfl rfl (hb hby own_d9_50)
        refine own_st st23 ?_
        have K23 : Keep h0 h23 [b2x4_14c5034, b2x5_18c4c5034] := K16.wr W23 (Or.inl (List.mem_of_getElem? (i := 1) rfl))
        have Z23 := Nat.le_trans Z16 (Keep.of_wr W23).1
        have N23 := Fr.snoc X23 N16 g_b2x5_18c4c5034
        have V23 : Arv Z h23 b2x5_18c4c5034 k2x5_18c4c5034 (.object own_s1) (64 : Int32) [(.ref b5002)] .null := Arv.set A23 q23 S23 M23 H23 G23 rfl W23 0 rfl (Nat.le_of_ble_eq_true rfl)
        refine own_st (fun t k => XS.aloadN X23.here hx rfl (hb hby own_d9_51) rfl rfl (XS.dup X23.here hx rfl (hb hby own_d9_52) rfl rfl k)) ?_
        show own_Go _ _ _ _ T23 (mkF m 53 #[.val (.ref b2x4_14c5034), .val (.ref b5002), .val (.int (0 : Int32)), .unset] [(.ref b2x4_14c5034), (.ref b2x4_14c5034)])
        have f25 := (Fc16_0_0.other W23 (Or.inl (ne_exa P1 P15 (by decide))))
        refine own_gF X23 hx hZ hown (own_w hw 78 rfl) (Via.of (own_w hw 79 rfl)) e23 f25 (hb hby own_d9_53) rfl rfl fun T26 X26 e26 => ?_
        refine own_st (fun t k => XS.iconst X26.here hx rfl (hb hby own_d9_56) (XS.iadd X26.here hx rfl (hb hby own_d9_57) rfl k)) ?_
        show own_Go _ _ _ _ T26 (mkF m 58 #[.val (.ref b2x4_14c5034), .val (.ref b5002), .val (.int (0 : Int32)), .unset] [(.int ((0 : Int32) + (1 : Int32))), (.ref b2x4_14c5034)])
        have f27 := (P1.keep K23)
        refine own_pF X26 hx hZ hown (own_w hw 78 rfl) (Via.of (own_w hw 79 rfl)) e26 f25 f27 (Or.inl (own_w hw 80 rfl)) (own_w hw 36 rfl) (ty := .int) (by decide) (hb hby own_d9_58) rfl rfl rfl rfl fun T28 h28 X28 e28 W28 => ?_
        have K28 : Keep h0 h28 [b2x4_14c5034, b2x5_18c4c5034] := K23.wr W28 (Or.inl (List.mem_of_getElem? (i := 0) rfl))
        have Z28 := Nat.le_trans Z23 (Keep.of_wr W28).1
        have N28 := Fr.snoc X28 N23 g_b2x4_14c5034
        have F28 := f25.same W28
        refine own_st (fun t k => XS.aconstNull X28.here hx rfl (hb hby own_d9_61) k) ?_
        have f29 := ((Fc16_0_1.other W23 (Or.inl (ne_exa P1 P15 (by decide)))).other W28 (Or.inr (slot_ne (Or.inl (own_w hw 51 rfl)) (Or.inl (own_w hw 80 rfl)) (by decide) (t := (.object own_s2)) (t' := .int) (by decide) (by decide))))
        have f30 := ((Fc16_0_2.other W23 (Or.inl (ne_exa P1 P15 (by decide)))).other W28 (Or.inr (slot_ne (Or.inl (own_w hw 94 rfl)) (Or.inl (own_w hw 80 rfl)) (by decide) (t := .boolean) (t' := .int) (by decide) (by decide))))
        have f31 := ((Fc16_0_3.other W23 (Or.inl (ne_exa P1 P15 (by decide)))).other W28 (Or.inr (slot_ne (Or.inr (own_w hw 54 rfl)) (Or.inl (own_w hw 80 rfl)) (by decide) (t := (.array (.object own_s1))) (t' := .int) (by decide) (by decide))))
        have f32 := (V23.other W28 (ne_exa P15 P1 (by decide)))
        have f33 := ((Fc16_0_4.wr W23).wr W28)
        have ne34 : b2x5_18c4c5034 ≠ b6x14_69c4c13c16 := Nat.ne_of_lt (Nat.lt_of_lt_of_le P13.lt sz_b6x14_69c4c13c16)
        have ne35 : b2x4_14c5034 ≠ b6x14_69c4c13c16 := Nat.ne_of_lt (Nat.lt_of_lt_of_le P0.lt sz_b6x14_69c4c13c16)
        have f36 := ((Fc16_0_5.other W23 (Or.inl (Ne.symm ne34))).other W28 (Or.inl (Ne.symm ne35)))
        have ne37 : b2x5_18c4c5034 ≠ b3x14_69c4c13c16 := Nat.ne_of_lt (Nat.lt_of_lt_of_le P13.lt sz_b3x14_69c4c13c16)
        have ne38 : b2x4_14c5034 ≠ b3x14_69c4c13c16 := Nat.ne_of_lt (Nat.lt_of_lt_of_le P0.lt sz_b3x14_69c4c13c16)
        have f39 := ((Fc16_0_6.other W23 (Ne.symm ne37)).other W28 (Ne.symm ne38))
        have f40 := ((Fc16_0_7.wr W23).wr W28)
        exact own_retA X28 hx hlk hret rfl rfl (hb hby own_d9_62) (by decide) (by decide) e28 ⟨N28, K28, ⟨b6x14_69c4c13c16, b3x14_69c4c13c16, _, _, rfl, hq16_0_0, sz_b6x14_69c4c13c16, sz_b3x14_69c4c13c16, F28, f29, f30, f31, f32, OFc5034_0_7, f33, f36, f39, OFc16_0_6, f40, trivial⟩⟩
theorem own_pd11 : parseMethodDescriptor own_s9 = some ⟨[(.object own_s1)], some (.object own_s0)⟩ := by decide +kernel
theorem own_d8_0 : decode prog_2_method_2_code 0 = .ok (.aload_n 0, 1) := by decide +kernel
theorem own_d8_1 : decode prog_2_method_2_code 1 = .ok (.getfield 10, 3) := by decide +kernel
theorem own_d8_4 : decode prog_2_method_2_code 4 = .ok (.aload_n 1, 1) := by decide +kernel
theorem own_d8_5 : decode prog_2_method_2_code 5 = .ok (.invokevirtual 16, 3) := by decide +kernel
theorem own_d8_8 : decode prog_2_method_2_code 8 = .ok (.astore_n 2, 1) := by decide +kernel
theorem own_d8_9 : decode prog_2_method_2_code 9 = .ok (.aload_n 2, 1) := by decide +kernel
theorem own_d8_10 : decode prog_2_method_2_code 10 = .ok (.ifnull 19, 3) := by decide +kernel
theorem own_d8_29 : decode prog_2_method_2_code 29 = .ok (.aload_n 0, 1) := by decide +kernel
theorem own_d8_30 : decode prog_2_method_2_code 30 = .ok (.dup, 1) := by decide +kernel
theorem own_d8_31 : decode prog_2_method_2_code 31 = .ok (.getfield 27, 3) := by decide +kernel
theorem own_d8_34 : decode prog_2_method_2_code 34 = .ok (.lconst 1, 1) := by decide +kernel
theorem own_d8_35 : decode prog_2_method_2_code 35 = .ok (.ladd, 1) := by decide +kernel
theorem own_d8_36 : decode prog_2_method_2_code 36 = .ok (.putfield 27, 3) := by decide +kernel
theorem own_d8_39 : decode prog_2_method_2_code 39 = .ok (.return_, 1) := by decide +kernel
theorem own_ef8 (m : MethodId) (x0 : Addr) (x1 : Addr) : entryFrame m #[(.ref x0), (.ref x1)] 3 = mkF m 0 #[.val (.ref x0), .val (.ref x1), .unset] [] := by first | (simp [entryFrame, mkF, argsToLocals, Value.category]; done) | rfl
def own_Q8_47 (Z : State) (b5032 : Addr) (b5002 : Addr) (b2x4_14c5034 : Addr) (w_NONE : Addr) (w_EMPTY : Addr) (w_EMPTY_parts : Addr) (k_w_EMPTY_parts : ClassId) (b2x5_18c4c5034 : Addr) (k2x5_18c4c5034 : ClassId) (h0 : Heap) (n0 : Nat) (v : Option Value) (h : Heap) (L : List Loc) : Prop := Fr n0 L ∧ Keep h0 h [b2x5_18c4c5034, b2x4_14c5034, b5032] ∧ ((∃ b6x14_69c4c13c16c2 : Addr, ∃ b3x14_69c4c13c16c2 : Addr, ∃ k2x5_18c4c5034c2 : ClassId, ∃ k3x14_69c4c13c16c2 : ClassId, v = none ∧ ((0 : Int32) < ((0 : Int32) + (1 : Int32))) ∧ h0.size ≤ b6x14_69c4c13c16c2 ∧ h0.size ≤ b3x14_69c4c13c16c2 ∧ Arv Z h b2x5_18c4c5034 k2x5_18c4c5034c2 (.object own_s1) (64 : Int32) [(.ref b5002)] .null ∧ Ovr Z k2x5_18c4c5034c2 own_s1 ∧ Fld Z h b2x4_14c5034 own_s0 "count" "I" (.int ((0 : Int32) + (1 : Int32))) ∧ Fld Z h b2x4_14c5034 own_s0 "least" own_s6 (.ref b6x14_69c4c13c16c2) ∧ Fld Z h b2x4_14c5034 own_s0 "stale" "Z" (.int (0 : Int32)) ∧ Fld Z h b2x4_14c5034 own_s4 "items" own_s7 (.ref b2x5_18c4c5034) ∧ Fld Z h b5032 own_s5 "root" "Lcom/example/lonborg/lonborg/ItemTree$Node;" (.ref b2x4_14c5034) ∧ Fld Z h b5032 own_s5 "size" "J" (.long ((0 : Int64) + (1 : Int64))) ∧ Exa Z h b6x14_69c4c13c16c2 own_s2 ∧ Fld Z h b6x14_69c4c13c16c2 own_s2 "parts" own_s8 (.ref b3x14_69c4c13c16c2) ∧ Arv Z h b3x14_69c4c13c16c2 k3x14_69c4c13c16c2 (.object own_s3) ((0 : Int32) + (1 : Int32)) [(.ref w_NONE)] .null ∧ Ovr Z k3x14_69c4c13c16c2 own_s3 ∧ Exa Z h b3x14_69c4c13c16c2 own_s8 ∧ True))
set_option maxRecDepth 65536 in
set_option maxHeartbeats 40000000 in
theorem own_rm8_47 (l : Launch) (Z : State) (a0 : Array Value) (hw : ∀ d ∈ tables_1, d.before a0 Z = true) (ws : List Jvm.Cond) (b5032 : Addr) (b5002 : Addr) (b2x4_14c5034 : Addr) (w_NONE : Addr) (w_EMPTY : Addr) (w_EMPTY_parts : Addr) (k_w_EMPTY_parts : ClassId) (b2x5_18c4c5034 : Addr) (k2x5_18c4c5034 : ClassId) (h0 : Heap) (n0 : Nat) (Z0 : n0 ≤ h0.size) (P0 : Fld Z h0 b5032 own_s5 "root" "Lcom/example/lonborg/lonborg/ItemTree$Node;" (.ref b2x4_14c5034)) (P1 : Fld Z h0 b2x4_14c5034 own_s0 "count" "I" (.int (0 : Int32))) (P2 : Exa Z h0 b2x4_14c5034 own_s4) (P3 : Fld Z h0 b5002 own_s1 "needs" "Lcom/example/lonborg/lonborg/Resources;" (.ref w_NONE)) (P4 : Exa Z h0 b5002 own_s1) (P5 : Sta Z h0 own_s2 "EMPTY" own_s6 (.ref w_EMPTY)) (P6 : Fld Z h0 b2x4_14c5034 own_s0 "least" own_s6 (.ref w_EMPTY)) (P7 : Fld Z h0 b2x4_14c5034 own_s0 "stale" "Z" (.int (0 : Int32))) (P8 : Fld Z h0 w_EMPTY own_s2 "parts" own_s8 (.ref w_EMPTY_parts)) (P9 : Arv Z h0 w_EMPTY_parts k_w_EMPTY_parts (.object own_s3) (0 : Int32) [] .null) (P10 : Exa Z h0 w_NONE own_s3) (P11 : Exa Z h0 w_EMPTY own_s2) (P12 : Fld Z h0 b2x4_14c5034 own_s4 "items" own_s7 (.ref b2x5_18c4c5034)) (P13 : Arv Z h0 b2x5_18c4c5034 k2x5_18c4c5034 (.object own_s1) (64 : Int32) [] .null) (OFc5034_0_7 : Ovr Z k2x5_18c4c5034 own_s1) (P15 : Exa Z h0 b2x5_18c4c5034 own_s7) (g_b2x4_14c5034 : n0 ≤ b2x4_14c5034) (g_b2x5_18c4c5034 : n0 ≤ b2x5_18c4c5034) (P18 : Fld Z h0 b5032 own_s5 "size" "J" (.long (0 : Int64))) (P19 : Exa Z h0 b5032 own_s5) (g_b5032 : n0 ≤ b5032) :
    MetFree l own_y3 (head1 (Jvm.Cond.code own_y3 prog_2_method_2_code 3 none :: ws) ({ frames := 6, cells := 2, slots := 2, locals := 87 } : Room)) (fun a U => a = #[(.ref b5032), (.ref b5002)] ∧ Z.Warmed39 U.vm ∧ U.heap = h0) (fun _ _ _ _ _ => True) (fun _ U o U' => ∃ v L, o = .returned v ∧ own_Q8_47 Z b5032 b5002 b2x4_14c5034 w_NONE w_EMPTY w_EMPTY_parts k_w_EMPTY_parts b2x5_18c4c5034 k2x5_18c4c5034 h0 n0 v U'.heap L ∧ FrameEnd U o U' L ({ frames := 6, cells := 2, slots := 2, locals := 87 } : Room).cells ({ frames := 6, cells := 2, slots := 2, locals := 87 } : Room).slots) := by
  refine MetFree.of_bodySF (plainFor_of_name own_pn3) hisR ?_
  intro p e s m args below meth c s₁ Bd hml0 hP hK
  obtain ⟨rfl, hZ, hh⟩ := hP
  have hx := Bd.exec
  have hlk := Bd.notSynchronized
  have hret := Bd.returns
  have hby := Bd.bytes
  have hml : c.maxLocals = 3 := hml0
  have hown : s.vm.findClass own_s5 = some m.cls := findClass_of_methodNamed Bd.named
  have hnm := (name_of_methodNamed Bd.named Bd.method).1
  have X0 : Stand p l e ({ frames := 6, cells := 2, slots := 2, locals := 87 } : Room) s m #[(.ref b5032), (.ref b5002)] below meth c s₁ [] 0 0 := Stand.of_body Bd
  have e0 : s₁.heap = h0 := by rw [← hh, Bd.state]; rfl
  have N0 := Fr.nil n0
  refine own_open (Q := own_Q8_47 Z b5032 b5002 b2x4_14c5034 w_NONE w_EMPTY w_EMPTY_parts k_w_EMPTY_parts b2x5_18c4c5034 k2x5_18c4c5034 h0 n0) (own_ef8 m b5032 b5002) ?_
  refine own_st (fun t k => XS.aloadN X0.here hx rfl (hb hby own_d8_0) rfl rfl k) ?_
  refine own_gF X0 hx hZ hown (own_w hw 55 rfl) Via.refl e0 P0 (hb hby own_d8_1) rfl rfl fun T1 X1 e1 => ?_
  show own_Go _ _ _ _ T1 (mkF m 4 #[.val (.ref b5032), .val (.ref b5002), .unset] [(.ref b2x4_14c5034)])
  refine own_st (fun t k => XS.aloadN X1.here hx rfl (hb hby own_d8_4) rfl rfl k) ?_
  obtain ⟨cq2, kq2, q2a, q2b, q2c⟩ := isOf hZ e1 P2
  obtain ⟨_, _, ⟨T2, L2, k2, n2⟩, -, X2, ⟨Lc2, hQ2, l2, y2, z2⟩, st2⟩ := X1.virtualBack hx (y := (⟨own_s0, "add", own_s9⟩ : MethodName)) (z := own_y6) hown (mvT hZ (own_w hw 69 rfl)) (mvT hZ (own_w hw 70 rfl)) (own_nf (args := #[]) (mvT hZ (own_w hw 90 rfl)) rfl) (mvT hZ (own_w hw 71 rfl)) (mvT hZ (own_w hw 72 rfl)) (by decide) (backOf (W := 0) (own_rm9_60 l Z a0 hw [] b2x4_14c5034 b5002 w_NONE w_EMPTY w_EMPTY_parts k_w_EMPTY_parts b2x5_18c4c5034 k2x5_18c4c5034 h0 n0 Z0 P1 P2 P3 P4 P5 P6 P7 P8 P9 P10 P11 P12 g_b2x4_14c5034 P13 OFc5034_0_7 P15 g_b2x5_18c4c5034) hZ (own_w hw 73 rfl) (own_w hw 37 rfl) (by decide) (by decide)) q2a q2c (g := (mkF m 5 #[.val (.ref b5032), .val (.ref b5002), .unset] [(.ref b5002), (.ref b2x4_14c5034)])) rfl (by rw [hml]; rfl) (Steps.refl _) (argsL := [(.ref b5002)]) (rest := []) (lenOf own_pd11 rfl) rfl (by show 2 * 0 + _ ≤ _; exact Nat.le_of_eq rfl) (hb hby own_d8_5) (fun _ _ => ⟨rfl, e1, (by decide : 0 + 2 ≤ _), (by decide : 0 + 2 ≤ _)⟩)
  dsimp only [Pt.U, Pt.locs, Pt.cells, Pt.slots] at X2 l2 y2 z2 st2 hQ2
  subst l2 y2 z2
  obtain ⟨N2q, Kq2, hL2⟩ := hQ2
  have N2 := Fr.app N0 N2q
  have K2 : Keep h0 T2.heap [b2x5_18c4c5034, b2x4_14c5034, b5032] := (Keep.refl h0 [b2x5_18c4c5034, b2x4_14c5034, b5032]).trans Kq2 (allS (Or.inl (List.mem_of_getElem? (i := 1) rfl)) (allS (Or.inl (List.mem_of_getElem? (i := 0) rfl)) all0))
  have Z2 := Nat.le_trans Z0 Kq2.1
  rcases hL2 with ⟨b6x14_69c4c13c16c2, b3x14_69c4c13c16c2, k2x5_18c4c5034c2, k3x14_69c4c13c16c2, rfl, hq2_0_0, sq_b6x14_69c4c13c16c2, sq_b3x14_69c4c13c16c2, Fc2_0_0, Fc2_0_1, Fc2_0_2, Fc2_0_3, Fc2_0_4, OFc2_0_4, Fc2_0_5, Fc2_0_6, Fc2_0_7, OFc2_0_7, Fc2_0_8, -⟩
  · skip
    have g_b6x14_69c4c13c16c2 : n0 ≤ b6x14_69c4c13c16c2 := Nat.le_trans Z0 sq_b6x14_69c4c13c16c2
    have sz_b6x14_69c4c13c16c2 : h0.size ≤ b6x14_69c4c13c16c2 := Nat.le_trans (Keep.refl h0 [b2x5_18c4c5034, b2x4_14c5034, b5032]).1 sq_b6x14_69c4c13c16c2
    have g_b3x14_69c4c13c16c2 : n0 ≤ b3x14_69c4c13c16c2 := Nat.le_trans Z0 sq_b3x14_69c4c13c16c2
    have sz_b3x14_69c4c13c16c2 : h0.size ≤ b3x14_69c4c13c16c2 := Nat.le_trans (Keep.refl h0 [b2x5_18c4c5034, b2x4_14c5034, b5032]).1 sq_b3x14_69c4c13c16c2
    refine own_st (fun t k => st2.trans k) ?_
    refine own_st (fun t k => XS.astoreN X2.here hx rfl (hb hby own_d8_8) rfl rfl (l' := #[.val (.ref b5032), .val (.ref b5002), .val .null]) rfl k) ?_
    show own_Go _ _ _ _ T2 (mkF m 9 #[.val (.ref b5032), .val (.ref b5002), .val .null] [])
    refine own_st (fun t k => XS.aloadN X2.here hx rfl (hb hby own_d8_9) rfl rfl (XS.ifnullYes X2.here hx rfl (pc0 := 10) (pc' := 29) rfl (hb hby own_d8_10) rfl (by decide) (by decide) (XS.aloadN X2.here hx rfl (hb hby own_d8_29) rfl rfl k))) ?_
    show own_Go _ _ _ _ T2 (mkF m 30 #[.val (.ref b5032), .val (.ref b5002), .val .null] [(.ref b5032)])
    refine own_st (fun t k => XS.dup X2.here hx rfl (hb hby own_d8_30) rfl rfl k) ?_
    have f3 := (P18.keep Kq2 (ninS (ne_exa P19 P2 (by decide)) (ninS (ne_exa P19 P15 (by decide)) nin0)))
    refine own_gF X2 hx hZ hown (own_w hw 62 rfl) Via.refl rfl f3 (hb hby own_d8_31) rfl rfl fun T4 X4 e4 => ?_
    refine own_st (fun t k => XS.lconst X4.here hx rfl (hb hby own_d8_34) k) ?_
    show own_Go _ _ _ _ T4 (mkF m 35 #[.val (.ref b5032), .val (.ref b5002), .val .null] [(.long (1 : Int64)), (.long (0 : Int64)), (.ref b5032)])
    refine own_st (fun t k => XS.ladd X4.here hx rfl (hb hby own_d8_35) rfl k) ?_
    have f5 := (P19.keep Kq2)
    refine own_pF X4 hx hZ hown (own_w hw 62 rfl) Via.refl e4 f3 f5 (Or.inl (own_w hw 63 rfl)) (own_w hw 29 rfl) (ty := .long) (by decide) (hb hby own_d8_36) rfl rfl rfl rfl fun T6 h6 X6 e6 W6 => ?_
    have K6 : Keep h0 h6 [b2x5_18c4c5034, b2x4_14c5034, b5032] := K2.wr W6 (Or.inl (List.mem_of_getElem? (i := 2) rfl))
    have Z6 := Nat.le_trans Z2 (Keep.of_wr W6).1
    have N6 := Fr.snoc X6 N2 g_b5032
    have F6 := f3.same W6
    have f7 := (Fc2_0_4.other W6 (ne_exa P15 P19 (by decide)))
    have f8 := (Fc2_0_0.other W6 (Or.inl (ne_exa P2 P19 (by decide))))
    have f9 := (Fc2_0_1.other W6 (Or.inl (ne_exa P2 P19 (by decide))))
    have f10 := (Fc2_0_2.other W6 (Or.inl (ne_exa P2 P19 (by decide))))
    have f11 := (Fc2_0_3.other W6 (Or.inl (ne_exa P2 P19 (by decide))))
    have f12 := ((P0.keep Kq2 (ninS (ne_exa P19 P2 (by decide)) (ninS (ne_exa P19 P15 (by decide)) nin0))).other W6 (Or.inr (slot_ne (Or.inl (own_w hw 56 rfl)) (Or.inl (own_w hw 63 rfl)) (by decide) (t := (.object own_s0)) (t' := .long) (by decide) (by decide))))
    have f13 := (Fc2_0_5.wr W6)
    have ne14 : b5032 ≠ b6x14_69c4c13c16c2 := Nat.ne_of_lt (Nat.lt_of_lt_of_le P0.lt sz_b6x14_69c4c13c16c2)
    have f15 := (Fc2_0_6.other W6 (Or.inl (Ne.symm ne14)))
    have ne16 : b5032 ≠ b3x14_69c4c13c16c2 := Nat.ne_of_lt (Nat.lt_of_lt_of_le P0.lt sz_b3x14_69c4c13c16c2)
    have f17 := (Fc2_0_7.other W6 (Ne.symm ne16))
    have f18 := (Fc2_0_8.wr W6)
    exact own_retV X6 hx hlk hret (hb hby own_d8_39) (by decide) (by decide) e6 ⟨N6, K6, ⟨b6x14_69c4c13c16c2, b3x14_69c4c13c16c2, _, _, rfl, hq2_0_0, sz_b6x14_69c4c13c16c2, sz_b3x14_69c4c13c16c2, f7, OFc2_0_4, f8, f9, f10, f11, f12, F6, f13, f15, f17, OFc2_0_7, f18, trivial⟩⟩
theorem own_pd12 : parseMethodDescriptor "(Lcom/example/lonborg/lonborg/Item;)V" = some ⟨[(.object own_s1)], none⟩ := by decide +kernel
theorem own_d17_0 : decode prog_4_method_3_code 0 = .ok (.aload_n 0, 1) := by decide +kernel
theorem own_d17_1 : decode prog_4_method_3_code 1 = .ok (.getfield 11, 3) := by decide +kernel
theorem own_d17_4 : decode prog_4_method_3_code 4 = .ok (.iconst 0, 1) := by decide +kernel
theorem own_d17_5 : decode prog_4_method_3_code 5 = .ok (.aaload, 1) := by decide +kernel
theorem own_d17_6 : decode prog_4_method_3_code 6 = .ok (.areturn, 1) := by decide +kernel
theorem own_ef17 (m : MethodId) (x0 : Addr) : entryFrame m #[(.ref x0)] 1 = mkF m 0 #[.val (.ref x0)] [] := by first | (simp [entryFrame, mkF, argsToLocals, Value.category]; done) | rfl
def own_Q17_73 (Z : State) (b2x4_14c5034 : Addr) (b2x5_18c4c5034 : Addr) (k2x5_18c4c5034c2c5050 : ClassId) (b5002 : Addr) (h0 : Heap) (n0 : Nat) (v : Option Value) (h : Heap) (L : List Loc) : Prop := Fr n0 L ∧ Keep h0 h [] ∧ ((v = some (.ref b5002) ∧ True))
set_option maxRecDepth 65536 in
set_option maxHeartbeats 40000000 in
theorem own_rm17_73 (l : Launch) (Z : State) (a0 : Array Value) (hw : ∀ d ∈ tables_1, d.before a0 Z = true) (ws : List Jvm.Cond) (b2x4_14c5034 : Addr) (b2x5_18c4c5034 : Addr) (k2x5_18c4c5034c2c5050 : ClassId) (b5002 : Addr) (h0 : Heap) (n0 : Nat) (Z0 : n0 ≤ h0.size) (P0 : Fld Z h0 b2x4_14c5034 own_s4 "items" own_s7 (.ref b2x5_18c4c5034)) (P1 : Arv Z h0 b2x5_18c4c5034 k2x5_18c4c5034c2c5050 (.object own_s1) (64 : Int32) [(.ref b5002)] .null) (OFc5050_0_0 : Ovr Z k2x5_18c4c5034c2c5050 own_s1) :
    MetFree l own_y5 (head1 (Jvm.Cond.code own_y5 prog_4_method_3_code 1 (some (.object own_s1)) :: ws) ({ frames := 0, cells := 0, slots := 0, locals := 0 } : Room)) (fun a U => a = #[(.ref b2x4_14c5034)] ∧ Z.Warmed39 U.vm ∧ U.heap = h0) (fun _ _ _ _ _ => True) (fun _ U o U' => ∃ v L, o = .returned v ∧ own_Q17_73 Z b2x4_14c5034 b2x5_18c4c5034 k2x5_18c4c5034c2c5050 b5002 h0 n0 v U'.heap L ∧ FrameEnd U o U' L ({ frames := 0, cells := 0, slots := 0, locals := 0 } : Room).cells ({ frames := 0, cells := 0, slots := 0, locals := 0 } : Room).slots) := by
  refine MetFree.of_bodySF (plainFor_of_name own_pn2) hisR ?_
  intro p e s m args below meth c s₁ Bd hml0 hP hK
  obtain ⟨rfl, hZ, hh⟩ := hP
  have hx := Bd.exec
  have hlk := Bd.notSynchronized
  have hret := Bd.returns
  have hby := Bd.bytes
  have hml : c.maxLocals = 1 := hml0
  have hown : s.vm.findClass own_s4 = some m.cls := findClass_of_methodNamed Bd.named
  have hnm := (name_of_methodNamed Bd.named Bd.method).1
  have X0 : Stand p l e ({ frames := 0, cells := 0, slots := 0, locals := 0 } : Room) s m #[(.ref b2x4_14c5034)] below meth c s₁ [] 0 0 := Stand.of_body Bd
  have e0 : s₁.heap = h0 := by rw [← hh, Bd.state]; rfl
  have N0 := Fr.nil n0
  refine own_open (Q := own_Q17_73 Z b2x4_14c5034 b2x5_18c4c5034 k2x5_18c4c5034c2c5050 b5002 h0 n0) (own_ef17 m b2x4_14c5034) ?_
  refine own_st (fun t k => XS.aloadN X0.here hx rfl (hb hby own_d17_0) rfl rfl k) ?_
  refine own_gF X0 hx hZ hown (own_w hw 53 rfl) Via.refl e0 P0 (hb hby own_d17_1) rfl rfl fun T1 X1 e1 => ?_
  show own_Go _ _ _ _ T1 (mkF m 4 #[.val (.ref b2x4_14c5034)] [(.ref b2x5_18c4c5034)])
  refine own_st (fun t k => XS.iconst X1.here hx rfl (hb hby own_d17_4) k) ?_
  refine own_st (own_aaload X1 hx hZ e1 P1 rfl (j := (0 : Int32)) (v := (.ref b5002)) ⟨by decide, by decide⟩ rfl (g := (mkF m 5 #[.val (.ref b2x4_14c5034)] [(.int (0 : Int32)), (.ref b2x5_18c4c5034)])) rfl rfl (hb hby own_d17_5)) ?_
  exact own_retA X1 hx hlk hret rfl rfl (hb hby own_d17_6) (by decide) (by decide) e1 ⟨N0, (Keep.refl h0 []), ⟨rfl, trivial⟩⟩
theorem own_d7_13 : decode prog_2_method_3_code 13 = .ok (.aload_n 0, 1) := by decide +kernel
theorem own_d7_14 : decode prog_2_method_3_code 14 = .ok (.getfield 10, 3) := by decide +kernel
theorem own_d7_17 : decode prog_2_method_3_code 17 = .ok (.invokevirtual 31, 3) := by decide +kernel
def own_Q7_72 (Z : State) (b5032 : Addr) (b2x4_14c5034 : Addr) (b2x5_18c4c5034 : Addr) (k2x5_18c4c5034c2c5050 : ClassId) (b5002 : Addr) (h0 : Heap) (n0 : Nat) (v : Option Value) (h : Heap) (L : List Loc) : Prop := Fr n0 L ∧ Keep h0 h [] ∧ ((v = some (.ref b5002) ∧ True))
set_option maxRecDepth 65536 in
set_option maxHeartbeats 40000000 in
theorem own_rm7_72 (l : Launch) (Z : State) (a0 : Array Value) (hw : ∀ d ∈ tables_1, d.before a0 Z = true) (ws : List Jvm.Cond) (b5032 : Addr) (b2x4_14c5034 : Addr) (b2x5_18c4c5034 : Addr) (k2x5_18c4c5034c2c5050 : ClassId) (b5002 : Addr) (h0 : Heap) (n0 : Nat) (Z0 : n0 ≤ h0.size) (P0 : Fld Z h0 b5032 own_s5 "size" "J" (.long ((0 : Int64) + (1 : Int64)))) (P1 : Fld Z h0 b5032 own_s5 "root" "Lcom/example/lonborg/lonborg/ItemTree$Node;" (.ref b2x4_14c5034)) (P2 : Fld Z h0 b2x4_14c5034 own_s4 "items" own_s7 (.ref b2x5_18c4c5034)) (P3 : Arv Z h0 b2x5_18c4c5034 k2x5_18c4c5034c2c5050 (.object own_s1) (64 : Int32) [(.ref b5002)] .null) (OFc5050_0_0 : Ovr Z k2x5_18c4c5034c2c5050 own_s1) (P5 : Exa Z h0 b2x4_14c5034 own_s4) :
    MetFree l own_y7 (head1 (Jvm.Cond.code own_y7 prog_2_method_3_code 1 (some (.object own_s1)) :: ws) ({ frames := 1, cells := 0, slots := 0, locals := 12 } : Room)) (fun a U => a = #[(.ref b5032)] ∧ Z.Warmed39 U.vm ∧ U.heap = h0) (fun _ _ _ _ _ => True) (fun _ U o U' => ∃ v L, o = .returned v ∧ own_Q7_72 Z b5032 b2x4_14c5034 b2x5_18c4c5034 k2x5_18c4c5034c2c5050 b5002 h0 n0 v U'.heap L ∧ FrameEnd U o U' L ({ frames := 1, cells := 0, slots := 0, locals := 12 } : Room).cells ({ frames := 1, cells := 0, slots := 0, locals := 12 } : Room).slots) := by
  refine MetFree.of_bodySF (plainFor_of_name own_pn3) hisR ?_
  intro p e s m args below meth c s₁ Bd hml0 hP hK
  obtain ⟨rfl, hZ, hh⟩ := hP
  have hx := Bd.exec
  have hlk := Bd.notSynchronized
  have hret := Bd.returns
  have hby := Bd.bytes
  have hml : c.maxLocals = 1 := hml0
  have hown : s.vm.findClass own_s5 = some m.cls := findClass_of_methodNamed Bd.named
  have hnm := (name_of_methodNamed Bd.named Bd.method).1
  have X0 : Stand p l e ({ frames := 1, cells := 0, slots := 0, locals := 12 } : Room) s m #[(.ref b5032)] below meth c s₁ [] 0 0 := Stand.of_body Bd
  have e0 : s₁.heap = h0 := by rw [← hh, Bd.state]; rfl
  have N0 := Fr.nil n0
  refine own_open (Q := own_Q7_72 Z b5032 b2x4_14c5034 b2x5_18c4c5034 k2x5_18c4c5034c2c5050 b5002 h0 n0) (own_ef7 m b5032) ?_
  refine own_st (fun t k => XS.aloadN X0.here hx rfl (hb hby own_d7_0) rfl rfl k) ?_
  refine own_gF X0 hx hZ hown (own_w hw 62 rfl) Via.refl e0 P0 (hb hby own_d7_1) rfl rfl fun T1 X1 e1 => ?_
  show own_Go _ _ _ _ T1 (mkF m 4 #[.val (.ref b5032)] [(.long ((0 : Int64) + (1 : Int64)))])
  refine own_st (fun t k => XS.lconst X1.here hx rfl (hb hby own_d7_4) (XS.lcmp X1.here hx rfl (hb hby own_d7_5) rfl (XS.ifYes X1.here hx rfl (pc0 := 6) (pc' := 13) rfl (hb hby own_d7_6) rfl ((if0 _ _).trans (feq (by decide : ¬ ((lcmpW ((0 : Int64) + (1 : Int64)) (0 : Int64)) = (0 : Int32)))).2) (by decide) (by decide) k))) ?_
  show own_Go _ _ _ _ T1 (mkF m 13 #[.val (.ref b5032)] [])
  refine own_st (fun t k => XS.aloadN X1.here hx rfl (hb hby own_d7_13) rfl rfl k) ?_
  refine own_gF X1 hx hZ hown (own_w hw 55 rfl) Via.refl e1 P1 (hb hby own_d7_14) rfl rfl fun T2 X2 e2 => ?_
  obtain ⟨cq3, kq3, q3a, q3b, q3c⟩ := isOf hZ e2 P5
  obtain ⟨_, _, ⟨T3, L3, k3, n3⟩, -, X3, ⟨Lc3, hQ3, l3, y3, z3⟩, st3⟩ := X2.virtualBack hx (y := (⟨own_s0, "first", own_s11⟩ : MethodName)) (z := own_y5) hown (mvT hZ (own_w hw 123 rfl)) (mvT hZ (own_w hw 124 rfl)) (own_nf (args := #[]) (mvT hZ (own_w hw 90 rfl)) rfl) (mvT hZ (own_w hw 125 rfl)) (mvT hZ (own_w hw 126 rfl)) (by decide) (backOf (W := 0) (own_rm17_73 l Z a0 hw [] b2x4_14c5034 b2x5_18c4c5034 k2x5_18c4c5034c2c5050 b5002 h0 n0 Z0 P2 P3 OFc5050_0_0) hZ (own_w hw 127 rfl) (own_w hw 37 rfl) (by decide) (by decide)) q3a q3c (g := (mkF m 17 #[.val (.ref b5032)] [(.ref b2x4_14c5034)])) rfl (by rw [hml]; rfl) (Steps.refl _) (argsL := []) (rest := []) (lenOf own_pd3 rfl) rfl (by show 2 * 0 + _ ≤ _; exact Nat.le_of_eq rfl) (hb hby own_d7_17) (fun _ _ => ⟨rfl, e2, (by decide : 0 + 0 ≤ _), (by decide : 0 + 0 ≤ _)⟩)
  dsimp only [Pt.U, Pt.locs, Pt.cells, Pt.slots] at X3 l3 y3 z3 st3 hQ3
  subst l3 y3 z3
  obtain ⟨N3q, Kq3, hL3⟩ := hQ3
  have N3 := Fr.app N0 N3q
  have K3 : Keep h0 T3.heap [] := (Keep.refl h0 []).trans Kq3 all0
  have Z3 := Nat.le_trans Z0 Kq3.1
  rcases hL3 with ⟨rfl, -⟩
  · skip
    refine own_st (fun t k => st3.trans k) ?_
    show own_Go _ _ _ _ T3 (mkF m 20 #[.val (.ref b5032)] [(.ref b5002)])
    exact own_retA X3 hx hlk hret rfl rfl (hb hby own_d7_20) (by decide) (by decide) rfl ⟨N3, K3, ⟨rfl, trivial⟩⟩
theorem own_d18_0 : decode prog_1_method_4_code 0 = .ok (.aload_n 0, 1) := by decide +kernel
theorem own_d18_1 : decode prog_1_method_4_code 1 = .ok (.getfield 13, 3) := by decide +kernel
theorem own_d18_4 : decode prog_1_method_4_code 4 = .ok (.lreturn, 1) := by decide +kernel
theorem own_ef18 (m : MethodId) (x0 : Addr) : entryFrame m #[(.ref x0)] 1 = mkF m 0 #[.val (.ref x0)] [] := by first | (simp [entryFrame, mkF, argsToLocals, Value.category]; done) | rfl
def own_Q18 (rp0 : Addr) (u_priority_rp0 : Int64) (h0 : Heap) (n0 : Nat) (v : Option Value) (h : Heap) (L : List Loc) : Prop := Fr n0 L ∧ h = h0 ∧ ((v = some (.long u_priority_rp0) ∧ True))
set_option maxRecDepth 65536 in
set_option maxHeartbeats 40000000 in
theorem own_rm18 (l : Launch) (Z : State) (a0 : Array Value) (hw : ∀ d ∈ tables_1, d.before a0 Z = true) (ws : List Jvm.Cond) (rp0 : Addr) (u_priority_rp0 : Int64) (h0 : Heap) (n0 : Nat) (Z0 : n0 ≤ h0.size) (F_priority_rp0 : Fld Z h0 rp0 own_s1 "priority" "J" (.long u_priority_rp0)) :
    MetFree l (⟨own_s1, "priority", "()J"⟩ : MethodName) (head1 (Jvm.Cond.code (⟨own_s1, "priority", "()J"⟩ : MethodName) prog_1_method_4_code 1 (some .long) :: ws) ({ frames := 0, cells := 0, slots := 0, locals := 0 } : Room)) (fun a U => a = #[(.ref rp0)] ∧ Z.Warmed39 U.vm ∧ U.heap = h0) (fun _ _ _ _ _ => True) (fun _ U o U' => ∃ v L, o = .returned v ∧ own_Q18 rp0 u_priority_rp0 h0 n0 v U'.heap L ∧ FrameEnd U o U' L ({ frames := 0, cells := 0, slots := 0, locals := 0 } : Room).cells ({ frames := 0, cells := 0, slots := 0, locals := 0 } : Room).slots) := by
  refine MetFree.of_bodySF (plainFor_of_name own_pn0) hisR ?_
  intro p e s m args below meth c s₁ Bd hml0 hP hK
  obtain ⟨rfl, hZ, hh⟩ := hP
  have hx := Bd.exec
  have hlk := Bd.notSynchronized
  have hret := Bd.returns
  have hby := Bd.bytes
  have hml : c.maxLocals = 1 := hml0
  have hown : s.vm.findClass own_s1 = some m.cls := findClass_of_methodNamed Bd.named
  have hnm := (name_of_methodNamed Bd.named Bd.method).1
  have X0 : Stand p l e ({ frames := 0, cells := 0, slots := 0, locals := 0 } : Room) s m #[(.ref rp0)] below meth c s₁ [] 0 0 := Stand.of_body Bd
  have e0 : s₁.heap = h0 := by rw [← hh, Bd.state]; rfl
  have N0 := Fr.nil n0
  refine own_open (Q := own_Q18 rp0 u_priority_rp0 h0 n0) (own_ef18 m rp0) ?_
  refine own_st (fun t k => XS.aloadN X0.here hx rfl (hb hby own_d18_0) rfl rfl k) ?_
  refine own_gF X0 hx hZ hown (own_w hw 21 rfl) Via.refl e0 F_priority_rp0 (hb hby own_d18_1) rfl rfl fun T1 X1 e1 => ?_
  show own_Go _ _ _ _ T1 (mkF m 4 #[.val (.ref rp0)] [(.long u_priority_rp0)])
  exact own_retJ X1 hx hlk hret (hb hby own_d18_4) (by decide) (by decide) e1 ⟨N0, rfl, ⟨rfl, trivial⟩⟩
theorem own_pd13 : parseMethodDescriptor "()J" = some ⟨[], some .long⟩ := by decide +kernel
theorem own_d19_0 : decode prog_1_method_3_code 0 = .ok (.aload_n 0, 1) := by decide +kernel
theorem own_d19_1 : decode prog_1_method_3_code 1 = .ok (.getfield 7, 3) := by decide +kernel
theorem own_d19_4 : decode prog_1_method_3_code 4 = .ok (.lreturn, 1) := by decide +kernel
theorem own_ef19 (m : MethodId) (x0 : Addr) : entryFrame m #[(.ref x0)] 1 = mkF m 0 #[.val (.ref x0)] [] := by first | (simp [entryFrame, mkF, argsToLocals, Value.category]; done) | rfl
def own_Q19 (rp0 : Addr) (u_id_rp0 : Int64) (h0 : Heap) (n0 : Nat) (v : Option Value) (h : Heap) (L : List Loc) : Prop := Fr n0 L ∧ h = h0 ∧ ((v = some (.long u_id_rp0) ∧ True))
set_option maxRecDepth 65536 in
set_option maxHeartbeats 40000000 in
theorem own_rm19 (l : Launch) (Z : State) (a0 : Array Value) (hw : ∀ d ∈ tables_1, d.before a0 Z = true) (ws : List Jvm.Cond) (rp0 : Addr) (u_id_rp0 : Int64) (h0 : Heap) (n0 : Nat) (Z0 : n0 ≤ h0.size) (F_id_rp0 : Fld Z h0 rp0 own_s1 "id" "J" (.long u_id_rp0)) :
    MetFree l (⟨own_s1, "id", "()J"⟩ : MethodName) (head1 (Jvm.Cond.code (⟨own_s1, "id", "()J"⟩ : MethodName) prog_1_method_3_code 1 (some .long) :: ws) ({ frames := 0, cells := 0, slots := 0, locals := 0 } : Room)) (fun a U => a = #[(.ref rp0)] ∧ Z.Warmed39 U.vm ∧ U.heap = h0) (fun _ _ _ _ _ => True) (fun _ U o U' => ∃ v L, o = .returned v ∧ own_Q19 rp0 u_id_rp0 h0 n0 v U'.heap L ∧ FrameEnd U o U' L ({ frames := 0, cells := 0, slots := 0, locals := 0 } : Room).cells ({ frames := 0, cells := 0, slots := 0, locals := 0 } : Room).slots) := by
  refine MetFree.of_bodySF (plainFor_of_name own_pn0) hisR ?_
  intro p e s m args below meth c s₁ Bd hml0 hP hK
  obtain ⟨rfl, hZ, hh⟩ := hP
  have hx := Bd.exec
  have hlk := Bd.notSynchronized
  have hret := Bd.returns
  have hby := Bd.bytes
  have hml : c.maxLocals = 1 := hml0
  have hown : s.vm.findClass own_s1 = some m.cls := findClass_of_methodNamed Bd.named
  have hnm := (name_of_methodNamed Bd.named Bd.method).1
  have X0 : Stand p l e ({ frames := 0, cells := 0, slots := 0, locals := 0 } : Room) s m #[(.ref rp0)] below meth c s₁ [] 0 0 := Stand.of_body Bd
  have e0 : s₁.heap = h0 := by rw [← hh, Bd.state]; rfl
  have N0 := Fr.nil n0
  refine own_open (Q := own_Q19 rp0 u_id_rp0 h0 n0) (own_ef19 m rp0) ?_
  refine own_st (fun t k => XS.aloadN X0.here hx rfl (hb hby own_d19_0) rfl rfl k) ?_
  refine own_gF X0 hx hZ hown (own_w hw 19 rfl) Via.refl e0 F_id_rp0 (hb hby own_d19_1) rfl rfl fun T1 X1 e1 => ?_
  show own_Go _ _ _ _ T1 (mkF m 4 #[.val (.ref rp0)] [(.long u_id_rp0)])
  exact own_retJ X1 hx hlk hret (hb hby own_d19_4) (by decide) (by decide) e1 ⟨N0, rfl, ⟨rfl, trivial⟩⟩
theorem own_d20_0 : decode prog_2_method_10_code 0 = .ok (.aload_n 0, 1) := by decide +kernel
theorem own_d20_1 : decode prog_2_method_10_code 1 = .ok (.invokevirtual 71, 3) := by decide +kernel
theorem own_d20_4 : decode prog_2_method_10_code 4 = .ok (.lload_n 1, 1) := by decide +kernel
theorem own_d20_5 : decode prog_2_method_10_code 5 = .ok (.lcmp, 1) := by decide +kernel
theorem own_d20_6 : decode prog_2_method_10_code 6 = .ok (.ifCond .lt 21, 3) := by decide +kernel
theorem own_d20_9 : decode prog_2_method_10_code 9 = .ok (.aload_n 0, 1) := by decide +kernel
theorem own_d20_10 : decode prog_2_method_10_code 10 = .ok (.invokevirtual 71, 3) := by decide +kernel
theorem own_d20_13 : decode prog_2_method_10_code 13 = .ok (.lload_n 1, 1) := by decide +kernel
theorem own_d20_14 : decode prog_2_method_10_code 14 = .ok (.lcmp, 1) := by decide +kernel
theorem own_d20_15 : decode prog_2_method_10_code 15 = .ok (.ifCond .ne 16, 3) := by decide +kernel
theorem own_d20_18 : decode prog_2_method_10_code 18 = .ok (.aload_n 0, 1) := by decide +kernel
theorem own_d20_19 : decode prog_2_method_10_code 19 = .ok (.invokevirtual 77, 3) := by decide +kernel
theorem own_d20_22 : decode prog_2_method_10_code 22 = .ok (.lload_n 3, 1) := by decide +kernel
theorem own_d20_23 : decode prog_2_method_10_code 23 = .ok (.lcmp, 1) := by decide +kernel
theorem own_d20_24 : decode prog_2_method_10_code 24 = .ok (.ifCond .ge 7, 3) := by decide +kernel
theorem own_d20_27 : decode prog_2_method_10_code 27 = .ok (.iconst 1, 1) := by decide +kernel
theorem own_d20_28 : decode prog_2_method_10_code 28 = .ok (.goto 4, 3) := by decide +kernel
theorem own_d20_31 : decode prog_2_method_10_code 31 = .ok (.iconst 0, 1) := by decide +kernel
theorem own_d20_32 : decode prog_2_method_10_code 32 = .ok (.ireturn, 1) := by decide +kernel
theorem own_ef20 (m : MethodId) (x0 : Addr) (x1 : Int64) (x2 : Int64) : entryFrame m #[(.ref x0), (.long x1), (.long x2)] 5 = mkF m 0 #[.val (.ref x0), .val (.long x1), .second, .val (.long x2), .second] [] := by first | (simp [entryFrame, mkF, argsToLocals, Value.category]; done) | rfl
def own_Q20 (rp0 : Addr) (jp1 : Int64) (jp2 : Int64) (u_priority_rp0 : Int64) (u_id_rp0 : Int64) (h0 : Heap) (n0 : Nat) (v : Option Value) (h : Heap) (L : List Loc) : Prop := Fr n0 L ∧ h = h0 ∧ ((v = some (.int (1 : Int32)) ∧ (own_lt u_priority_rp0 u_id_rp0 jp1 jp2) ∧ True) ∨ (v = some (.int (0 : Int32)) ∧ (¬ (own_lt u_priority_rp0 u_id_rp0 jp1 jp2)) ∧ True))
set_option maxRecDepth 65536 in
set_option maxHeartbeats 40000000 in
theorem own_rm20 (l : Launch) (Z : State) (a0 : Array Value) (hw : ∀ d ∈ tables_1, d.before a0 Z = true) (ws : List Jvm.Cond) (rp0 : Addr) (jp1 : Int64) (jp2 : Int64) (u_priority_rp0 : Int64) (u_id_rp0 : Int64) (h0 : Heap) (n0 : Nat) (Z0 : n0 ≤ h0.size) (F_priority_rp0 : Fld Z h0 rp0 own_s1 "priority" "J" (.long u_priority_rp0)) (E_rp0 : Exa Z h0 rp0 own_s1) (F_id_rp0 : Fld Z h0 rp0 own_s1 "id" "J" (.long u_id_rp0)) :
    MetFree l own_y4 (head1 (Jvm.Cond.code own_y4 prog_2_method_10_code 5 (some .boolean) :: ws) ({ frames := 1, cells := 0, slots := 0, locals := 12 } : Room)) (fun a U => a = #[(.ref rp0), (.long jp1), (.long jp2)] ∧ Z.Warmed39 U.vm ∧ U.heap = h0) (fun _ _ _ _ _ => True) (fun _ U o U' => ∃ v L, o = .returned v ∧ own_Q20 rp0 jp1 jp2 u_priority_rp0 u_id_rp0 h0 n0 v U'.heap L ∧ FrameEnd U o U' L ({ frames := 1, cells := 0, slots := 0, locals := 12 } : Room).cells ({ frames := 1, cells := 0, slots := 0, locals := 12 } : Room).slots) := by
  refine MetFree.of_bodySF (plainFor_of_name own_pn3) hisR ?_
  intro p e s m args below meth c s₁ Bd hml0 hP hK
  obtain ⟨rfl, hZ, hh⟩ := hP
  have hx := Bd.exec
  have hlk := Bd.notSynchronized
  have hret := Bd.returns
  have hby := Bd.bytes
  have hml : c.maxLocals = 5 := hml0
  have hown : s.vm.findClass own_s5 = some m.cls := findClass_of_methodNamed Bd.named
  have hnm := (name_of_methodNamed Bd.named Bd.method).1
  have X0 : Stand p l e ({ frames := 1, cells := 0, slots := 0, locals := 12 } : Room) s m #[(.ref rp0), (.long jp1), (.long jp2)] below meth c s₁ [] 0 0 := Stand.of_body Bd
  have e0 : s₁.heap = h0 := by rw [← hh, Bd.state]; rfl
  have N0 := Fr.nil n0
  refine own_open (Q := own_Q20 rp0 jp1 jp2 u_priority_rp0 u_id_rp0 h0 n0) (own_ef20 m rp0 jp1 jp2) ?_
  refine own_st (fun t k => XS.aloadN X0.here hx rfl (hb hby own_d20_0) rfl rfl k) ?_
  refine own_cV (a := rp0) X0 hx hZ hown (own_w hw 141 rfl) (own_w hw 129 rfl) (own_w hw 131 rfl) (own_w hw 130 rfl) (own_w hw 6 rfl) (own_w hw 132 rfl) [] [] E_rp0 (own_rm18 l Z a0 hw [] rp0 u_priority_rp0 h0 n0 Z0 F_priority_rp0) 0 (hb hby own_d20_1) (by rw [hml]; rfl) (lenOf own_pd13 rfl) e0 rfl rfl (by show 2 * 0 + _ ≤ _; exact Nat.le_of_eq rfl) (by decide) (by decide) (by decide) (by decide) (by decide) fun v1 T1 L1 X1 hQ1 => ?_
  obtain ⟨N1q, e1, hL1⟩ := hQ1
  have N1 := Fr.app N0 N1q
  rcases hL1 with ⟨rfl, -⟩
  · skip
    show own_Go _ _ _ _ T1 (mkF m 4 #[.val (.ref rp0), .val (.long jp1), .second, .val (.long jp2), .second] [(.long u_priority_rp0)])
    refine own_st (fun t k => XS.lloadN X1.here hx rfl (hb hby own_d20_4) rfl (XS.lcmp X1.here hx rfl (hb hby own_d20_5) rfl k)) ?_
    by_cases hc2 : (lcmpW u_priority_rp0 jp1) < (0 : Int32)
    · skip
      refine own_st (fun t k => XS.ifYes X1.here hx rfl (pc0 := 6) (pc' := 27) rfl (hb hby own_d20_6) rfl ((if0 _ _).trans (tlt hc2).1) (by decide) (by decide) k) ?_
      show own_Go _ _ _ _ T1 (mkF m 27 #[.val (.ref rp0), .val (.long jp1), .second, .val (.long jp2), .second] [])
      refine own_st (fun t k => XS.iconst X1.here hx rfl (hb hby own_d20_27) (XS.goto X1.here hx rfl (pc0 := 28) (pc' := 32) rfl (hb hby own_d20_28) (by decide) (by decide) k)) ?_
      exact own_retZ X1 hx hlk (t := .boolean) hret (by simp) (hb hby own_d20_32) (by decide) (by decide) e1 ⟨N1, rfl, (Or.inl ⟨rfl, (by have o0 := (lw_lt _ _).mp hc2; simp only [own_lt, Int64.lt_iff_toInt_lt, ← Int64.toInt_inj] at o0 ⊢; omega), trivial⟩)⟩
    · skip
      refine own_st (fun t k => XS.ifNo X1.here hx rfl (hb hby own_d20_6) rfl ((if0 _ _).trans (flt hc2).1) k) ?_
      show own_Go _ _ _ _ T1 (mkF m 9 #[.val (.ref rp0), .val (.long jp1), .second, .val (.long jp2), .second] [])
      refine own_st (fun t k => XS.aloadN X1.here hx rfl (hb hby own_d20_9) rfl rfl k) ?_
      refine own_cV (a := rp0) X1 hx hZ hown (own_w hw 141 rfl) (own_w hw 129 rfl) (own_w hw 131 rfl) (own_w hw 130 rfl) (own_w hw 6 rfl) (own_w hw 132 rfl) [] [] E_rp0 (own_rm18 l Z a0 hw [] rp0 u_priority_rp0 h0 n0 Z0 F_priority_rp0) 0 (hb hby own_d20_10) (by rw [hml]; rfl) (lenOf own_pd13 rfl) e1 rfl rfl (by show 2 * 0 + _ ≤ _; exact Nat.le_of_eq rfl) (by decide) (by decide) (by decide) (by decide) (by decide) fun v3 T3 L3 X3 hQ3 => ?_
      obtain ⟨N3q, e3, hL3⟩ := hQ3
      have N3 := Fr.app N1 N3q
      rcases hL3 with ⟨rfl, -⟩
      · skip
        refine own_st (fun t k => XS.lloadN X3.here hx rfl (hb hby own_d20_13) rfl k) ?_
        show own_Go _ _ _ _ T3 (mkF m 14 #[.val (.ref rp0), .val (.long jp1), .second, .val (.long jp2), .second] [(.long jp1), (.long u_priority_rp0)])
        refine own_st (fun t k => XS.lcmp X3.here hx rfl (hb hby own_d20_14) rfl k) ?_
        by_cases hc4 : (lcmpW u_priority_rp0 jp1) = (0 : Int32)
        · skip
          refine own_st (fun t k => XS.ifNo X3.here hx rfl (hb hby own_d20_15) rfl ((if0 _ _).trans (teq hc4).2) (XS.aloadN X3.here hx rfl (hb hby own_d20_18) rfl rfl k)) ?_
          show own_Go _ _ _ _ T3 (mkF m 19 #[.val (.ref rp0), .val (.long jp1), .second, .val (.long jp2), .second] [(.ref rp0)])
          refine own_cV (a := rp0) X3 hx hZ hown (own_w hw 153 rfl) (own_w hw 134 rfl) (own_w hw 136 rfl) (own_w hw 135 rfl) (own_w hw 6 rfl) (own_w hw 137 rfl) [] [] E_rp0 (own_rm19 l Z a0 hw [] rp0 u_id_rp0 h0 n0 Z0 F_id_rp0) 0 (hb hby own_d20_19) (by rw [hml]; rfl) (lenOf own_pd13 rfl) e3 rfl rfl (by show 2 * 0 + _ ≤ _; exact Nat.le_of_eq rfl) (by decide) (by decide) (by decide) (by decide) (by decide) fun v5 T5 L5 X5 hQ5 => ?_
          obtain ⟨N5q, e5, hL5⟩ := hQ5
          have N5 := Fr.app N3 N5q
          rcases hL5 with ⟨rfl, -⟩
          · skip
            refine own_st (fun t k => XS.lloadN X5.here hx rfl (hb hby own_d20_22) rfl (XS.lcmp X5.here hx rfl (hb hby own_d20_23) rfl k)) ?_
            show own_Go _ _ _ _ T5 (mkF m 24 #[.val (.ref rp0), .val (.long jp1), .second, .val (.long jp2), .second] [(.int (lcmpW u_id_rp0 jp2))])
            by_cases hc6 : (lcmpW u_id_rp0 jp2) < (0 : Int32)
            · skip
              refine own_st (fun t k => XS.ifNo X5.here hx rfl (hb hby own_d20_24) rfl ((if0 _ _).trans (tlt hc6).2.1) (XS.iconst X5.here hx rfl (hb hby own_d20_27) (XS.goto X5.here hx rfl (pc0 := 28) (pc' := 32) rfl (hb hby own_d20_28) (by decide) (by decide) k))) ?_
              show own_Go _ _ _ _ T5 (mkF m 32 #[.val (.ref rp0), .val (.long jp1), .second, .val (.long jp2), .second] [(.int (1 : Int32))])
              exact own_retZ X5 hx hlk (t := .boolean) hret (by simp) (hb hby own_d20_32) (by decide) (by decide) e5 ⟨N5, rfl, (Or.inl ⟨rfl, (by have o0 := mt (lw_lt _ _).mpr hc2; have o1 := (lw_eq _ _).mp hc4; have o2 := (lw_lt _ _).mp hc6; simp only [own_lt, Int64.lt_iff_toInt_lt, ← Int64.toInt_inj] at o0 o1 o2 ⊢; omega), trivial⟩)⟩
            · skip
              refine own_st (fun t k => XS.ifYes X5.here hx rfl (pc0 := 24) (pc' := 31) rfl (hb hby own_d20_24) rfl ((if0 _ _).trans (flt hc6).2.1) (by decide) (by decide) (XS.iconst X5.here hx rfl (hb hby own_d20_31) k)) ?_
              exact own_retZ X5 hx hlk (t := .boolean) hret (by simp) (hb hby own_d20_32) (by decide) (by decide) e5 ⟨N5, rfl, (Or.inr ⟨rfl, (by have o0 := mt (lw_lt _ _).mpr hc2; have o1 := (lw_eq _ _).mp hc4; have o2 := mt (lw_lt _ _).mpr hc6; simp only [own_lt, Int64.lt_iff_toInt_lt, ← Int64.toInt_inj] at o0 o1 o2 ⊢; omega), trivial⟩)⟩
        · skip
          refine own_st (fun t k => XS.ifYes X3.here hx rfl (pc0 := 15) (pc' := 31) rfl (hb hby own_d20_15) rfl ((if0 _ _).trans (feq hc4).2) (by decide) (by decide) k) ?_
          show own_Go _ _ _ _ T3 (mkF m 31 #[.val (.ref rp0), .val (.long jp1), .second, .val (.long jp2), .second] [])
          refine own_st (fun t k => XS.iconst X3.here hx rfl (hb hby own_d20_31) k) ?_
          exact own_retZ X3 hx hlk (t := .boolean) hret (by simp) (hb hby own_d20_32) (by decide) (by decide) e3 ⟨N3, rfl, (Or.inr ⟨rfl, (by have o0 := mt (lw_lt _ _).mpr hc2; have o1 := mt (lw_eq _ _).mpr hc4; simp only [own_lt, Int64.lt_iff_toInt_lt, ← Int64.toInt_inj] at o0 o1 ⊢; omega), trivial⟩)⟩
theorem own_pd14 : parseMethodDescriptor "(Lcom/example/lonborg/lonborg/Item;JJ)Z" = some ⟨[(.object own_s1), .long, .long], some .boolean⟩ := by decide +kernel
theorem own_d10_12 : decode prog_4_method_9_code 12 = .ok (.iload_n 2, 1) := by decide +kernel
theorem own_d10_13 : decode prog_4_method_9_code 13 = .ok (.iload_n 3, 1) := by decide +kernel
theorem own_d10_14 : decode prog_4_method_9_code 14 = .ok (.iadd, 1) := by decide +kernel
theorem own_d10_15 : decode prog_4_method_9_code 15 = .ok (.iconst 1, 1) := by decide +kernel
theorem own_d10_16 : decode prog_4_method_9_code 16 = .ok (.iushr, 1) := by decide +kernel
theorem own_d10_17 : decode prog_4_method_9_code 17 = .ok (.istore 4, 2) := by decide +kernel
theorem own_d10_19 : decode prog_4_method_9_code 19 = .ok (.aload_n 0, 1) := by decide +kernel
theorem own_d10_20 : decode prog_4_method_9_code 20 = .ok (.getfield 11, 3) := by decide +kernel
theorem own_d10_23 : decode prog_4_method_9_code 23 = .ok (.iload 4, 2) := by decide +kernel
theorem own_d10_25 : decode prog_4_method_9_code 25 = .ok (.aaload, 1) := by decide +kernel
theorem own_d10_26 : decode prog_4_method_9_code 26 = .ok (.aload_n 1, 1) := by decide +kernel
theorem own_d10_27 : decode prog_4_method_9_code 27 = .ok (.invokevirtual 67, 3) := by decide +kernel
theorem own_d10_30 : decode prog_4_method_9_code 30 = .ok (.aload_n 1, 1) := by decide +kernel
theorem own_d10_31 : decode prog_4_method_9_code 31 = .ok (.invokevirtual 71, 3) := by decide +kernel
theorem own_d10_34 : decode prog_4_method_9_code 34 = .ok (.invokestatic 74, 3) := by decide +kernel
theorem own_d10_37 : decode prog_4_method_9_code 37 = .ok (.ifCond .eq 11, 3) := by decide +kernel
theorem own_d10_40 : decode prog_4_method_9_code 40 = .ok (.iload 4, 2) := by decide +kernel
theorem own_d10_42 : decode prog_4_method_9_code 42 = .ok (.iconst 1, 1) := by decide +kernel
theorem own_d10_43 : decode prog_4_method_9_code 43 = .ok (.iadd, 1) := by decide +kernel
theorem own_d10_44 : decode prog_4_method_9_code 44 = .ok (.istore_n 2, 1) := by decide +kernel
theorem own_d10_45 : decode prog_4_method_9_code 45 = .ok (.goto 6, 3) := by decide +kernel
theorem own_d10_48 : decode prog_4_method_9_code 48 = .ok (.iload 4, 2) := by decide +kernel
theorem own_d10_50 : decode prog_4_method_9_code 50 = .ok (.istore_n 3, 1) := by decide +kernel
theorem own_d10_51 : decode prog_4_method_9_code 51 = .ok (.goto (-44), 3) := by decide +kernel
def own_Q10_101 (Z : State) (b2x4_14c5034 : Addr) (b5012 : Addr) (b2x5_18c4c5034 : Addr) (k2x5_18c4c5034c2c5070 : ClassId) (b5002 : Addr) (jp1 : Int64) (d1 : Int64) (jp0 : Int64) (d0 : Int64) (h0 : Heap) (n0 : Nat) (v : Option Value) (h : Heap) (L : List Loc) : Prop := Fr n0 L ∧ Keep h0 h [] ∧ ((v = some (.int (((((0 : Int32) + ((0 : Int32) + (1 : Int32))).toUInt32 >>> ((1 : Int32) &&& 31).toUInt32).toInt32) + (1 : Int32))) ∧ (own_lt jp0 d0 jp1 d1) ∧ True) ∨ (v = some (.int (0 : Int32)) ∧ (¬ (own_lt jp0 d0 jp1 d1)) ∧ True))
set_option maxRecDepth 65536 in
set_option maxHeartbeats 40000000 in
theorem own_rm10_101 (l : Launch) (Z : State) (a0 : Array Value) (hw : ∀ d ∈ tables_1, d.before a0 Z = true) (ws : List Jvm.Cond) (b2x4_14c5034 : Addr) (b5012 : Addr) (b2x5_18c4c5034 : Addr) (k2x5_18c4c5034c2c5070 : ClassId) (b5002 : Addr) (jp1 : Int64) (d1 : Int64) (jp0 : Int64) (d0 : Int64) (h0 : Heap) (n0 : Nat) (Z0 : n0 ≤ h0.size) (P0 : Fld Z h0 b2x4_14c5034 own_s0 "count" "I" (.int ((0 : Int32) + (1 : Int32)))) (P1 : Fld Z h0 b2x4_14c5034 own_s4 "items" own_s7 (.ref b2x5_18c4c5034)) (P2 : Arv Z h0 b2x5_18c4c5034 k2x5_18c4c5034c2c5070 (.object own_s1) (64 : Int32) [(.ref b5002)] .null) (OFc5070_0_0 : Ovr Z k2x5_18c4c5034c2c5070 own_s1) (P4 : Fld Z h0 b5012 own_s1 "priority" "J" (.long jp1)) (P5 : Exa Z h0 b5012 own_s1) (P6 : Fld Z h0 b5012 own_s1 "id" "J" (.long d1)) (P7 : Fld Z h0 b5002 own_s1 "priority" "J" (.long jp0)) (P8 : Fld Z h0 b5002 own_s1 "id" "J" (.long d0)) (P9 : Exa Z h0 b5002 own_s1) :
    MetFree l own_y2 (head1 (Jvm.Cond.code own_y2 prog_4_method_9_code 5 (some .int) :: ws) ({ frames := 2, cells := 0, slots := 0, locals := 28 } : Room)) (fun a U => a = #[(.ref b2x4_14c5034), (.ref b5012)] ∧ Z.Warmed39 U.vm ∧ U.heap = h0) (fun _ _ _ _ _ => True) (fun _ U o U' => ∃ v L, o = .returned v ∧ own_Q10_101 Z b2x4_14c5034 b5012 b2x5_18c4c5034 k2x5_18c4c5034c2c5070 b5002 jp1 d1 jp0 d0 h0 n0 v U'.heap L ∧ FrameEnd U o U' L ({ frames := 2, cells := 0, slots := 0, locals := 28 } : Room).cells ({ frames := 2, cells := 0, slots := 0, locals := 28 } : Room).slots) := by
  refine MetFree.of_bodySF (plainFor_of_name own_pn2) hisR ?_
  intro p e s m args below meth c s₁ Bd hml0 hP hK
  obtain ⟨rfl, hZ, hh⟩ := hP
  have hx := Bd.exec
  have hlk := Bd.notSynchronized
  have hret := Bd.returns
  have hby := Bd.bytes
  have hml : c.maxLocals = 5 := hml0
  have hown : s.vm.findClass own_s4 = some m.cls := findClass_of_methodNamed Bd.named
  have hnm := (name_of_methodNamed Bd.named Bd.method).1
  have X0 : Stand p l e ({ frames := 2, cells := 0, slots := 0, locals := 28 } : Room) s m #[(.ref b2x4_14c5034), (.ref b5012)] below meth c s₁ [] 0 0 := Stand.of_body Bd
  have e0 : s₁.heap = h0 := by rw [← hh, Bd.state]; rfl
  have N0 := Fr.nil n0
  refine own_open (Q := own_Q10_101 Z b2x4_14c5034 b5012 b2x5_18c4c5034 k2x5_18c4c5034c2c5070 b5002 jp1 d1 jp0 d0 h0 n0) (own_ef10 m b2x4_14c5034 b5012) ?_
  refine own_st (fun t k => XS.iconst X0.here hx rfl (hb hby own_d10_0) (XS.istoreN X0.here hx rfl (hb hby own_d10_1) rfl (l' := #[.val (.ref b2x4_14c5034), .val (.ref b5012), .val (.int (0 : Int32)), .unset, .unset]) rfl k)) ?_
  show own_Go _ _ _ _ s₁ (mkF m 2 #[.val (.ref b2x4_14c5034), .val (.ref b5012), .val (.int (0 : Int32)), .unset, .unset] [])
  refine own_st (fun t k => XS.aloadN X0.here hx rfl (hb hby own_d10_2) rfl rfl k) ?_
  refine own_gF X0 hx hZ hown (own_w hw 78 rfl) (Via.of (own_w hw 79 rfl)) e0 P0 (hb hby own_d10_3) rfl rfl fun T1 X1 e1 => ?_
  refine own_st (fun t k => XS.istoreN X1.here hx rfl (hb hby own_d10_6) rfl (l' := #[.val (.ref b2x4_14c5034), .val (.ref b5012), .val (.int (0 : Int32)), .val (.int ((0 : Int32) + (1 : Int32))), .unset]) rfl k) ?_
  show own_Go _ _ _ _ T1 (mkF m 7 #[.val (.ref b2x4_14c5034), .val (.ref b5012), .val (.int (0 : Int32)), .val (.int ((0 : Int32) + (1 : Int32))), .unset] [])
  refine own_st (fun t k => XS.iloadN X1.here hx rfl (hb hby own_d10_7) rfl (XS.iloadN X1.here hx rfl (hb hby own_d10_8) rfl (XS.icmpNo X1.here hx rfl (hb hby own_d10_9) rfl (tlt (by decide : (0 : Int32) < ((0 : Int32) + (1 : Int32)))).2.1 k))) ?_
  show own_Go _ _ _ _ T1 (mkF m 12 #[.val (.ref b2x4_14c5034), .val (.ref b5012), .val (.int (0 : Int32)), .val (.int ((0 : Int32) + (1 : Int32))), .unset] [])
  refine own_st (fun t k => XS.iloadN X1.here hx rfl (hb hby own_d10_12) rfl (XS.iloadN X1.here hx rfl (hb hby own_d10_13) rfl (XS.iadd X1.here hx rfl (hb hby own_d10_14) rfl k))) ?_
  show own_Go _ _ _ _ T1 (mkF m 15 #[.val (.ref b2x4_14c5034), .val (.ref b5012), .val (.int (0 : Int32)), .val (.int ((0 : Int32) + (1 : Int32))), .unset] [(.int ((0 : Int32) + ((0 : Int32) + (1 : Int32))))])
  refine own_st (fun t k => XS.iconst X1.here hx rfl (hb hby own_d10_15) (XS.iushr X1.here hx rfl (hb hby own_d10_16) rfl (XS.istore X1.here hx rfl (hb hby own_d10_17) rfl (l' := #[.val (.ref b2x4_14c5034), .val (.ref b5012), .val (.int (0 : Int32)), .val (.int ((0 : Int32) + (1 : Int32))), .val (.int ((((0 : Int32) + ((0 : Int32) + (1 : Int32))).toUInt32 >>> ((1 : Int32) &&& 31).toUInt32).toInt32))]) rfl k))) ?_
  show own_Go _ _ _ _ T1 (mkF m 19 #[.val (.ref b2x4_14c5034), .val (.ref b5012), .val (.int (0 : Int32)), .val (.int ((0 : Int32) + (1 : Int32))), .val (.int ((((0 : Int32) + ((0 : Int32) + (1 : Int32))).toUInt32 >>> ((1 : Int32) &&& 31).toUInt32).toInt32))] [])
  refine own_st (fun t k => XS.aloadN X1.here hx rfl (hb hby own_d10_19) rfl rfl k) ?_
  refine own_gF X1 hx hZ hown (own_w hw 53 rfl) Via.refl e1 P1 (hb hby own_d10_20) rfl rfl fun T2 X2 e2 => ?_
  refine own_st (fun t k => XS.iload X2.here hx rfl (hb hby own_d10_23) rfl k) ?_
  show own_Go _ _ _ _ T2 (mkF m 25 #[.val (.ref b2x4_14c5034), .val (.ref b5012), .val (.int (0 : Int32)), .val (.int ((0 : Int32) + (1 : Int32))), .val (.int ((((0 : Int32) + ((0 : Int32) + (1 : Int32))).toUInt32 >>> ((1 : Int32) &&& 31).toUInt32).toInt32))] [(.int ((((0 : Int32) + ((0 : Int32) + (1 : Int32))).toUInt32 >>> ((1 : Int32) &&& 31).toUInt32).toInt32)), (.ref b2x5_18c4c5034)])
  refine own_st (own_aaload X2 hx hZ e2 P2 rfl (j := ((((0 : Int32) + ((0 : Int32) + (1 : Int32))).toUInt32 >>> ((1 : Int32) &&& 31).toUInt32).toInt32)) (v := (.ref b5002)) ⟨by decide, by decide⟩ rfl (g := (mkF m 25 #[.val (.ref b2x4_14c5034), .val (.ref b5012), .val (.int (0 : Int32)), .val (.int ((0 : Int32) + (1 : Int32))), .val (.int ((((0 : Int32) + ((0 : Int32) + (1 : Int32))).toUInt32 >>> ((1 : Int32) &&& 31).toUInt32).toInt32))] [(.int ((((0 : Int32) + ((0 : Int32) + (1 : Int32))).toUInt32 >>> ((1 : Int32) &&& 31).toUInt32).toInt32)), (.ref b2x5_18c4c5034)])) rfl rfl (hb hby own_d10_25)) ?_
  refine own_st (fun t k => XS.aloadN X2.here hx rfl (hb hby own_d10_26) rfl rfl k) ?_
  refine own_cV (a := b5012) X2 hx hZ hown (own_w hw 128 rfl) (own_w hw 129 rfl) (own_w hw 131 rfl) (own_w hw 130 rfl) (own_w hw 6 rfl) (own_w hw 132 rfl) [] [(.ref b5002)] P5 (own_rm18 l Z a0 hw [] b5012 jp1 h0 n0 Z0 P4) 1 (hb hby own_d10_27) (by rw [hml]; rfl) (lenOf own_pd13 rfl) e2 rfl rfl (by show 2 * 0 + _ ≤ _; exact Nat.le_of_eq rfl) (by decide) (by decide) (by decide) (by decide) (by decide) fun v3 T3 L3 X3 hQ3 => ?_
  obtain ⟨N3q, e3, hL3⟩ := hQ3
  have N3 := Fr.app N0 N3q
  rcases hL3 with ⟨rfl, -⟩
  · skip
    show own_Go _ _ _ _ T3 (mkF m 30 #[.val (.ref b2x4_14c5034), .val (.ref b5012), .val (.int (0 : Int32)), .val (.int ((0 : Int32) + (1 : Int32))), .val (.int ((((0 : Int32) + ((0 : Int32) + (1 : Int32))).toUInt32 >>> ((1 : Int32) &&& 31).toUInt32).toInt32))] [(.long jp1), (.ref b5002)])
    refine own_st (fun t k => XS.aloadN X3.here hx rfl (hb hby own_d10_30) rfl rfl k) ?_
    refine own_cV (a := b5012) X3 hx hZ hown (own_w hw 133 rfl) (own_w hw 134 rfl) (own_w hw 136 rfl) (own_w hw 135 rfl) (own_w hw 6 rfl) (own_w hw 137 rfl) [] [(.long jp1), (.ref b5002)] P5 (own_rm19 l Z a0 hw [] b5012 d1 h0 n0 Z0 P6) 3 (hb hby own_d10_31) (by rw [hml]; rfl) (lenOf own_pd13 rfl) e3 rfl rfl (by show 2 * 0 + _ ≤ _; exact Nat.le_of_eq rfl) (by decide) (by decide) (by decide) (by decide) (by decide) fun v4 T4 L4 X4 hQ4 => ?_
    obtain ⟨N4q, e4, hL4⟩ := hQ4
    have N4 := Fr.app N3 N4q
    rcases hL4 with ⟨rfl, -⟩
    · skip
      obtain ⟨_, _, ⟨T5, L5, k5, n5⟩, -, X5, ⟨Lc5, hQ5, l5, y5, z5⟩, st5⟩ := own_callSN X4 hx (y := own_y4) hown (own_mvLN hZ (own_w hw 138 rfl)) (mvT hZ (own_w hw 139 rfl)) (mvT hZ (own_w hw 30 rfl)) (mvT hZ (own_w hw 140 rfl)) (by decide) (backOf (W := 0) (own_rm20 l Z a0 hw [] b5002 jp1 d1 jp0 d0 h0 n0 Z0 P7 P9 P8) hZ (own_w hw 140 rfl) (own_w hw 30 rfl) (by decide) (by decide)) (g := (mkF m 34 #[.val (.ref b2x4_14c5034), .val (.ref b5012), .val (.int (0 : Int32)), .val (.int ((0 : Int32) + (1 : Int32))), .val (.int ((((0 : Int32) + ((0 : Int32) + (1 : Int32))).toUInt32 >>> ((1 : Int32) &&& 31).toUInt32).toInt32))] [(.long d1), (.long jp1), (.ref b5002)])) rfl (by rw [hml]; rfl) (argsL := [(.ref b5002), (.long jp1), (.long d1)]) (rest := []) (lenOf own_pd14 rfl) rfl (by show 2 * 0 + _ ≤ _; exact Nat.le_of_eq rfl) (hb hby own_d10_34) (fun _ _ => ⟨rfl, e4, (by decide : 0 + 0 ≤ _), (by decide : 0 + 0 ≤ _)⟩)
      dsimp only [Pt.U, Pt.locs, Pt.cells, Pt.slots] at X5 l5 y5 z5 st5 hQ5
      subst l5 y5 z5
      obtain ⟨N5q, e5, hL5⟩ := hQ5
      have N5 := Fr.app N4 N5q
      rcases hL5 with ⟨rfl, hq5_0_0, -⟩ | ⟨rfl, hq5_1_0, -⟩
      · skip
        refine own_st st5 ?_
        show own_Go _ _ _ _ T5 (mkF m 37 #[.val (.ref b2x4_14c5034), .val (.ref b5012), .val (.int (0 : Int32)), .val (.int ((0 : Int32) + (1 : Int32))), .val (.int ((((0 : Int32) + ((0 : Int32) + (1 : Int32))).toUInt32 >>> ((1 : Int32) &&& 31).toUInt32).toInt32))] [(.int (1 : Int32))])
        refine own_st (fun t k => XS.ifNo X5.here hx rfl (hb hby own_d10_37) rfl ((if0 _ _).trans (feq (by decide : ¬ ((1 : Int32) = (0 : Int32)))).1) (XS.iload X5.here hx rfl (hb hby own_d10_40) rfl (XS.iconst X5.here hx rfl (hb hby own_d10_42) k))) ?_
        show own_Go _ _ _ _ T5 (mkF m 43 #[.val (.ref b2x4_14c5034), .val (.ref b5012), .val (.int (0 : Int32)), .val (.int ((0 : Int32) + (1 : Int32))), .val (.int ((((0 : Int32) + ((0 : Int32) + (1 : Int32))).toUInt32 >>> ((1 : Int32) &&& 31).toUInt32).toInt32))] [(.int (1 : Int32)), (.int ((((0 : Int32) + ((0 : Int32) + (1 : Int32))).toUInt32 >>> ((1 : Int32) &&& 31).toUInt32).toInt32))])
        refine own_st (fun t k => XS.iadd X5.here hx rfl (hb hby own_d10_43) rfl (XS.istoreN X5.here hx rfl (hb hby own_d10_44) rfl (l' := #[.val (.ref b2x4_14c5034), .val (.ref b5012), .val (.int (((((0 : Int32) + ((0 : Int32) + (1 : Int32))).toUInt32 >>> ((1 : Int32) &&& 31).toUInt32).toInt32) + (1 : Int32))), .val (.int ((0 : Int32) + (1 : Int32))), .val (.int ((((0 : Int32) + ((0 : Int32) + (1 : Int32))).toUInt32 >>> ((1 : Int32) &&& 31).toUInt32).toInt32))]) rfl (XS.goto X5.here hx rfl (pc0 := 45) (pc' := 51) rfl (hb hby own_d10_45) (by decide) (by decide) k))) ?_
        show own_Go _ _ _ _ T5 (mkF m 51 #[.val (.ref b2x4_14c5034), .val (.ref b5012), .val (.int (((((0 : Int32) + ((0 : Int32) + (1 : Int32))).toUInt32 >>> ((1 : Int32) &&& 31).toUInt32).toInt32) + (1 : Int32))), .val (.int ((0 : Int32) + (1 : Int32))), .val (.int ((((0 : Int32) + ((0 : Int32) + (1 : Int32))).toUInt32 >>> ((1 : Int32) &&& 31).toUInt32).toInt32))] [])
        refine own_st (fun t k => XS.goto X5.here hx rfl (pc0 := 51) (pc' := 7) rfl (hb hby own_d10_51) (by decide) (by decide) (XS.iloadN X5.here hx rfl (hb hby own_d10_7) rfl (XS.iloadN X5.here hx rfl (hb hby own_d10_8) rfl k))) ?_
        show own_Go _ _ _ _ T5 (mkF m 9 #[.val (.ref b2x4_14c5034), .val (.ref b5012), .val (.int (((((0 : Int32) + ((0 : Int32) + (1 : Int32))).toUInt32 >>> ((1 : Int32) &&& 31).toUInt32).toInt32) + (1 : Int32))), .val (.int ((0 : Int32) + (1 : Int32))), .val (.int ((((0 : Int32) + ((0 : Int32) + (1 : Int32))).toUInt32 >>> ((1 : Int32) &&& 31).toUInt32).toInt32))] [(.int ((0 : Int32) + (1 : Int32))), (.int (((((0 : Int32) + ((0 : Int32) + (1 : Int32))).toUInt32 >>> ((1 : Int32) &&& 31).toUInt32).toInt32) + (1 : Int32)))])
        refine own_st (fun t k => XS.icmpYes X5.here hx rfl (pc0 := 9) (pc' := 54) rfl (hb hby own_d10_9) rfl (flt (by decide : ¬ ((((((0 : Int32) + ((0 : Int32) + (1 : Int32))).toUInt32 >>> ((1 : Int32) &&& 31).toUInt32).toInt32) + (1 : Int32)) < ((0 : Int32) + (1 : Int32))))).2.1 (by decide) (by decide) (XS.iloadN X5.here hx rfl (hb hby own_d10_54) rfl k)) ?_
        exact own_retI X5 hx hlk hret (hb hby own_d10_55) (by decide) (by decide) e5 ⟨N5, (Keep.refl h0 []), (Or.inl ⟨rfl, hq5_0_0, trivial⟩)⟩
      · skip
        refine own_st st5 ?_
        show own_Go _ _ _ _ T5 (mkF m 37 #[.val (.ref b2x4_14c5034), .val (.ref b5012), .val (.int (0 : Int32)), .val (.int ((0 : Int32) + (1 : Int32))), .val (.int ((((0 : Int32) + ((0 : Int32) + (1 : Int32))).toUInt32 >>> ((1 : Int32) &&& 31).toUInt32).toInt32))] [(.int (0 : Int32))])
        refine own_st (fun t k => XS.ifYes X5.here hx rfl (pc0 := 37) (pc' := 48) rfl (hb hby own_d10_37) rfl ((if0 _ _).trans (teq (by decide : (0 : Int32) = (0 : Int32))).1) (by decide) (by decide) (XS.iload X5.here hx rfl (hb hby own_d10_48) rfl (XS.istoreN X5.here hx rfl (hb hby own_d10_50) rfl (l' := #[.val (.ref b2x4_14c5034), .val (.ref b5012), .val (.int (0 : Int32)), .val (.int ((((0 : Int32) + ((0 : Int32) + (1 : Int32))).toUInt32 >>> ((1 : Int32) &&& 31).toUInt32).toInt32)), .val (.int ((((0 : Int32) + ((0 : Int32) + (1 : Int32))).toUInt32 >>> ((1 : Int32) &&& 31).toUInt32).toInt32))]) rfl k))) ?_
        show own_Go _ _ _ _ T5 (mkF m 51 #[.val (.ref b2x4_14c5034), .val (.ref b5012), .val (.int (0 : Int32)), .val (.int ((((0 : Int32) + ((0 : Int32) + (1 : Int32))).toUInt32 >>> ((1 : Int32) &&& 31).toUInt32).toInt32)), .val (.int ((((0 : Int32) + ((0 : Int32) + (1 : Int32))).toUInt32 >>> ((1 : Int32) &&& 31).toUInt32).toInt32))] [])
        refine own_st (fun t k => XS.goto X5.here hx rfl (pc0 := 51) (pc' := 7) rfl (hb hby own_d10_51) (by decide) (by decide) (XS.iloadN X5.here hx rfl (hb hby own_d10_7) rfl (XS.iloadN X5.here hx rfl (hb hby own_d10_8) rfl k))) ?_
        show own_Go _ _ _ _ T5 (mkF m 9 #[.val (.ref b2x4_14c5034), .val (.ref b5012), .val (.int (0 : Int32)), .val (.int ((((0 : Int32) + ((0 : Int32) + (1 : Int32))).toUInt32 >>> ((1 : Int32) &&& 31).toUInt32).toInt32)), .val (.int ((((0 : Int32) + ((0 : Int32) + (1 : Int32))).toUInt32 >>> ((1 : Int32) &&& 31).toUInt32).toInt32))] [(.int ((((0 : Int32) + ((0 : Int32) + (1 : Int32))).toUInt32 >>> ((1 : Int32) &&& 31).toUInt32).toInt32)), (.int (0 : Int32))])
        refine own_st (fun t k => XS.icmpYes X5.here hx rfl (pc0 := 9) (pc' := 54) rfl (hb hby own_d10_9) rfl (flt (by decide : ¬ ((0 : Int32) < ((((0 : Int32) + ((0 : Int32) + (1 : Int32))).toUInt32 >>> ((1 : Int32) &&& 31).toUInt32).toInt32)))).2.1 (by decide) (by decide) (XS.iloadN X5.here hx rfl (hb hby own_d10_54) rfl k)) ?_
        exact own_retI X5 hx hlk hret (hb hby own_d10_55) (by decide) (by decide) e5 ⟨N5, (Keep.refl h0 []), (Or.inr ⟨rfl, hq5_1_0, trivial⟩)⟩
theorem own_d21_0 : decode prog_18_method_4_code 0 = .ok (.aload_n 1, 1) := by decide +kernel
theorem own_d21_1 : decode prog_18_method_4_code 1 = .ok (.getfield 7, 3) := by decide +kernel
theorem own_d21_4 : decode prog_18_method_4_code 4 = .ok (.astore_n 2, 1) := by decide +kernel
theorem own_d21_5 : decode prog_18_method_4_code 5 = .ok (.iconst 0, 1) := by decide +kernel
theorem own_d21_6 : decode prog_18_method_4_code 6 = .ok (.istore_n 3, 1) := by decide +kernel
theorem own_d21_7 : decode prog_18_method_4_code 7 = .ok (.iconst 0, 1) := by decide +kernel
theorem own_d21_8 : decode prog_18_method_4_code 8 = .ok (.istore 4, 2) := by decide +kernel
theorem own_d21_10 : decode prog_18_method_4_code 10 = .ok (.iload 4, 2) := by decide +kernel
theorem own_d21_12 : decode prog_18_method_4_code 12 = .ok (.aload_n 0, 1) := by decide +kernel
theorem own_d21_13 : decode prog_18_method_4_code 13 = .ok (.getfield 7, 3) := by decide +kernel
theorem own_d21_16 : decode prog_18_method_4_code 16 = .ok (.arraylength, 1) := by decide +kernel
theorem own_d21_17 : decode prog_18_method_4_code 17 = .ok (.if_icmp .ge 97, 3) := by decide +kernel
theorem own_d21_114 : decode prog_18_method_4_code 114 = .ok (.iconst 1, 1) := by decide +kernel
theorem own_d21_115 : decode prog_18_method_4_code 115 = .ok (.ireturn, 1) := by decide +kernel
theorem own_ef21 (m : MethodId) (x0 : Addr) (x1 : Addr) : entryFrame m #[(.ref x0), (.ref x1)] 9 = mkF m 0 #[.val (.ref x0), .val (.ref x1), .unset, .unset, .unset, .unset, .unset, .unset, .unset] [] := by first | (simp [entryFrame, mkF, argsToLocals, Value.category]; done) | rfl
theorem own_pn5 : plainName own_s3 = true := by first | (simp [plainName, overriddenIn]; done) | decide +kernel
def own_Q21_107 (Z : State) (w_NONE : Addr) (w_NONE_names : Addr) (k_w_NONE_names : ClassId) (h0 : Heap) (n0 : Nat) (v : Option Value) (h : Heap) (L : List Loc) : Prop := Fr n0 L ∧ Keep h0 h [] ∧ ((v = some (.int (1 : Int32)) ∧ True))
set_option maxRecDepth 65536 in
set_option maxHeartbeats 40000000 in
theorem own_rm21_107 (l : Launch) (Z : State) (a0 : Array Value) (hw : ∀ d ∈ tables_1, d.before a0 Z = true) (ws : List Jvm.Cond) (w_NONE : Addr) (w_NONE_names : Addr) (k_w_NONE_names : ClassId) (h0 : Heap) (n0 : Nat) (Z0 : n0 ≤ h0.size) (P0 : Fld Z h0 w_NONE own_s3 "names" "[Ljava/lang/String;" (.ref w_NONE_names)) (P1 : Arv Z h0 w_NONE_names k_w_NONE_names (.object "java/lang/String") (0 : Int32) [] .null) :
    MetFree l (⟨own_s3, "fitsIn", "(Lcom/example/lonborg/lonborg/Resources;)Z"⟩ : MethodName) (head1 (Jvm.Cond.code (⟨own_s3, "fitsIn", "(Lcom/example/lonborg/lonborg/Resources;)Z"⟩ : MethodName) prog_18_method_4_code 9 (some .boolean) :: ws) ({ frames := 0, cells := 0, slots := 0, locals := 0 } : Room)) (fun a U => a = #[(.ref w_NONE), (.ref w_NONE)] ∧ Z.Warmed39 U.vm ∧ U.heap = h0) (fun _ _ _ _ _ => True) (fun _ U o U' => ∃ v L, o = .returned v ∧ own_Q21_107 Z w_NONE w_NONE_names k_w_NONE_names h0 n0 v U'.heap L ∧ FrameEnd U o U' L ({ frames := 0, cells := 0, slots := 0, locals := 0 } : Room).cells ({ frames := 0, cells := 0, slots := 0, locals := 0 } : Room).slots) := by
  refine MetFree.of_bodySF (plainFor_of_name own_pn5) hisR ?_
  intro p e s m args below meth c s₁ Bd hml0 hP hK
  obtain ⟨rfl, hZ, hh⟩ := hP
  have hx := Bd.exec
  have hlk := Bd.notSynchronized
  have hret := Bd.returns
  have hby := Bd.bytes
  have hml : c.maxLocals = 9 := hml0
  have hown : s.vm.findClass own_s3 = some m.cls := findClass_of_methodNamed Bd.named
  have hnm := (name_of_methodNamed Bd.named Bd.method).1
  have X0 : Stand p l e ({ frames := 0, cells := 0, slots := 0, locals := 0 } : Room) s m #[(.ref w_NONE), (.ref w_NONE)] below meth c s₁ [] 0 0 := Stand.of_body Bd
  have e0 : s₁.heap = h0 := by rw [← hh, Bd.state]; rfl
  have N0 := Fr.nil n0
  refine own_open (Q := own_Q21_107 Z w_NONE w_NONE_names k_w_NONE_names h0 n0) (own_ef21 m w_NONE w_NONE) ?_
  refine own_st (fun t k => XS.aloadN X0.here hx rfl (hb hby own_d21_0) rfl rfl k) ?_
  refine own_gF X0 hx hZ hown (own_w hw 147 rfl) Via.refl e0 P0 (hb hby own_d21_1) rfl rfl fun T1 X1 e1 => ?_
  show own_Go _ _ _ _ T1 (mkF m 4 #[.val (.ref w_NONE), .val (.ref w_NONE), .unset, .unset, .unset, .unset, .unset, .unset, .unset] [(.ref w_NONE_names)])
  refine own_st (fun t k => XS.astoreN X1.here hx rfl (hb hby own_d21_4) rfl rfl (l' := #[.val (.ref w_NONE), .val (.ref w_NONE), .val (.ref w_NONE_names), .unset, .unset, .unset, .unset, .unset, .unset]) rfl (XS.iconst X1.here hx rfl (hb hby own_d21_5) (XS.istoreN X1.here hx rfl (hb hby own_d21_6) rfl (l' := #[.val (.ref w_NONE), .val (.ref w_NONE), .val (.ref w_NONE_names), .val (.int (0 : Int32)), .unset, .unset, .unset, .unset, .unset]) rfl k))) ?_
  show own_Go _ _ _ _ T1 (mkF m 7 #[.val (.ref w_NONE), .val (.ref w_NONE), .val (.ref w_NONE_names), .val (.int (0 : Int32)), .unset, .unset, .unset, .unset, .unset] [])
  refine own_st (fun t k => XS.iconst X1.here hx rfl (hb hby own_d21_7) (XS.istore X1.here hx rfl (hb hby own_d21_8) rfl (l' := #[.val (.ref w_NONE), .val (.ref w_NONE), .val (.ref w_NONE_names), .val (.int (0 : Int32)), .val (.int (0 : Int32)), .unset, .unset, .unset, .unset]) rfl (XS.iload X1.here hx rfl (hb hby own_d21_10) rfl k))) ?_
  show own_Go _ _ _ _ T1 (mkF m 12 #[.val (.ref w_NONE), .val (.ref w_NONE), .val (.ref w_NONE_names), .val (.int (0 : Int32)), .val (.int (0 : Int32)), .unset, .unset, .unset, .unset] [(.int (0 : Int32))])
  refine own_st (fun t k => XS.aloadN X1.here hx rfl (hb hby own_d21_12) rfl rfl k) ?_
  refine own_gF X1 hx hZ hown (own_w hw 147 rfl) Via.refl e1 P0 (hb hby own_d21_13) rfl rfl fun T2 X2 e2 => ?_
  refine own_st (own_alen X2 hx hZ e2 P1 (g := (mkF m 16 #[.val (.ref w_NONE), .val (.ref w_NONE), .val (.ref w_NONE_names), .val (.int (0 : Int32)), .val (.int (0 : Int32)), .unset, .unset, .unset, .unset] [(.ref w_NONE_names), (.int (0 : Int32))])) rfl rfl (hb hby own_d21_16)) ?_
  show own_Go _ _ _ _ T2 (mkF m 17 #[.val (.ref w_NONE), .val (.ref w_NONE), .val (.ref w_NONE_names), .val (.int (0 : Int32)), .val (.int (0 : Int32)), .unset, .unset, .unset, .unset] [(.int (0 : Int32)), (.int (0 : Int32))])
  refine own_st (fun t k => XS.icmpYes X2.here hx rfl (pc0 := 17) (pc' := 114) rfl (hb hby own_d21_17) rfl (flt (by decide : ¬ ((0 : Int32) < (0 : Int32)))).2.1 (by decide) (by decide) (XS.iconst X2.here hx rfl (hb hby own_d21_114) k)) ?_
  exact own_retZ X2 hx hlk (t := .boolean) hret (by simp) (hb hby own_d21_115) (by decide) (by decide) e2 ⟨N0, (Keep.refl h0 []), ⟨rfl, trivial⟩⟩
theorem own_pd15 : parseMethodDescriptor "(Lcom/example/lonborg/lonborg/Resources;)Z" = some ⟨[(.object own_s3)], some .boolean⟩ := by decide +kernel
theorem own_d13_17 : decode prog_8_method_3_code 17 = .ok (.aload_n 0, 1) := by decide +kernel
theorem own_d13_18 : decode prog_8_method_3_code 18 = .ok (.getfield 7, 3) := by decide +kernel
theorem own_d13_21 : decode prog_8_method_3_code 21 = .ok (.iload_n 3, 1) := by decide +kernel
theorem own_d13_22 : decode prog_8_method_3_code 22 = .ok (.aaload, 1) := by decide +kernel
theorem own_d13_23 : decode prog_8_method_3_code 23 = .ok (.aload_n 1, 1) := by decide +kernel
theorem own_d13_24 : decode prog_8_method_3_code 24 = .ok (.invokevirtual 13, 3) := by decide +kernel
theorem own_d13_27 : decode prog_8_method_3_code 27 = .ok (.ifCond .eq 5, 3) := by decide +kernel
theorem own_d13_30 : decode prog_8_method_3_code 30 = .ok (.aload_n 0, 1) := by decide +kernel
theorem own_d13_31 : decode prog_8_method_3_code 31 = .ok (.areturn, 1) := by decide +kernel
def own_Q13_106 (Z : State) (b6x14_69c4c13c16c2c5070 : Addr) (w_NONE : Addr) (b3x14_69c4c13c16c2c5070 : Addr) (k3x14_69c4c13c16c2c5070 : ClassId) (w_NONE_names : Addr) (k_w_NONE_names : ClassId) (h0 : Heap) (n0 : Nat) (v : Option Value) (h : Heap) (L : List Loc) : Prop := Fr n0 L ∧ Keep h0 h [] ∧ ((v = some (.ref b6x14_69c4c13c16c2c5070) ∧ True))
set_option maxRecDepth 65536 in
set_option maxHeartbeats 40000000 in
theorem own_rm13_106 (l : Launch) (Z : State) (a0 : Array Value) (hw : ∀ d ∈ tables_1, d.before a0 Z = true) (ws : List Jvm.Cond) (b6x14_69c4c13c16c2c5070 : Addr) (w_NONE : Addr) (b3x14_69c4c13c16c2c5070 : Addr) (k3x14_69c4c13c16c2c5070 : ClassId) (w_NONE_names : Addr) (k_w_NONE_names : ClassId) (h0 : Heap) (n0 : Nat) (Z0 : n0 ≤ h0.size) (P0 : Fld Z h0 b6x14_69c4c13c16c2c5070 own_s2 "parts" own_s8 (.ref b3x14_69c4c13c16c2c5070)) (P1 : Arv Z h0 b3x14_69c4c13c16c2c5070 k3x14_69c4c13c16c2c5070 (.object own_s3) ((0 : Int32) + (1 : Int32)) [(.ref w_NONE)] .null) (OFc5070_0_9 : Ovr Z k3x14_69c4c13c16c2c5070 own_s3) (P3 : Fld Z h0 w_NONE own_s3 "names" "[Ljava/lang/String;" (.ref w_NONE_names)) (P4 : Arv Z h0 w_NONE_names k_w_NONE_names (.object "java/lang/String") (0 : Int32) [] .null) (P5 : Exa Z h0 w_NONE own_s3) :
    MetFree l own_y1 (head1 (Jvm.Cond.code own_y1 prog_8_method_3_code 4 (some (.object own_s2)) :: ws) ({ frames := 1, cells := 0, slots := 0, locals := 20 } : Room)) (fun a U => a = #[(.ref b6x14_69c4c13c16c2c5070), (.ref w_NONE)] ∧ Z.Warmed39 U.vm ∧ U.heap = h0) (fun _ _ _ _ _ => True) (fun _ U o U' => ∃ v L, o = .returned v ∧ own_Q13_106 Z b6x14_69c4c13c16c2c5070 w_NONE b3x14_69c4c13c16c2c5070 k3x14_69c4c13c16c2c5070 w_NONE_names k_w_NONE_names h0 n0 v U'.heap L ∧ FrameEnd U o U' L ({ frames := 1, cells := 0, slots := 0, locals := 20 } : Room).cells ({ frames := 1, cells := 0, slots := 0, locals := 20 } : Room).slots) := by
  refine MetFree.of_bodySF (plainFor_of_name own_pn4) hisR ?_
  intro p e s m args below meth c s₁ Bd hml0 hP hK
  obtain ⟨rfl, hZ, hh⟩ := hP
  have hx := Bd.exec
  have hlk := Bd.notSynchronized
  have hret := Bd.returns
  have hby := Bd.bytes
  have hml : c.maxLocals = 4 := hml0
  have hown : s.vm.findClass own_s2 = some m.cls := findClass_of_methodNamed Bd.named
  have hnm := (name_of_methodNamed Bd.named Bd.method).1
  have X0 : Stand p l e ({ frames := 1, cells := 0, slots := 0, locals := 20 } : Room) s m #[(.ref b6x14_69c4c13c16c2c5070), (.ref w_NONE)] below meth c s₁ [] 0 0 := Stand.of_body Bd
  have e0 : s₁.heap = h0 := by rw [← hh, Bd.state]; rfl
  have N0 := Fr.nil n0
  refine own_open (Q := own_Q13_106 Z b6x14_69c4c13c16c2c5070 w_NONE b3x14_69c4c13c16c2c5070 k3x14_69c4c13c16c2c5070 w_NONE_names k_w_NONE_names h0 n0) (own_ef13 m b6x14_69c4c13c16c2c5070 w_NONE) ?_
  refine own_st (fun t k => XS.aloadN X0.here hx rfl (hb hby own_d13_0) rfl rfl k) ?_
  refine own_gF X0 hx hZ hown (own_w hw 100 rfl) Via.refl e0 P0 (hb hby own_d13_1) rfl rfl fun T1 X1 e1 => ?_
  show own_Go _ _ _ _ T1 (mkF m 4 #[.val (.ref b6x14_69c4c13c16c2c5070), .val (.ref w_NONE), .unset, .unset] [(.ref b3x14_69c4c13c16c2c5070)])
  refine own_st (own_alen X1 hx hZ e1 P1 (g := (mkF m 4 #[.val (.ref b6x14_69c4c13c16c2c5070), .val (.ref w_NONE), .unset, .unset] [(.ref b3x14_69c4c13c16c2c5070)])) rfl rfl (hb hby own_d13_4)) ?_
  refine own_st (fun t k => XS.istoreN X1.here hx rfl (hb hby own_d13_5) rfl (l' := #[.val (.ref b6x14_69c4c13c16c2c5070), .val (.ref w_NONE), .val (.int ((0 : Int32) + (1 : Int32))), .unset]) rfl (XS.iconst X1.here hx rfl (hb hby own_d13_6) k)) ?_
  show own_Go _ _ _ _ T1 (mkF m 7 #[.val (.ref b6x14_69c4c13c16c2c5070), .val (.ref w_NONE), .val (.int ((0 : Int32) + (1 : Int32))), .unset] [(.int (0 : Int32))])
  refine own_st (fun t k => XS.istoreN X1.here hx rfl (hb hby own_d13_7) rfl (l' := #[.val (.ref b6x14_69c4c13c16c2c5070), .val (.ref w_NONE), .val (.int ((0 : Int32) + (1 : Int32))), .val (.int (0 : Int32))]) rfl (XS.iloadN X1.here hx rfl (hb hby own_d13_8) rfl (XS.aloadN X1.here hx rfl (hb hby own_d13_9) rfl rfl k))) ?_
  show own_Go _ _ _ _ T1 (mkF m 10 #[.val (.ref b6x14_69c4c13c16c2c5070), .val (.ref w_NONE), .val (.int ((0 : Int32) + (1 : Int32))), .val (.int (0 : Int32))] [(.ref b6x14_69c4c13c16c2c5070), (.int (0 : Int32))])
  refine own_gF X1 hx hZ hown (own_w hw 100 rfl) Via.refl e1 P0 (hb hby own_d13_10) rfl rfl fun T2 X2 e2 => ?_
  refine own_st (own_alen X2 hx hZ e2 P1 (g := (mkF m 13 #[.val (.ref b6x14_69c4c13c16c2c5070), .val (.ref w_NONE), .val (.int ((0 : Int32) + (1 : Int32))), .val (.int (0 : Int32))] [(.ref b3x14_69c4c13c16c2c5070), (.int (0 : Int32))])) rfl rfl (hb hby own_d13_13)) ?_
  refine own_st (fun t k => XS.icmpNo X2.here hx rfl (hb hby own_d13_14) rfl (tlt (by decide : (0 : Int32) < ((0 : Int32) + (1 : Int32)))).2.1 k) ?_
  show own_Go _ _ _ _ T2 (mkF m 17 #[.val (.ref b6x14_69c4c13c16c2c5070), .val (.ref w_NONE), .val (.int ((0 : Int32) + (1 : Int32))), .val (.int (0 : Int32))] [])
  refine own_st (fun t k => XS.aloadN X2.here hx rfl (hb hby own_d13_17) rfl rfl k) ?_
  refine own_gF X2 hx hZ hown (own_w hw 100 rfl) Via.refl e2 P0 (hb hby own_d13_18) rfl rfl fun T3 X3 e3 => ?_
  refine own_st (fun t k => XS.iloadN X3.here hx rfl (hb hby own_d13_21) rfl k) ?_
  show own_Go _ _ _ _ T3 (mkF m 22 #[.val (.ref b6x14_69c4c13c16c2c5070), .val (.ref w_NONE), .val (.int ((0 : Int32) + (1 : Int32))), .val (.int (0 : Int32))] [(.int (0 : Int32)), (.ref b3x14_69c4c13c16c2c5070)])
  refine own_st (own_aaload X3 hx hZ e3 P1 rfl (j := (0 : Int32)) (v := (.ref w_NONE)) ⟨by decide, by decide⟩ rfl (g := (mkF m 22 #[.val (.ref b6x14_69c4c13c16c2c5070), .val (.ref w_NONE), .val (.int ((0 : Int32) + (1 : Int32))), .val (.int (0 : Int32))] [(.int (0 : Int32)), (.ref b3x14_69c4c13c16c2c5070)])) rfl rfl (hb hby own_d13_22)) ?_
  refine own_st (fun t k => XS.aloadN X3.here hx rfl (hb hby own_d13_23) rfl rfl k) ?_
  refine own_cV (a := w_NONE) X3 hx hZ hown (own_w hw 142 rfl) (own_w hw 143 rfl) (own_w hw 145 rfl) (own_w hw 144 rfl) (own_w hw 8 rfl) (own_w hw 146 rfl) [(.ref w_NONE)] [] P5 (own_rm21_107 l Z a0 hw [] w_NONE w_NONE_names k_w_NONE_names h0 n0 Z0 P3 P4) 0 (hb hby own_d13_24) (by rw [hml]; rfl) (lenOf own_pd15 rfl) e3 rfl rfl (by show 2 * 0 + _ ≤ _; exact Nat.le_of_eq rfl) (by decide) (by decide) (by decide) (by decide) (by decide) fun v4 T4 L4 X4 hQ4 => ?_
  obtain ⟨N4q, Kq4, hL4⟩ := hQ4
  have N4 := Fr.app N0 N4q
  have K4 : Keep h0 T4.heap [] := (Keep.refl h0 []).trans Kq4 all0
  have Z4 := Nat.le_trans Z0 Kq4.1
  rcases hL4 with ⟨rfl, -⟩
  · skip
    show own_Go _ _ _ _ T4 (mkF m 27 #[.val (.ref b6x14_69c4c13c16c2c5070), .val (.ref w_NONE), .val (.int ((0 : Int32) + (1 : Int32))), .val (.int (0 : Int32))] [(.int (1 : Int32))])
    refine own_st (fun t k => XS.ifNo X4.here hx rfl (hb hby own_d13_27) rfl ((if0 _ _).trans (feq (by decide : ¬ ((1 : Int32) = (0 : Int32)))).1) (XS.aloadN X4.here hx rfl (hb hby own_d13_30) rfl rfl k)) ?_
    exact own_retA X4 hx hlk hret rfl rfl (hb hby own_d13_31) (by decide) (by decide) rfl ⟨N4, K4, ⟨rfl, trivial⟩⟩
def own_Q12_105 (Z : State) (b2x4_14c5034 : Addr) (w_NONE : Addr) (b6x14_69c4c13c16c2c5070 : Addr) (b3x14_69c4c13c16c2c5070 : Addr) (k3x14_69c4c13c16c2c5070 : ClassId) (w_NONE_names : Addr) (k_w_NONE_names : ClassId) (b2x5_18c4c5034 : Addr) (h0 : Heap) (n0 : Nat) (v : Option Value) (h : Heap) (L : List Loc) : Prop := Fr n0 L ∧ Keep h0 h [b2x4_14c5034] ∧ ((v = none ∧ Fld Z h b2x4_14c5034 own_s0 "count" "I" (.int ((0 : Int32) + (1 : Int32))) ∧ Fld Z h b2x4_14c5034 own_s0 "least" own_s6 (.ref b6x14_69c4c13c16c2c5070) ∧ Fld Z h b2x4_14c5034 own_s4 "items" own_s7 (.ref b2x5_18c4c5034) ∧ Fld Z h b2x4_14c5034 own_s0 "stale" "Z" (.int (0 : Int32)) ∧ True))
set_option maxRecDepth 65536 in
set_option maxHeartbeats 40000000 in
theorem own_rm12_105 (l : Launch) (Z : State) (a0 : Array Value) (hw : ∀ d ∈ tables_1, d.before a0 Z = true) (ws : List Jvm.Cond) (b2x4_14c5034 : Addr) (w_NONE : Addr) (b6x14_69c4c13c16c2c5070 : Addr) (b3x14_69c4c13c16c2c5070 : Addr) (k3x14_69c4c13c16c2c5070 : ClassId) (w_NONE_names : Addr) (k_w_NONE_names : ClassId) (b2x5_18c4c5034 : Addr) (h0 : Heap) (n0 : Nat) (Z0 : n0 ≤ h0.size) (P0 : Fld Z h0 b2x4_14c5034 own_s0 "count" "I" (.int ((0 : Int32) + (1 : Int32)))) (P1 : Fld Z h0 b2x4_14c5034 own_s0 "least" own_s6 (.ref b6x14_69c4c13c16c2c5070)) (P2 : Fld Z h0 b6x14_69c4c13c16c2c5070 own_s2 "parts" own_s8 (.ref b3x14_69c4c13c16c2c5070)) (P3 : Arv Z h0 b3x14_69c4c13c16c2c5070 k3x14_69c4c13c16c2c5070 (.object own_s3) ((0 : Int32) + (1 : Int32)) [(.ref w_NONE)] .null) (OFc5070_0_9 : Ovr Z k3x14_69c4c13c16c2c5070 own_s3) (P5 : Fld Z h0 w_NONE own_s3 "names" "[Ljava/lang/String;" (.ref w_NONE_names)) (P6 : Arv Z h0 w_NONE_names k_w_NONE_names (.object "java/lang/String") (0 : Int32) [] .null) (P7 : Exa Z h0 w_NONE own_s3) (P8 : Exa Z h0 b6x14_69c4c13c16c2c5070 own_s2) (P9 : Exa Z h0 b2x4_14c5034 own_s4) (g_b2x4_14c5034 : n0 ≤ b2x4_14c5034) (P11 : Fld Z h0 b2x4_14c5034 own_s4 "items" own_s7 (.ref b2x5_18c4c5034)) (P12 : Fld Z h0 b2x4_14c5034 own_s0 "stale" "Z" (.int (0 : Int32))) :
    MetFree l own_y0 (head1 (Jvm.Cond.code own_y0 prog_5_method_10_code 2 none :: ws) ({ frames := 2, cells := 0, slots := 0, locals := 36 } : Room)) (fun a U => a = #[(.ref b2x4_14c5034), (.ref w_NONE)] ∧ Z.Warmed39 U.vm ∧ U.heap = h0) (fun _ _ _ _ _ => True) (fun _ U o U' => ∃ v L, o = .returned v ∧ own_Q12_105 Z b2x4_14c5034 w_NONE b6x14_69c4c13c16c2c5070 b3x14_69c4c13c16c2c5070 k3x14_69c4c13c16c2c5070 w_NONE_names k_w_NONE_names b2x5_18c4c5034 h0 n0 v U'.heap L ∧ FrameEnd U o U' L ({ frames := 2, cells := 0, slots := 0, locals := 36 } : Room).cells ({ frames := 2, cells := 0, slots := 0, locals := 36 } : Room).slots) := by
  refine MetFree.of_bodySF (plainFor_of_name own_pn1) hisR ?_
  intro p e s m args below meth c s₁ Bd hml0 hP hK
  obtain ⟨rfl, hZ, hh⟩ := hP
  have hx := Bd.exec
  have hlk := Bd.notSynchronized
  have hret := Bd.returns
  have hby := Bd.bytes
  have hml : c.maxLocals = 2 := hml0
  have hown : s.vm.findClass own_s0 = some m.cls := findClass_of_methodNamed Bd.named
  have hnm := (name_of_methodNamed Bd.named Bd.method).1
  have X0 : Stand p l e ({ frames := 2, cells := 0, slots := 0, locals := 36 } : Room) s m #[(.ref b2x4_14c5034), (.ref w_NONE)] below meth c s₁ [] 0 0 := Stand.of_body Bd
  have e0 : s₁.heap = h0 := by rw [← hh, Bd.state]; rfl
  have N0 := Fr.nil n0
  refine own_open (Q := own_Q12_105 Z b2x4_14c5034 w_NONE b6x14_69c4c13c16c2c5070 b3x14_69c4c13c16c2c5070 k3x14_69c4c13c16c2c5070 w_NONE_names k_w_NONE_names b2x5_18c4c5034 h0 n0) (own_ef12 m b2x4_14c5034 w_NONE) ?_
  refine own_st (fun t k => XS.aloadN X0.here hx rfl (hb hby own_d12_0) rfl rfl k) ?_
  refine own_gF X0 hx hZ hown (own_w hw 92 rfl) Via.refl e0 P0 (hb hby own_d12_1) rfl rfl fun T1 X1 e1 => ?_
  show own_Go _ _ _ _ T1 (mkF m 4 #[.val (.ref b2x4_14c5034), .val (.ref w_NONE)] [(.int ((0 : Int32) + (1 : Int32)))])
  refine own_st (fun t k => XS.ifYes X1.here hx rfl (pc0 := 4) (pc' := 19) rfl (hb hby own_d12_4) rfl ((if0 _ _).trans (feq (by decide : ¬ (((0 : Int32) + (1 : Int32)) = (0 : Int32)))).2) (by decide) (by decide) (XS.aloadN X1.here hx rfl (hb hby own_d12_19) rfl rfl (XS.aloadN X1.here hx rfl (hb hby own_d12_20) rfl rfl k))) ?_
  show own_Go _ _ _ _ T1 (mkF m 21 #[.val (.ref b2x4_14c5034), .val (.ref w_NONE)] [(.ref b2x4_14c5034), (.ref b2x4_14c5034)])
  refine own_gF X1 hx hZ hown (own_w hw 50 rfl) Via.refl e1 P1 (hb hby own_d12_21) rfl rfl fun T2 X2 e2 => ?_
  refine own_st (fun t k => XS.aloadN X2.here hx rfl (hb hby own_d12_24) rfl rfl k) ?_
  refine own_cV (a := b6x14_69c4c13c16c2c5070) X2 hx hZ hown (own_w hw 95 rfl) (own_w hw 96 rfl) (own_w hw 98 rfl) (own_w hw 97 rfl) (own_w hw 48 rfl) (own_w hw 99 rfl) [(.ref w_NONE)] [(.ref b2x4_14c5034)] P8 (own_rm13_106 l Z a0 hw [] b6x14_69c4c13c16c2c5070 w_NONE b3x14_69c4c13c16c2c5070 k3x14_69c4c13c16c2c5070 w_NONE_names k_w_NONE_names h0 n0 Z0 P2 P3 OFc5070_0_9 P5 P6 P7) 1 (hb hby own_d12_25) (by rw [hml]; rfl) (lenOf own_pd9 rfl) e2 rfl rfl (by show 2 * 0 + _ ≤ _; exact Nat.le_of_eq rfl) (by decide) (by decide) (by decide) (by decide) (by decide) fun v3 T3 L3 X3 hQ3 => ?_
  obtain ⟨N3q, Kq3, hL3⟩ := hQ3
  have N3 := Fr.app N0 N3q
  have K3 : Keep h0 T3.heap [b2x4_14c5034] := (Keep.refl h0 [b2x4_14c5034]).trans Kq3 all0
  have Z3 := Nat.le_trans Z0 Kq3.1
  rcases hL3 with ⟨rfl, -⟩
  · skip
    show own_Go _ _ _ _ T3 (mkF m 28 #[.val (.ref b2x4_14c5034), .val (.ref w_NONE)] [(.ref b6x14_69c4c13c16c2c5070), (.ref b2x4_14c5034)])
    have f4 := (P9.keep Kq3)
    have f5 := (P1.keep Kq3 nin0)
    refine own_pF X3 hx hZ hown (own_w hw 50 rfl) Via.refl rfl f5 f4 (Or.inl (own_w hw 51 rfl)) (own_w hw 36 rfl) (ty := (.object own_s2)) (by decide) (hb hby own_d12_28) rfl rfl rfl rfl fun T6 h6 X6 e6 W6 => ?_
    have K6 : Keep h0 h6 [b2x4_14c5034] := K3.wr W6 (Or.inl (List.mem_of_getElem? (i := 0) rfl))
    have Z6 := Nat.le_trans Z3 (Keep.of_wr W6).1
    have N6 := Fr.snoc X6 N3 g_b2x4_14c5034
    have F6 := f5.same W6
    have f7 := ((P0.keep Kq3 nin0).other W6 (Or.inr (slot_ne (Or.inl (own_w hw 80 rfl)) (Or.inl (own_w hw 51 rfl)) (by decide) (t := .int) (t' := (.object own_s2)) (by decide) (by decide))))
    have f8 := ((P11.keep Kq3 nin0).other W6 (Or.inr (slot_ne (Or.inr (own_w hw 54 rfl)) (Or.inl (own_w hw 51 rfl)) (by decide) (t := (.array (.object own_s1))) (t' := (.object own_s2)) (by decide) (by decide))))
    have f9 := ((P12.keep Kq3 nin0).other W6 (Or.inr (slot_ne (Or.inl (own_w hw 94 rfl)) (Or.inl (own_w hw 51 rfl)) (by decide) (t := .boolean) (t' := (.object own_s2)) (by decide) (by decide))))
    exact own_retV X6 hx hlk hret (hb hby own_d12_31) (by decide) (by decide) e6 ⟨N6, K6, ⟨rfl, f7, F6, f8, f9, trivial⟩⟩
def own_Q9_100 (Z : State) (b2x4_14c5034 : Addr) (b5012 : Addr) (b2x5_18c4c5034 : Addr) (k2x5_18c4c5034c2c5070 : ClassId) (b5002 : Addr) (jp1 : Int64) (d1 : Int64) (jp0 : Int64) (d0 : Int64) (w_NONE : Addr) (b6x14_69c4c13c16c2c5070 : Addr) (b3x14_69c4c13c16c2c5070 : Addr) (k3x14_69c4c13c16c2c5070 : ClassId) (w_NONE_names : Addr) (k_w_NONE_names : ClassId) (h0 : Heap) (n0 : Nat) (v : Option Value) (h : Heap) (L : List Loc) : Prop := Fr n0 L ∧ Keep h0 h [b2x4_14c5034, b2x5_18c4c5034] ∧ ((∃ k2x5_18c4c5034c2c5070 : ClassId, v = some .null ∧ (own_lt jp0 d0 jp1 d1) ∧ Fld Z h b2x4_14c5034 own_s0 "count" "I" (.int (((0 : Int32) + (1 : Int32)) + (1 : Int32))) ∧ Fld Z h b2x4_14c5034 own_s4 "items" own_s7 (.ref b2x5_18c4c5034) ∧ Fld Z h b2x4_14c5034 own_s0 "least" own_s6 (.ref b6x14_69c4c13c16c2c5070) ∧ Fld Z h b2x4_14c5034 own_s0 "stale" "Z" (.int (0 : Int32)) ∧ Arv Z h b2x5_18c4c5034 k2x5_18c4c5034c2c5070 (.object own_s1) (64 : Int32) [(.ref b5002), (.ref b5012)] .null ∧ Ovr Z k2x5_18c4c5034c2c5070 own_s1 ∧ True) ∨ (∃ k2x5_18c4c5034c2c5070 : ClassId, v = some .null ∧ (¬ (own_lt jp0 d0 jp1 d1)) ∧ Fld Z h b2x4_14c5034 own_s0 "count" "I" (.int (((0 : Int32) + (1 : Int32)) + (1 : Int32))) ∧ Fld Z h b2x4_14c5034 own_s4 "items" own_s7 (.ref b2x5_18c4c5034) ∧ Fld Z h b2x4_14c5034 own_s0 "least" own_s6 (.ref b6x14_69c4c13c16c2c5070) ∧ Fld Z h b2x4_14c5034 own_s0 "stale" "Z" (.int (0 : Int32)) ∧ Arv Z h b2x5_18c4c5034 k2x5_18c4c5034c2c5070 (.object own_s1) (64 : Int32) [(.ref b5012), (.ref b5002)] .null ∧ Ovr Z k2x5_18c4c5034c2c5070 own_s1 ∧ True))
set_option maxRecDepth 65536 in
set_option maxHeartbeats 40000000 in
theorem own_rm9_100 (l : Launch) (Z : State) (a0 : Array Value) (hw : ∀ d ∈ tables_1, d.before a0 Z = true) (ws : List Jvm.Cond) (b2x4_14c5034 : Addr) (b5012 : Addr) (b2x5_18c4c5034 : Addr) (k2x5_18c4c5034c2c5070 : ClassId) (b5002 : Addr) (jp1 : Int64) (d1 : Int64) (jp0 : Int64) (d0 : Int64) (w_NONE : Addr) (b6x14_69c4c13c16c2c5070 : Addr) (b3x14_69c4c13c16c2c5070 : Addr) (k3x14_69c4c13c16c2c5070 : ClassId) (w_NONE_names : Addr) (k_w_NONE_names : ClassId) (h0 : Heap) (n0 : Nat) (Z0 : n0 ≤ h0.size) (P0 : Fld Z h0 b2x4_14c5034 own_s0 "count" "I" (.int ((0 : Int32) + (1 : Int32)))) (P1 : Fld Z h0 b2x4_14c5034 own_s4 "items" own_s7 (.ref b2x5_18c4c5034)) (P2 : Arv Z h0 b2x5_18c4c5034 k2x5_18c4c5034c2c5070 (.object own_s1) (64 : Int32) [(.ref b5002)] .null) (OFc5070_0_0 : Ovr Z k2x5_18c4c5034c2c5070 own_s1) (P4 : Fld Z h0 b5012 own_s1 "priority" "J" (.long jp1)) (P5 : Exa Z h0 b5012 own_s1) (P6 : Fld Z h0 b5012 own_s1 "id" "J" (.long d1)) (P7 : Fld Z h0 b5002 own_s1 "priority" "J" (.long jp0)) (P8 : Fld Z h0 b5002 own_s1 "id" "J" (.long d0)) (P9 : Exa Z h0 b5002 own_s1) (P10 : Exa Z h0 b2x4_14c5034 own_s4) (P11 : Fld Z h0 b5012 own_s1 "needs" "Lcom/example/lonborg/lonborg/Resources;" (.ref w_NONE)) (P12 : Fld Z h0 b2x4_14c5034 own_s0 "least" own_s6 (.ref b6x14_69c4c13c16c2c5070)) (P13 : Fld Z h0 b6x14_69c4c13c16c2c5070 own_s2 "parts" own_s8 (.ref b3x14_69c4c13c16c2c5070)) (P14 : Arv Z h0 b3x14_69c4c13c16c2c5070 k3x14_69c4c13c16c2c5070 (.object own_s3) ((0 : Int32) + (1 : Int32)) [(.ref w_NONE)] .null) (OFc5070_0_9 : Ovr Z k3x14_69c4c13c16c2c5070 own_s3) (P16 : Fld Z h0 w_NONE own_s3 "names" "[Ljava/lang/String;" (.ref w_NONE_names)) (P17 : Arv Z h0 w_NONE_names k_w_NONE_names (.object "java/lang/String") (0 : Int32) [] .null) (P18 : Exa Z h0 w_NONE own_s3) (P19 : Exa Z h0 b6x14_69c4c13c16c2c5070 own_s2) (P20 : Fld Z h0 b2x4_14c5034 own_s0 "stale" "Z" (.int (0 : Int32))) (g_b2x4_14c5034 : n0 ≤ b2x4_14c5034) (P22 : Exa Z h0 b2x5_18c4c5034 own_s7) (g_b2x5_18c4c5034 : n0 ≤ b2x5_18c4c5034) :
    MetFree l own_y6 (head1 (Jvm.Cond.code own_y6 prog_4_method_2_code 4 (some (.object own_s0)) :: ws) ({ frames := 3, cells := 0, slots := 0, locals := 49 } : Room)) (fun a U => a = #[(.ref b2x4_14c5034), (.ref b5012)] ∧ Z.Warmed39 U.vm ∧ U.heap = h0) (fun _ _ _ _ _ => True) (fun _ U o U' => ∃ v L, o = .returned v ∧ own_Q9_100 Z b2x4_14c5034 b5012 b2x5_18c4c5034 k2x5_18c4c5034c2c5070 b5002 jp1 d1 jp0 d0 w_NONE b6x14_69c4c13c16c2c5070 b3x14_69c4c13c16c2c5070 k3x14_69c4c13c16c2c5070 w_NONE_names k_w_NONE_names h0 n0 v U'.heap L ∧ FrameEnd U o U' L ({ frames := 3, cells := 0, slots := 0, locals := 49 } : Room).cells ({ frames := 3, cells := 0, slots := 0, locals := 49 } : Room).slots) := by
  refine MetFree.of_bodySF (plainFor_of_name own_pn2) hisR ?_
  intro p e s m args below meth c s₁ Bd hml0 hP hK
  obtain ⟨rfl, hZ, hh⟩ := hP
  have hx := Bd.exec
  have hlk := Bd.notSynchronized
  have hret := Bd.returns
  have hby := Bd.bytes
  have hml : c.maxLocals = 4 := hml0
  have hown : s.vm.findClass own_s4 = some m.cls := findClass_of_methodNamed Bd.named
  have hnm := (name_of_methodNamed Bd.named Bd.method).1
  have X0 : Stand p l e ({ frames := 3, cells := 0, slots := 0, locals := 49 } : Room) s m #[(.ref b2x4_14c5034), (.ref b5012)] below meth c s₁ [] 0 0 := Stand.of_body Bd
  have e0 : s₁.heap = h0 := by rw [← hh, Bd.state]; rfl
  have N0 := Fr.nil n0
  refine own_open (Q := own_Q9_100 Z b2x4_14c5034 b5012 b2x5_18c4c5034 k2x5_18c4c5034c2c5070 b5002 jp1 d1 jp0 d0 w_NONE b6x14_69c4c13c16c2c5070 b3x14_69c4c13c16c2c5070 k3x14_69c4c13c16c2c5070 w_NONE_names k_w_NONE_names h0 n0) (own_ef9 m b2x4_14c5034 b5012) ?_
  refine own_st (fun t k => XS.aloadN X0.here hx rfl (hb hby own_d9_0) rfl rfl (XS.aloadN X0.here hx rfl (hb hby own_d9_1) rfl rfl k)) ?_
  show own_Go _ _ _ _ s₁ (mkF m 2 #[.val (.ref b2x4_14c5034), .val (.ref b5012), .unset, .unset] [(.ref b5012), (.ref b2x4_14c5034)])
  refine own_cP (a := b2x4_14c5034) X0 hx hZ hown (own_w hw 74 rfl) (own_w hw 76 rfl) (own_w hw 36 rfl) (own_w hw 75 rfl) (own_w hw 37 rfl) (own_w hw 77 rfl) [(.ref b5012)] [] P10 (own_rm10_101 l Z a0 hw [] b2x4_14c5034 b5012 b2x5_18c4c5034 k2x5_18c4c5034c2c5070 b5002 jp1 d1 jp0 d0 h0 n0 Z0 P0 P1 P2 OFc5070_0_0 P4 P5 P6 P7 P8 P9) 0 (hb hby own_d9_2) (by rw [hml]; rfl) (lenOf own_pd4 rfl) e0 rfl rfl (by show 2 * 0 + _ ≤ _; exact Nat.le_of_eq rfl) (by decide) (by decide) (by decide) (by decide) (by decide) fun v1 T1 L1 X1 hQ1 => ?_
  obtain ⟨N1q, Kq1, hL1⟩ := hQ1
  have N1 := Fr.app N0 N1q
  have K1 : Keep h0 T1.heap [b2x4_14c5034, b2x5_18c4c5034] := (Keep.refl h0 [b2x4_14c5034, b2x5_18c4c5034]).trans Kq1 all0
  have Z1 := Nat.le_trans Z0 Kq1.1
  rcases hL1 with ⟨rfl, hq1_0_0, -⟩ | ⟨rfl, hq1_1_0, -⟩
  · skip
    refine own_st (fun t k => XS.istoreN X1.here hx rfl (hb hby own_d9_5) rfl (l' := #[.val (.ref b2x4_14c5034), .val (.ref b5012), .val (.int (((((0 : Int32) + ((0 : Int32) + (1 : Int32))).toUInt32 >>> ((1 : Int32) &&& 31).toUInt32).toInt32) + (1 : Int32))), .unset]) rfl (XS.aloadN X1.here hx rfl (hb hby own_d9_6) rfl rfl k)) ?_
    show own_Go _ _ _ _ T1 (mkF m 7 #[.val (.ref b2x4_14c5034), .val (.ref b5012), .val (.int (((((0 : Int32) + ((0 : Int32) + (1 : Int32))).toUInt32 >>> ((1 : Int32) &&& 31).toUInt32).toInt32) + (1 : Int32))), .unset] [(.ref b2x4_14c5034)])
    have f2 := (P0.keep Kq1 nin0)
    refine own_gF X1 hx hZ hown (own_w hw 78 rfl) (Via.of (own_w hw 79 rfl)) rfl f2 (hb hby own_d9_7) rfl rfl fun T3 X3 e3 => ?_
    refine own_st (fun t k => XS.bipush X3.here hx rfl (hb hby own_d9_10) (XS.icmpNo X3.here hx rfl (hb hby own_d9_12) rfl (tlt (by decide : ((0 : Int32) + (1 : Int32)) < (64 : Int32))).2.1 k)) ?_
    show own_Go _ _ _ _ T3 (mkF m 15 #[.val (.ref b2x4_14c5034), .val (.ref b5012), .val (.int (((((0 : Int32) + ((0 : Int32) + (1 : Int32))).toUInt32 >>> ((1 : Int32) &&& 31).toUInt32).toInt32) + (1 : Int32))), .unset] [])
    refine own_st (fun t k => XS.aloadN X3.here hx rfl (hb hby own_d9_15) rfl rfl (XS.aloadN X3.here hx rfl (hb hby own_d9_16) rfl rfl k)) ?_
    have f4 := (P11.keep Kq1 nin0)
    have f6 := (P5.keep Kq1)
    refine own_cV (a := b5012) X3 hx hZ hown (own_w hw 81 rfl) (own_w hw 82 rfl) (own_w hw 84 rfl) (own_w hw 83 rfl) (own_w hw 6 rfl) (own_w hw 85 rfl) [] [(.ref b2x4_14c5034)] f6 (own_rm11 l Z a0 hw [] b5012 w_NONE T1.heap n0 Z1 f4) 1 (hb hby own_d9_17) (by rw [hml]; rfl) (lenOf own_pd5 rfl) e3 rfl rfl (by show 2 * 0 + _ ≤ _; exact Nat.le_of_eq rfl) (by decide) (by decide) (by decide) (by decide) (by decide) fun v5 T5 L5 X5 hQ5 => ?_
    obtain ⟨N5q, e5, hL5⟩ := hQ5
    have N5 := Fr.app N1 N5q
    rcases hL5 with ⟨rfl, -⟩
    · skip
      show own_Go _ _ _ _ T5 (mkF m 20 #[.val (.ref b2x4_14c5034), .val (.ref b5012), .val (.int (((((0 : Int32) + ((0 : Int32) + (1 : Int32))).toUInt32 >>> ((1 : Int32) &&& 31).toUInt32).toInt32) + (1 : Int32))), .unset] [(.ref w_NONE), (.ref b2x4_14c5034)])
      have f7 := (P12.keep Kq1 nin0)
      have f8 := (P13.keep Kq1 nin0)
      have f9 := (P14.keep Kq1 nin0)
      have f10 := (P16.keep Kq1 nin0)
      have f11 := (P17.keep Kq1 nin0)
      have f12 := (P18.keep Kq1)
      have f13 := (P19.keep Kq1)
      have f14 := (P10.keep Kq1)
      have f15 := (P1.keep Kq1 nin0)
      have f16 := (P20.keep Kq1 nin0)
      obtain ⟨cq17, kq17, q17a, q17b, q17c⟩ := isOf hZ e5 f14
      obtain ⟨_, _, ⟨T17, L17, k17, n17⟩, -, X17, ⟨Lc17, hQ17, l17, y17, z17⟩, st17⟩ := X5.virtualBackUp hx (owner := own_s0) (x := own_y8) (y := own_y0) hown (mvT hZ (own_w hw 86 rfl)) (mvT hZ (own_w hw 87 rfl)) (mvT hZ (own_w hw 88 rfl)) (by decide) (mvT hZ (own_w hw 90 rfl)) (mvT hZ (own_w hw 89 rfl)) (backOf (W := 0) (own_rm12_105 l Z a0 hw [] b2x4_14c5034 w_NONE b6x14_69c4c13c16c2c5070 b3x14_69c4c13c16c2c5070 k3x14_69c4c13c16c2c5070 w_NONE_names k_w_NONE_names b2x5_18c4c5034 T1.heap n0 Z1 f2 f7 f8 f9 OFc5070_0_9 f10 f11 f12 f13 f14 g_b2x4_14c5034 f15 f16) hZ (own_w hw 91 rfl) (own_w hw 44 rfl) (by decide) (by decide)) q17a q17c (g := (mkF m 20 #[.val (.ref b2x4_14c5034), .val (.ref b5012), .val (.int (((((0 : Int32) + ((0 : Int32) + (1 : Int32))).toUInt32 >>> ((1 : Int32) &&& 31).toUInt32).toInt32) + (1 : Int32))), .unset] [(.ref w_NONE), (.ref b2x4_14c5034)])) rfl (by rw [hml]; rfl) (Steps.refl _) (argsL := [(.ref w_NONE)]) (rest := []) (lenOf own_pd10 rfl) rfl (by show 2 * 0 + _ ≤ _; exact Nat.le_of_eq rfl) (hb hby own_d9_20) (fun _ _ => ⟨rfl, e5, (by decide : 0 + 0 ≤ _), (by decide : 0 + 0 ≤ _)⟩)
      dsimp only [Pt.U, Pt.locs, Pt.cells, Pt.slots] at X17 l17 y17 z17 st17 hQ17
      subst l17 y17 z17
      obtain ⟨N17q, Kq17, hL17⟩ := hQ17
      have N17 := Fr.app N5 N17q
      have K17 : Keep h0 T17.heap [b2x4_14c5034, b2x5_18c4c5034] := K1.trans Kq17 (allS (Or.inl (List.mem_of_getElem? (i := 0) rfl)) all0)
      have Z17 := Nat.le_trans Z1 Kq17.1
      rcases hL17 with ⟨rfl, Fc17_0_0, Fc17_0_1, Fc17_0_2, Fc17_0_3, -⟩
      · skip
        refine own_st (fun t k => st17.trans k) ?_
        refine own_st (fun t k => XS.aloadN X17.here hx rfl (hb hby own_d9_23) rfl rfl k) ?_
        refine own_gF X17 hx hZ hown (own_w hw 53 rfl) Via.refl rfl Fc17_0_2 (hb hby own_d9_24) rfl rfl fun T18 X18 e18 => ?_
        show own_Go _ _ _ _ T18 (mkF m 27 #[.val (.ref b2x4_14c5034), .val (.ref b5012), .val (.int (((((0 : Int32) + ((0 : Int32) + (1 : Int32))).toUInt32 >>> ((1 : Int32) &&& 31).toUInt32).toInt32) + (1 : Int32))), .unset] [(.ref b2x5_18c4c5034)])
        refine own_st (fun t k => XS.iloadN X18.here hx rfl (hb hby own_d9_27) rfl (XS.aloadN X18.here hx rfl (hb hby own_d9_28) rfl rfl k)) ?_
        refine own_gF X18 hx hZ hown (own_w hw 53 rfl) Via.refl e18 Fc17_0_2 (hb hby own_d9_29) rfl rfl fun T19 X19 e19 => ?_
        show own_Go _ _ _ _ T19 (mkF m 32 #[.val (.ref b2x4_14c5034), .val (.ref b5012), .val (.int (((((0 : Int32) + ((0 : Int32) + (1 : Int32))).toUInt32 >>> ((1 : Int32) &&& 31).toUInt32).toInt32) + (1 : Int32))), .unset] [(.ref b2x5_18c4c5034), (.int (((((0 : Int32) + ((0 : Int32) + (1 : Int32))).toUInt32 >>> ((1 : Int32) &&& 31).toUInt32).toInt32) + (1 : Int32))), (.ref b2x5_18c4c5034)])
        refine own_st (fun t k => XS.iloadN X19.here hx rfl (hb hby own_d9_32) rfl (XS.iconst X19.here hx rfl (hb hby own_d9_33) (XS.iadd X19.here hx rfl (hb hby own_d9_34) rfl k))) ?_
        show own_Go _ _ _ _ T19 (mkF m 35 #[.val (.ref b2x4_14c5034), .val (.ref b5012), .val (.int (((((0 : Int32) + ((0 : Int32) + (1 : Int32))).toUInt32 >>> ((1 : Int32) &&& 31).toUInt32).toInt32) + (1 : Int32))), .unset] [(.int ((((((0 : Int32) + ((0 : Int32) + (1 : Int32))).toUInt32 >>> ((1 : Int32) &&& 31).toUInt32).toInt32) + (1 : Int32)) + (1 : Int32))), (.ref b2x5_18c4c5034), (.int (((((0 : Int32) + ((0 : Int32) + (1 : Int32))).toUInt32 >>> ((1 : Int32) &&& 31).toUInt32).toInt32) + (1 : Int32))), (.ref b2x5_18c4c5034)])
        refine own_st (fun t k => XS.aloadN X19.here hx rfl (hb hby own_d9_35) rfl rfl k) ?_
        refine own_gF X19 hx hZ hown (own_w hw 78 rfl) (Via.of (own_w hw 79 rfl)) e19 Fc17_0_0 (hb hby own_d9_36) rfl rfl fun T20 X20 e20 => ?_
        refine own_st (fun t k => XS.iloadN X20.here hx rfl (hb hby own_d9_39) rfl k) ?_
        show own_Go _ _ _ _ T20 (mkF m 40 #[.val (.ref b2x4_14c5034), .val (.ref b5012), .val (.int (((((0 : Int32) + ((0 : Int32) + (1 : Int32))).toUInt32 >>> ((1 : Int32) &&& 31).toUInt32).toInt32) + (1 : Int32))), .unset] [(.int (((((0 : Int32) + ((0 : Int32) + (1 : Int32))).toUInt32 >>> ((1 : Int32) &&& 31).toUInt32).toInt32) + (1 : Int32))), (.int ((0 : Int32) + (1 : Int32))), (.int ((((((0 : Int32) + ((0 : Int32) + (1 : Int32))).toUInt32 >>> ((1 : Int32) &&& 31).toUInt32).toInt32) + (1 : Int32)) + (1 : Int32))), (.ref b2x5_18c4c5034), (.int (((((0 : Int32) + ((0 : Int32) + (1 : Int32))).toUInt32 >>> ((1 : Int32) &&& 31).toUInt32).toInt32) + (1 : Int32))), (.ref b2x5_18c4c5034)])
        refine own_st (fun t k => XS.isub X20.here hx rfl (hb hby own_d9_40) rfl k) ?_
        have f22 := ((P2.keep Kq1 nin0).keep Kq17 (ninS (ne_exa P22 P10 (by decide)) nin0))
        obtain ⟨T21, X21, e21, st21⟩ := own_cp0 X20 hx hZ hown (own_w hw 119 rfl) (own_w hw 122 rfl) (own_w hw 120 rfl) (own_w hw 121 rfl) e20 f22 f22 (sp := (((((0 : Int32) + ((0 : Int32) + (1 : Int32))).toUInt32 >>> ((1 : Int32) &&& 31).toUInt32).toInt32) + (1 : Int32))) (dp := ((((((0 : Int32) + ((0 : Int32) + (1 : Int32))).toUInt32 >>> ((1 : Int32) &&& 31).toUInt32).toInt32) + (1 : Int32)) + (1 : Int32))) (nn := (((0 : Int32) + (1 : Int32)) - (((((0 : Int32) + ((0 : Int32) + (1 : Int32))).toUInt32 >>> ((1 : Int32) &&& 31).toUInt32).toInt32) + (1 : Int32)))) rfl (Or.inr ⟨rfl, rfl⟩) (by decide) (by decide) (by decide) (by decide) (g := (mkF m 41 #[.val (.ref b2x4_14c5034), .val (.ref b5012), .val (.int (((((0 : Int32) + ((0 : Int32) + (1 : Int32))).toUInt32 >>> ((1 : Int32) &&& 31).toUInt32).toInt32) + (1 : Int32))), .unset] [(.int (((0 : Int32) + (1 : Int32)) - (((((0 : Int32) + ((0 : Int32) + (1 : Int32))).toUInt32 >>> ((1 : Int32) &&& 31).toUInt32).toInt32) + (1 : Int32)))), (.int ((((((0 : Int32) + ((0 : Int32) + (1 : Int32))).toUInt32 >>> ((1 : Int32) &&& 31).toUInt32).toInt32) + (1 : Int32)) + (1 : Int32))), (.ref b2x5_18c4c5034), (.int (((((0 : Int32) + ((0 : Int32) + (1 : Int32))).toUInt32 >>> ((1 : Int32) &&& 31).toUInt32).toInt32) + (1 : Int32))), (.ref b2x5_18c4c5034)])) rfl (by rw [hml]; rfl) rfl (hb hby own_d9_41) (by decide) (W := 0) (by show 2 * 0 + _ ≤ _; exact Nat.le_of_eq rfl) (by decide)
        refine own_st st21 ?_
        refine own_st (fun t k => XS.aloadN X21.here hx rfl (hb hby own_d9_44) rfl rfl k) ?_
        show own_Go _ _ _ _ T21 (mkF m 45 #[.val (.ref b2x4_14c5034), .val (.ref b5012), .val (.int (((((0 : Int32) + ((0 : Int32) + (1 : Int32))).toUInt32 >>> ((1 : Int32) &&& 31).toUInt32).toInt32) + (1 : Int32))), .unset] [(.ref b2x4_14c5034)])
        refine own_gF X21 hx hZ hown (own_w hw 53 rfl) Via.refl e21 Fc17_0_2 (hb hby own_d9_45) rfl rfl fun T23 X23 e23 => ?_
        refine own_st (fun t k => XS.iloadN X23.here hx rfl (hb hby own_d9_48) rfl (XS.aloadN X23.here hx rfl (hb hby own_d9_49) rfl rfl k)) ?_
        show own_Go _ _ _ _ T23 (mkF m 50 #[.val (.ref b2x4_14c5034), .val (.ref b5012), .val (.int (((((0 : Int32) + ((0 : Int32) + (1 : Int32))).toUInt32 >>> ((1 : Int32) &&& 31).toUInt32).toInt32) + (1 : Int32))), .unset] [(.ref b5012), (.int (((((0 : Int32) + ((0 : Int32) + (1 : Int32))).toUInt32 >>> ((1 : Int32) &&& 31).toUInt32).toInt32) + (1 : Int32))), (.ref b2x5_18c4c5034)])
        have Pd24 := f22.pad (pad_rep [(.ref b5002)] .null 1)
        obtain ⟨c24, A24, q24, S24, M24, H24, G24⟩ := Pd24
        have f25 := (f6.keep Kq17)
        obtain ⟨T24, h24, X24, e24, W24, st24⟩ := stR X23 hx hZ e23 A24 (j := (((((0 : Int32) + ((0 : Int32) + (1 : Int32))).toUInt32 >>> ((1 : Int32) &&& 31).toUInt32).toInt32) + (1 : Int32))) (inb_of S24 ⟨by decide, by decide⟩) rfl (Sto.ofV A24 q24 OFc5070_0_0 (Ins.self f25)) (g := (mkF m 50 #[.val (.ref b2x4_14c5034), .val (.ref b5012), .val (.int (((((0 : Int32) + ((0 : Int32) + (1 : Int32))).toUInt32 >>> ((1 : Int32) &&& 31).toUInt32).toInt32) + (1 : Int32))), .unset] [(.ref b5012), (.int (((((0 : Int32) + ((0 : Int32) + (1 : Int32))).toUInt32 >>> ((1 : Int32) &&& 31).toUInt32).toInt32) + (1 : Int32))), (.ref b2x5_18c4c5034)])) rfl rfl (hb hby own_d9_50)
        refine own_st st24 ?_
        have K24 : Keep h0 h24 [b2x4_14c5034, b2x5_18c4c5034] := K17.wr W24 (Or.inl (List.mem_of_getElem? (i := 1) rfl))
        have Z24 := Nat.le_trans Z17 (Keep.of_wr W24).1
        have N24 := Fr.snoc X24 N17 g_b2x5_18c4c5034
        have V24 : Arv Z h24 b2x5_18c4c5034 k2x5_18c4c5034c2c5070 (.object own_s1) (64 : Int32) [(.ref b5002), (.ref b5012)] .null := Arv.set A24 q24 S24 M24 H24 G24 rfl W24 1 rfl (Nat.le_of_ble_eq_true rfl)
        refine own_st (fun t k => XS.aloadN X24.here hx rfl (hb hby own_d9_51) rfl rfl (XS.dup X24.here hx rfl (hb hby own_d9_52) rfl rfl k)) ?_
        show own_Go _ _ _ _ T24 (mkF m 53 #[.val (.ref b2x4_14c5034), .val (.ref b5012), .val (.int (((((0 : Int32) + ((0 : Int32) + (1 : Int32))).toUInt32 >>> ((1 : Int32) &&& 31).toUInt32).toInt32) + (1 : Int32))), .unset] [(.ref b2x4_14c5034), (.ref b2x4_14c5034)])
        have f26 := (Fc17_0_0.other W24 (Or.inl (ne_exa P10 P22 (by decide))))
        refine own_gF X24 hx hZ hown (own_w hw 78 rfl) (Via.of (own_w hw 79 rfl)) e24 f26 (hb hby own_d9_53) rfl rfl fun T27 X27 e27 => ?_
        refine own_st (fun t k => XS.iconst X27.here hx rfl (hb hby own_d9_56) (XS.iadd X27.here hx rfl (hb hby own_d9_57) rfl k)) ?_
        show own_Go _ _ _ _ T27 (mkF m 58 #[.val (.ref b2x4_14c5034), .val (.ref b5012), .val (.int (((((0 : Int32) + ((0 : Int32) + (1 : Int32))).toUInt32 >>> ((1 : Int32) &&& 31).toUInt32).toInt32) + (1 : Int32))), .unset] [(.int (((0 : Int32) + (1 : Int32)) + (1 : Int32))), (.ref b2x4_14c5034)])
        have f28 := (P10.keep K24)
        refine own_pF X27 hx hZ hown (own_w hw 78 rfl) (Via.of (own_w hw 79 rfl)) e27 f26 f28 (Or.inl (own_w hw 80 rfl)) (own_w hw 36 rfl) (ty := .int) (by decide) (hb hby own_d9_58) rfl rfl rfl rfl fun T29 h29 X29 e29 W29 => ?_
        have K29 : Keep h0 h29 [b2x4_14c5034, b2x5_18c4c5034] := K24.wr W29 (Or.inl (List.mem_of_getElem? (i := 0) rfl))
        have Z29 := Nat.le_trans Z24 (Keep.of_wr W29).1
        have N29 := Fr.snoc X29 N24 g_b2x4_14c5034
        have F29 := f26.same W29
        refine own_st (fun t k => XS.aconstNull X29.here hx rfl (hb hby own_d9_61) k) ?_
        have f30 := ((Fc17_0_2.other W24 (Or.inl (ne_exa P10 P22 (by decide)))).other W29 (Or.inr (slot_ne (Or.inr (own_w hw 54 rfl)) (Or.inl (own_w hw 80 rfl)) (by decide) (t := (.array (.object own_s1))) (t' := .int) (by decide) (by decide))))
        have f31 := ((Fc17_0_1.other W24 (Or.inl (ne_exa P10 P22 (by decide)))).other W29 (Or.inr (slot_ne (Or.inl (own_w hw 51 rfl)) (Or.inl (own_w hw 80 rfl)) (by decide) (t := (.object own_s2)) (t' := .int) (by decide) (by decide))))
        have f32 := ((Fc17_0_3.other W24 (Or.inl (ne_exa P10 P22 (by decide)))).other W29 (Or.inr (slot_ne (Or.inl (own_w hw 94 rfl)) (Or.inl (own_w hw 80 rfl)) (by decide) (t := .boolean) (t' := .int) (by decide) (by decide))))
        have f33 := (V24.other W29 (ne_exa P22 P10 (by decide)))
        exact own_retA X29 hx hlk hret rfl rfl (hb hby own_d9_62) (by decide) (by decide) e29 ⟨N29, K29, (Or.inl ⟨_, rfl, hq1_0_0, F29, f30, f31, f32, f33, OFc5070_0_0, trivial⟩)⟩
  · skip
    show own_Go _ _ _ _ T1 (mkF m 5 #[.val (.ref b2x4_14c5034), .val (.ref b5012), .unset, .unset] [(.int (0 : Int32))])
    refine own_st (fun t k => XS.istoreN X1.here hx rfl (hb hby own_d9_5) rfl (l' := #[.val (.ref b2x4_14c5034), .val (.ref b5012), .val (.int (0 : Int32)), .unset]) rfl (XS.aloadN X1.here hx rfl (hb hby own_d9_6) rfl rfl k)) ?_
    have f34 := (P0.keep Kq1 nin0)
    refine own_gF X1 hx hZ hown (own_w hw 78 rfl) (Via.of (own_w hw 79 rfl)) rfl f34 (hb hby own_d9_7) rfl rfl fun T35 X35 e35 => ?_
    show own_Go _ _ _ _ T35 (mkF m 10 #[.val (.ref b2x4_14c5034), .val (.ref b5012), .val (.int (0 : Int32)), .unset] [(.int ((0 : Int32) + (1 : Int32)))])
    refine own_st (fun t k => XS.bipush X35.here hx rfl (hb hby own_d9_10) (XS.icmpNo X35.here hx rfl (hb hby own_d9_12) rfl (tlt (by decide : ((0 : Int32) + (1 : Int32)) < (64 : Int32))).2.1 (XS.aloadN X35.here hx rfl (hb hby own_d9_15) rfl rfl k))) ?_
    show own_Go _ _ _ _ T35 (mkF m 16 #[.val (.ref b2x4_14c5034), .val (.ref b5012), .val (.int (0 : Int32)), .unset] [(.ref b2x4_14c5034)])
    refine own_st (fun t k => XS.aloadN X35.here hx rfl (hb hby own_d9_16) rfl rfl k) ?_
    have f36 := (P11.keep Kq1 nin0)
    have f38 := (P5.keep Kq1)
    refine own_cV (a := b5012) X35 hx hZ hown (own_w hw 81 rfl) (own_w hw 82 rfl) (own_w hw 84 rfl) (own_w hw 83 rfl) (own_w hw 6 rfl) (own_w hw 85 rfl) [] [(.ref b2x4_14c5034)] f38 (own_rm11 l Z a0 hw [] b5012 w_NONE T1.heap n0 Z1 f36) 1 (hb hby own_d9_17) (by rw [hml]; rfl) (lenOf own_pd5 rfl) e35 rfl rfl (by show 2 * 0 + _ ≤ _; exact Nat.le_of_eq rfl) (by decide) (by decide) (by decide) (by decide) (by decide) fun v37 T37 L37 X37 hQ37 => ?_
    obtain ⟨N37q, e37, hL37⟩ := hQ37
    have N37 := Fr.app N1 N37q
    rcases hL37 with ⟨rfl, -⟩
    · skip
      have f39 := (P12.keep Kq1 nin0)
      have f40 := (P13.keep Kq1 nin0)
      have f41 := (P14.keep Kq1 nin0)
      have f42 := (P16.keep Kq1 nin0)
      have f43 := (P17.keep Kq1 nin0)
      have f44 := (P18.keep Kq1)
      have f45 := (P19.keep Kq1)
      have f46 := (P10.keep Kq1)
      have f47 := (P1.keep Kq1 nin0)
      have f48 := (P20.keep Kq1 nin0)
      obtain ⟨cq49, kq49, q49a, q49b, q49c⟩ := isOf hZ e37 f46
      obtain ⟨_, _, ⟨T49, L49, k49, n49⟩, -, X49, ⟨Lc49, hQ49, l49, y49, z49⟩, st49⟩ := X37.virtualBackUp hx (owner := own_s0) (x := own_y8) (y := own_y0) hown (mvT hZ (own_w hw 86 rfl)) (mvT hZ (own_w hw 87 rfl)) (mvT hZ (own_w hw 88 rfl)) (by decide) (mvT hZ (own_w hw 90 rfl)) (mvT hZ (own_w hw 89 rfl)) (backOf (W := 0) (own_rm12_105 l Z a0 hw [] b2x4_14c5034 w_NONE b6x14_69c4c13c16c2c5070 b3x14_69c4c13c16c2c5070 k3x14_69c4c13c16c2c5070 w_NONE_names k_w_NONE_names b2x5_18c4c5034 T1.heap n0 Z1 f34 f39 f40 f41 OFc5070_0_9 f42 f43 f44 f45 f46 g_b2x4_14c5034 f47 f48) hZ (own_w hw 91 rfl) (own_w hw 44 rfl) (by decide) (by decide)) q49a q49c (g := (mkF m 20 #[.val (.ref b2x4_14c5034), .val (.ref b5012), .val (.int (0 : Int32)), .unset] [(.ref w_NONE), (.ref b2x4_14c5034)])) rfl (by rw [hml]; rfl) (Steps.refl _) (argsL := [(.ref w_NONE)]) (rest := []) (lenOf own_pd10 rfl) rfl (by show 2 * 0 + _ ≤ _; exact Nat.le_of_eq rfl) (hb hby own_d9_20) (fun _ _ => ⟨rfl, e37, (by decide : 0 + 0 ≤ _), (by decide : 0 + 0 ≤ _)⟩)
      dsimp only [Pt.U, Pt.locs, Pt.cells, Pt.slots] at X49 l49 y49 z49 st49 hQ49
      subst l49 y49 z49
      obtain ⟨N49q, Kq49, hL49⟩ := hQ49
      have N49 := Fr.app N37 N49q
      have K49 : Keep h0 T49.heap [b2x4_14c5034, b2x5_18c4c5034] := K1.trans Kq49 (allS (Or.inl (List.mem_of_getElem? (i := 0) rfl)) all0)
      have Z49 := Nat.le_trans Z1 Kq49.1
      rcases hL49 with ⟨rfl, Fc49_0_0, Fc49_0_1, Fc49_0_2, Fc49_0_3, -⟩
      · skip
        refine own_st (fun t k => st49.trans k) ?_
        show own_Go _ _ _ _ T49 (mkF m 23 #[.val (.ref b2x4_14c5034), .val (.ref b5012), .val (.int (0 : Int32)), .unset] [])
        refine own_st (fun t k => XS.aloadN X49.here hx rfl (hb hby own_d9_23) rfl rfl k) ?_
        refine own_gF X49 hx hZ hown (own_w hw 53 rfl) Via.refl rfl Fc49_0_2 (hb hby own_d9_24) rfl rfl fun T50 X50 e50 => ?_
        refine own_st (fun t k => XS.iloadN X50.here hx rfl (hb hby own_d9_27) rfl k) ?_
        show own_Go _ _ _ _ T50 (mkF m 28 #[.val (.ref b2x4_14c5034), .val (.ref b5012), .val (.int (0 : Int32)), .unset] [(.int (0 : Int32)), (.ref b2x5_18c4c5034)])
        refine own_st (fun t k => XS.aloadN X50.here hx rfl (hb hby own_d9_28) rfl rfl k) ?_
        refine own_gF X50 hx hZ hown (own_w hw 53 rfl) Via.refl e50 Fc49_0_2 (hb hby own_d9_29) rfl rfl fun T51 X51 e51 => ?_
        refine own_st (fun t k => XS.iloadN X51.here hx rfl (hb hby own_d9_32) rfl k) ?_
        show own_Go _ _ _ _ T51 (mkF m 33 #[.val (.ref b2x4_14c5034), .val (.ref b5012), .val (.int (0 : Int32)), .unset] [(.int (0 : Int32)), (.ref b2x5_18c4c5034), (.int (0 : Int32)), (.ref b2x5_18c4c5034)])
        refine own_st (fun t k => XS.iconst X51.here hx rfl (hb hby own_d9_33) (XS.iadd X51.here hx rfl (hb hby own_d9_34) rfl (XS.aloadN X51.here hx rfl (hb hby own_d9_35) rfl rfl k))) ?_
        show own_Go _ _ _ _ T51 (mkF m 36 #[.val (.ref b2x4_14c5034), .val (.ref b5012), .val (.int (0 : Int32)), .unset] [(.ref b2x4_14c5034), (.int ((0 : Int32) + (1 : Int32))), (.ref b2x5_18c4c5034), (.int (0 : Int32)), (.ref b2x5_18c4c5034)])
        refine own_gF X51 hx hZ hown (own_w hw 78 rfl) (Via.of (own_w hw 79 rfl)) e51 Fc49_0_0 (hb hby own_d9_36) rfl rfl fun T52 X52 e52 => ?_
        refine own_st (fun t k => XS.iloadN X52.here hx rfl (hb hby own_d9_39) rfl (XS.isub X52.here hx rfl (hb hby own_d9_40) rfl k)) ?_
        show own_Go _ _ _ _ T52 (mkF m 41 #[.val (.ref b2x4_14c5034), .val (.ref b5012), .val (.int (0 : Int32)), .unset] [(.int (((0 : Int32) + (1 : Int32)) - (0 : Int32))), (.int ((0 : Int32) + (1 : Int32))), (.ref b2x5_18c4c5034), (.int (0 : Int32)), (.ref b2x5_18c4c5034)])
        have f54 := ((P2.keep Kq1 nin0).keep Kq49 (ninS (ne_exa P22 P10 (by decide)) nin0))
        have Pd53 := f54.pad (pad_rep [(.ref b5002)] .null 1)
        have f55 := (P9.keep K49)
        obtain ⟨T53, h53, L53, X53, e53, N53, Kq53, V53', st53⟩ := cpA X52 hx hZ hown (own_w hw 119 rfl) (own_w hw 122 rfl) (own_w hw 120 rfl) (own_w hw 121 rfl) e52 f54 Pd53 (Or.inr ⟨rfl, rfl, ⟨(own_sto Pd53 OFc5070_0_0 (Ins.self f55)), trivial⟩⟩) (sp := (0 : Int32)) (dp := ((0 : Int32) + (1 : Int32))) (nn := (((0 : Int32) + (1 : Int32)) - (0 : Int32))) (by decide) (by decide) (by decide) (by decide) (by decide) (us := [(.ref b5002)]) rfl (Nat.le_of_ble_eq_true rfl) N49 g_b2x5_18c4c5034 (g := (mkF m 41 #[.val (.ref b2x4_14c5034), .val (.ref b5012), .val (.int (0 : Int32)), .unset] [(.int (((0 : Int32) + (1 : Int32)) - (0 : Int32))), (.int ((0 : Int32) + (1 : Int32))), (.ref b2x5_18c4c5034), (.int (0 : Int32)), (.ref b2x5_18c4c5034)])) rfl (by rw [hml]; rfl) rfl (hb hby own_d9_41) (by decide) (W := 0) (by show 2 * 0 + _ ≤ _; exact Nat.le_of_eq rfl) (by decide)
        have V53 : Arv Z h53 b2x5_18c4c5034 k2x5_18c4c5034c2c5070 (.object own_s1) (64 : Int32) [(.ref b5002), (.ref b5002)] .null := V53'
        refine own_st st53 ?_
        have K53 : Keep h0 h53 [b2x4_14c5034, b2x5_18c4c5034] := K49.trans Kq53 (allS (Or.inl (List.mem_of_getElem? (i := 1) rfl)) all0)
        have Z53 := Nat.le_trans Z49 Kq53.1
        refine own_st (fun t k => XS.aloadN X53.here hx rfl (hb hby own_d9_44) rfl rfl k) ?_
        have f56 := (Fc49_0_2.keep Kq53 (ninS (ne_exa P10 P22 (by decide)) nin0))
        refine own_gF X53 hx hZ hown (own_w hw 53 rfl) Via.refl e53 f56 (hb hby own_d9_45) rfl rfl fun T57 X57 e57 => ?_
        show own_Go _ _ _ _ T57 (mkF m 48 #[.val (.ref b2x4_14c5034), .val (.ref b5012), .val (.int (0 : Int32)), .unset] [(.ref b2x5_18c4c5034)])
        refine own_st (fun t k => XS.iloadN X57.here hx rfl (hb hby own_d9_48) rfl (XS.aloadN X57.here hx rfl (hb hby own_d9_49) rfl rfl k)) ?_
        obtain ⟨c58, A58, q58, S58, M58, H58, G58⟩ := V53
        have f59 := (P5.keep K53)
        obtain ⟨T58, h58, X58, e58, W58, st58⟩ := stR X57 hx hZ e57 A58 (j := (0 : Int32)) (inb_of S58 ⟨by decide, by decide⟩) rfl (Sto.ofV A58 q58 OFc5070_0_0 (Ins.self f59)) (g := (mkF m 50 #[.val (.ref b2x4_14c5034), .val (.ref b5012), .val (.int (0 : Int32)), .unset] [(.ref b5012), (.int (0 : Int32)), (.ref b2x5_18c4c5034)])) rfl rfl (hb hby own_d9_50)
        refine own_st st58 ?_
        have K58 : Keep h0 h58 [b2x4_14c5034, b2x5_18c4c5034] := K53.wr W58 (Or.inl (List.mem_of_getElem? (i := 1) rfl))
        have Z58 := Nat.le_trans Z53 (Keep.of_wr W58).1
        have N58 := Fr.snoc X58 N53 g_b2x5_18c4c5034
        have V58 : Arv Z h58 b2x5_18c4c5034 k2x5_18c4c5034c2c5070 (.object own_s1) (64 : Int32) [(.ref b5012), (.ref b5002)] .null := Arv.set A58 q58 S58 M58 H58 G58 rfl W58 0 rfl (Nat.le_of_ble_eq_true rfl)
        show own_Go _ _ _ _ T58 (mkF m 51 #[.val (.ref b2x4_14c5034), .val (.ref b5012), .val (.int (0 : Int32)), .unset] [])
        refine own_st (fun t k => XS.aloadN X58.here hx rfl (hb hby own_d9_51) rfl rfl (XS.dup X58.here hx rfl (hb hby own_d9_52) rfl rfl k)) ?_
        have f60 := ((Fc49_0_0.keep Kq53 (ninS (ne_exa P10 P22 (by decide)) nin0)).other W58 (Or.inl (ne_exa P10 P22 (by decide))))
        refine own_gF X58 hx hZ hown (own_w hw 78 rfl) (Via.of (own_w hw 79 rfl)) e58 f60 (hb hby own_d9_53) rfl rfl fun T61 X61 e61 => ?_
        show own_Go _ _ _ _ T61 (mkF m 56 #[.val (.ref b2x4_14c5034), .val (.ref b5012), .val (.int (0 : Int32)), .unset] [(.int ((0 : Int32) + (1 : Int32))), (.ref b2x4_14c5034)])
        refine own_st (fun t k => XS.iconst X61.here hx rfl (hb hby own_d9_56) (XS.iadd X61.here hx rfl (hb hby own_d9_57) rfl k)) ?_
        have f62 := (P10.keep K58)
        refine own_pF X61 hx hZ hown (own_w hw 78 rfl) (Via.of (own_w hw 79 rfl)) e61 f60 f62 (Or.inl (own_w hw 80 rfl)) (own_w hw 36 rfl) (ty := .int) (by decide) (hb hby own_d9_58) rfl rfl rfl rfl fun T63 h63 X63 e63 W63 => ?_
        have K63 : Keep h0 h63 [b2x4_14c5034, b2x5_18c4c5034] := K58.wr W63 (Or.inl (List.mem_of_getElem? (i := 0) rfl))
        have Z63 := Nat.le_trans Z58 (Keep.of_wr W63).1
        have N63 := Fr.snoc X63 N58 g_b2x4_14c5034
        have F63 := f60.same W63
        show own_Go _ _ _ _ T63 (mkF m 61 #[.val (.ref b2x4_14c5034), .val (.ref b5012), .val (.int (0 : Int32)), .unset] [])
        refine own_st (fun t k => XS.aconstNull X63.here hx rfl (hb hby own_d9_61) k) ?_
        have f64 := ((f56.other W58 (Or.inl (ne_exa P10 P22 (by decide)))).other W63 (Or.inr (slot_ne (Or.inr (own_w hw 54 rfl)) (Or.inl (own_w hw 80 rfl)) (by decide) (t := (.array (.object own_s1))) (t' := .int) (by decide) (by decide))))
        have f65 := (((Fc49_0_1.keep Kq53 (ninS (ne_exa P10 P22 (by decide)) nin0)).other W58 (Or.inl (ne_exa P10 P22 (by decide)))).other W63 (Or.inr (slot_ne (Or.inl (own_w hw 51 rfl)) (Or.inl (own_w hw 80 rfl)) (by decide) (t := (.object own_s2)) (t' := .int) (by decide) (by decide))))
        have f66 := (((Fc49_0_3.keep Kq53 (ninS (ne_exa P10 P22 (by decide)) nin0)).other W58 (Or.inl (ne_exa P10 P22 (by decide)))).other W63 (Or.inr (slot_ne (Or.inl (own_w hw 94 rfl)) (Or.inl (own_w hw 80 rfl)) (by decide) (t := .boolean) (t' := .int) (by decide) (by decide))))
        have f67 := (V58.other W63 (ne_exa P22 P10 (by decide)))
        exact own_retA X63 hx hlk hret rfl rfl (hb hby own_d9_62) (by decide) (by decide) e63 ⟨N63, K63, (Or.inr ⟨_, rfl, hq1_1_0, F63, f64, f65, f66, f67, OFc5070_0_0, trivial⟩)⟩
def own_Q8_91 (Z : State) (b5032 : Addr) (b5012 : Addr) (b2x4_14c5034 : Addr) (b2x5_18c4c5034 : Addr) (k2x5_18c4c5034c2c5070 : ClassId) (b5002 : Addr) (jp1 : Int64) (d1 : Int64) (jp0 : Int64) (d0 : Int64) (w_NONE : Addr) (b6x14_69c4c13c16c2c5070 : Addr) (b3x14_69c4c13c16c2c5070 : Addr) (k3x14_69c4c13c16c2c5070 : ClassId) (w_NONE_names : Addr) (k_w_NONE_names : ClassId) (h0 : Heap) (n0 : Nat) (v : Option Value) (h : Heap) (L : List Loc) : Prop := Fr n0 L ∧ Keep h0 h [b2x5_18c4c5034, b2x4_14c5034, b5032] ∧ ((∃ k2x5_18c4c5034c2c5070c2 : ClassId, v = none ∧ (own_lt jp0 d0 jp1 d1) ∧ Arv Z h b2x5_18c4c5034 k2x5_18c4c5034c2c5070c2 (.object own_s1) (64 : Int32) [(.ref b5002), (.ref b5012)] .null ∧ Ovr Z k2x5_18c4c5034c2c5070c2 own_s1 ∧ Fld Z h b2x4_14c5034 own_s0 "count" "I" (.int (((0 : Int32) + (1 : Int32)) + (1 : Int32))) ∧ Fld Z h b2x4_14c5034 own_s4 "items" own_s7 (.ref b2x5_18c4c5034) ∧ Fld Z h b2x4_14c5034 own_s0 "least" own_s6 (.ref b6x14_69c4c13c16c2c5070) ∧ Fld Z h b2x4_14c5034 own_s0 "stale" "Z" (.int (0 : Int32)) ∧ Fld Z h b5032 own_s5 "root" "Lcom/example/lonborg/lonborg/ItemTree$Node;" (.ref b2x4_14c5034) ∧ Fld Z h b5032 own_s5 "size" "J" (.long (((0 : Int64) + (1 : Int64)) + (1 : Int64))) ∧ True) ∨ (∃ k2x5_18c4c5034c2c5070c2 : ClassId, v = none ∧ (¬ (own_lt jp0 d0 jp1 d1)) ∧ Arv Z h b2x5_18c4c5034 k2x5_18c4c5034c2c5070c2 (.object own_s1) (64 : Int32) [(.ref b5012), (.ref b5002)] .null ∧ Ovr Z k2x5_18c4c5034c2c5070c2 own_s1 ∧ Fld Z h b2x4_14c5034 own_s0 "count" "I" (.int (((0 : Int32) + (1 : Int32)) + (1 : Int32))) ∧ Fld Z h b2x4_14c5034 own_s4 "items" own_s7 (.ref b2x5_18c4c5034) ∧ Fld Z h b2x4_14c5034 own_s0 "least" own_s6 (.ref b6x14_69c4c13c16c2c5070) ∧ Fld Z h b2x4_14c5034 own_s0 "stale" "Z" (.int (0 : Int32)) ∧ Fld Z h b5032 own_s5 "root" "Lcom/example/lonborg/lonborg/ItemTree$Node;" (.ref b2x4_14c5034) ∧ Fld Z h b5032 own_s5 "size" "J" (.long (((0 : Int64) + (1 : Int64)) + (1 : Int64))) ∧ True))
set_option maxRecDepth 65536 in
set_option maxHeartbeats 40000000 in
theorem own_rm8_91 (l : Launch) (Z : State) (a0 : Array Value) (hw : ∀ d ∈ tables_1, d.before a0 Z = true) (ws : List Jvm.Cond) (b5032 : Addr) (b5012 : Addr) (b2x4_14c5034 : Addr) (b2x5_18c4c5034 : Addr) (k2x5_18c4c5034c2c5070 : ClassId) (b5002 : Addr) (jp1 : Int64) (d1 : Int64) (jp0 : Int64) (d0 : Int64) (w_NONE : Addr) (b6x14_69c4c13c16c2c5070 : Addr) (b3x14_69c4c13c16c2c5070 : Addr) (k3x14_69c4c13c16c2c5070 : ClassId) (w_NONE_names : Addr) (k_w_NONE_names : ClassId) (h0 : Heap) (n0 : Nat) (Z0 : n0 ≤ h0.size) (P0 : Fld Z h0 b5032 own_s5 "root" "Lcom/example/lonborg/lonborg/ItemTree$Node;" (.ref b2x4_14c5034)) (P1 : Fld Z h0 b2x4_14c5034 own_s0 "count" "I" (.int ((0 : Int32) + (1 : Int32)))) (P2 : Fld Z h0 b2x4_14c5034 own_s4 "items" own_s7 (.ref b2x5_18c4c5034)) (P3 : Arv Z h0 b2x5_18c4c5034 k2x5_18c4c5034c2c5070 (.object own_s1) (64 : Int32) [(.ref b5002)] .null) (OFc5070_0_0 : Ovr Z k2x5_18c4c5034c2c5070 own_s1) (P5 : Fld Z h0 b5012 own_s1 "priority" "J" (.long jp1)) (P6 : Exa Z h0 b5012 own_s1) (P7 : Fld Z h0 b5012 own_s1 "id" "J" (.long d1)) (P8 : Fld Z h0 b5002 own_s1 "priority" "J" (.long jp0)) (P9 : Fld Z h0 b5002 own_s1 "id" "J" (.long d0)) (P10 : Exa Z h0 b5002 own_s1) (P11 : Exa Z h0 b2x4_14c5034 own_s4) (P12 : Fld Z h0 b5012 own_s1 "needs" "Lcom/example/lonborg/lonborg/Resources;" (.ref w_NONE)) (P13 : Fld Z h0 b2x4_14c5034 own_s0 "least" own_s6 (.ref b6x14_69c4c13c16c2c5070)) (P14 : Fld Z h0 b6x14_69c4c13c16c2c5070 own_s2 "parts" own_s8 (.ref b3x14_69c4c13c16c2c5070)) (P15 : Arv Z h0 b3x14_69c4c13c16c2c5070 k3x14_69c4c13c16c2c5070 (.object own_s3) ((0 : Int32) + (1 : Int32)) [(.ref w_NONE)] .null) (OFc5070_0_9 : Ovr Z k3x14_69c4c13c16c2c5070 own_s3) (P17 : Fld Z h0 w_NONE own_s3 "names" "[Ljava/lang/String;" (.ref w_NONE_names)) (P18 : Arv Z h0 w_NONE_names k_w_NONE_names (.object "java/lang/String") (0 : Int32) [] .null) (P19 : Exa Z h0 w_NONE own_s3) (P20 : Exa Z h0 b6x14_69c4c13c16c2c5070 own_s2) (P21 : Fld Z h0 b2x4_14c5034 own_s0 "stale" "Z" (.int (0 : Int32))) (P22 : Exa Z h0 b2x5_18c4c5034 own_s7) (g_b2x4_14c5034 : n0 ≤ b2x4_14c5034) (g_b2x5_18c4c5034 : n0 ≤ b2x5_18c4c5034) (P25 : Fld Z h0 b5032 own_s5 "size" "J" (.long ((0 : Int64) + (1 : Int64)))) (P26 : Exa Z h0 b5032 own_s5) (g_b5032 : n0 ≤ b5032) :
    MetFree l own_y3 (head1 (Jvm.Cond.code own_y3 prog_2_method_2_code 3 none :: ws) ({ frames := 4, cells := 0, slots := 0, locals := 64 } : Room)) (fun a U => a = #[(.ref b5032), (.ref b5012)] ∧ Z.Warmed39 U.vm ∧ U.heap = h0) (fun _ _ _ _ _ => True) (fun _ U o U' => ∃ v L, o = .returned v ∧ own_Q8_91 Z b5032 b5012 b2x4_14c5034 b2x5_18c4c5034 k2x5_18c4c5034c2c5070 b5002 jp1 d1 jp0 d0 w_NONE b6x14_69c4c13c16c2c5070 b3x14_69c4c13c16c2c5070 k3x14_69c4c13c16c2c5070 w_NONE_names k_w_NONE_names h0 n0 v U'.heap L ∧ FrameEnd U o U' L ({ frames := 4, cells := 0, slots := 0, locals := 64 } : Room).cells ({ frames := 4, cells := 0, slots := 0, locals := 64 } : Room).slots) := by
  refine MetFree.of_bodySF (plainFor_of_name own_pn3) hisR ?_
  intro p e s m args below meth c s₁ Bd hml0 hP hK
  obtain ⟨rfl, hZ, hh⟩ := hP
  have hx := Bd.exec
  have hlk := Bd.notSynchronized
  have hret := Bd.returns
  have hby := Bd.bytes
  have hml : c.maxLocals = 3 := hml0
  have hown : s.vm.findClass own_s5 = some m.cls := findClass_of_methodNamed Bd.named
  have hnm := (name_of_methodNamed Bd.named Bd.method).1
  have X0 : Stand p l e ({ frames := 4, cells := 0, slots := 0, locals := 64 } : Room) s m #[(.ref b5032), (.ref b5012)] below meth c s₁ [] 0 0 := Stand.of_body Bd
  have e0 : s₁.heap = h0 := by rw [← hh, Bd.state]; rfl
  have N0 := Fr.nil n0
  refine own_open (Q := own_Q8_91 Z b5032 b5012 b2x4_14c5034 b2x5_18c4c5034 k2x5_18c4c5034c2c5070 b5002 jp1 d1 jp0 d0 w_NONE b6x14_69c4c13c16c2c5070 b3x14_69c4c13c16c2c5070 k3x14_69c4c13c16c2c5070 w_NONE_names k_w_NONE_names h0 n0) (own_ef8 m b5032 b5012) ?_
  refine own_st (fun t k => XS.aloadN X0.here hx rfl (hb hby own_d8_0) rfl rfl k) ?_
  refine own_gF X0 hx hZ hown (own_w hw 55 rfl) Via.refl e0 P0 (hb hby own_d8_1) rfl rfl fun T1 X1 e1 => ?_
  show own_Go _ _ _ _ T1 (mkF m 4 #[.val (.ref b5032), .val (.ref b5012), .unset] [(.ref b2x4_14c5034)])
  refine own_st (fun t k => XS.aloadN X1.here hx rfl (hb hby own_d8_4) rfl rfl k) ?_
  obtain ⟨cq2, kq2, q2a, q2b, q2c⟩ := isOf hZ e1 P11
  obtain ⟨_, _, ⟨T2, L2, k2, n2⟩, -, X2, ⟨Lc2, hQ2, l2, y2, z2⟩, st2⟩ := X1.virtualBack hx (y := (⟨own_s0, "add", own_s9⟩ : MethodName)) (z := own_y6) hown (mvT hZ (own_w hw 69 rfl)) (mvT hZ (own_w hw 70 rfl)) (own_nf (args := #[]) (mvT hZ (own_w hw 90 rfl)) rfl) (mvT hZ (own_w hw 71 rfl)) (mvT hZ (own_w hw 72 rfl)) (by decide) (backOf (W := 0) (own_rm9_100 l Z a0 hw [] b2x4_14c5034 b5012 b2x5_18c4c5034 k2x5_18c4c5034c2c5070 b5002 jp1 d1 jp0 d0 w_NONE b6x14_69c4c13c16c2c5070 b3x14_69c4c13c16c2c5070 k3x14_69c4c13c16c2c5070 w_NONE_names k_w_NONE_names h0 n0 Z0 P1 P2 P3 OFc5070_0_0 P5 P6 P7 P8 P9 P10 P11 P12 P13 P14 P15 OFc5070_0_9 P17 P18 P19 P20 P21 g_b2x4_14c5034 P22 g_b2x5_18c4c5034) hZ (own_w hw 73 rfl) (own_w hw 37 rfl) (by decide) (by decide)) q2a q2c (g := (mkF m 5 #[.val (.ref b5032), .val (.ref b5012), .unset] [(.ref b5012), (.ref b2x4_14c5034)])) rfl (by rw [hml]; rfl) (Steps.refl _) (argsL := [(.ref b5012)]) (rest := []) (lenOf own_pd11 rfl) rfl (by show 2 * 0 + _ ≤ _; exact Nat.le_of_eq rfl) (hb hby own_d8_5) (fun _ _ => ⟨rfl, e1, (by decide : 0 + 0 ≤ _), (by decide : 0 + 0 ≤ _)⟩)
  dsimp only [Pt.U, Pt.locs, Pt.cells, Pt.slots] at X2 l2 y2 z2 st2 hQ2
  subst l2 y2 z2
  obtain ⟨N2q, Kq2, hL2⟩ := hQ2
  have N2 := Fr.app N0 N2q
  have K2 : Keep h0 T2.heap [b2x5_18c4c5034, b2x4_14c5034, b5032] := (Keep.refl h0 [b2x5_18c4c5034, b2x4_14c5034, b5032]).trans Kq2 (allS (Or.inl (List.mem_of_getElem? (i := 1) rfl)) (allS (Or.inl (List.mem_of_getElem? (i := 0) rfl)) all0))
  have Z2 := Nat.le_trans Z0 Kq2.1
  rcases hL2 with ⟨k2x5_18c4c5034c2c5070c2, rfl, hq2_0_0, Fc2_0_0, Fc2_0_1, Fc2_0_2, Fc2_0_3, Fc2_0_4, OFc2_0_4, -⟩ | ⟨k2x5_18c4c5034c2c5070c2, rfl, hq2_1_0, Fc2_1_0, Fc2_1_1, Fc2_1_2, Fc2_1_3, Fc2_1_4, OFc2_1_4, -⟩
  · skip
    refine own_st (fun t k => st2.trans k) ?_
    refine own_st (fun t k => XS.astoreN X2.here hx rfl (hb hby own_d8_8) rfl rfl (l' := #[.val (.ref b5032), .val (.ref b5012), .val .null]) rfl k) ?_
    show own_Go _ _ _ _ T2 (mkF m 9 #[.val (.ref b5032), .val (.ref b5012), .val .null] [])
    refine own_st (fun t k => XS.aloadN X2.here hx rfl (hb hby own_d8_9) rfl rfl (XS.ifnullYes X2.here hx rfl (pc0 := 10) (pc' := 29) rfl (hb hby own_d8_10) rfl (by decide) (by decide) (XS.aloadN X2.here hx rfl (hb hby own_d8_29) rfl rfl k))) ?_
    show own_Go _ _ _ _ T2 (mkF m 30 #[.val (.ref b5032), .val (.ref b5012), .val .null] [(.ref b5032)])
    refine own_st (fun t k => XS.dup X2.here hx rfl (hb hby own_d8_30) rfl rfl k) ?_
    have f3 := (P25.keep Kq2 (ninS (ne_exa P26 P11 (by decide)) (ninS (ne_exa P26 P22 (by decide)) nin0)))
    refine own_gF X2 hx hZ hown (own_w hw 62 rfl) Via.refl rfl f3 (hb hby own_d8_31) rfl rfl fun T4 X4 e4 => ?_
    refine own_st (fun t k => XS.lconst X4.here hx rfl (hb hby own_d8_34) k) ?_
    show own_Go _ _ _ _ T4 (mkF m 35 #[.val (.ref b5032), .val (.ref b5012), .val .null] [(.long (1 : Int64)), (.long ((0 : Int64) + (1 : Int64))), (.ref b5032)])
    refine own_st (fun t k => XS.ladd X4.here hx rfl (hb hby own_d8_35) rfl k) ?_
    have f5 := (P26.keep Kq2)
    refine own_pF X4 hx hZ hown (own_w hw 62 rfl) Via.refl e4 f3 f5 (Or.inl (own_w hw 63 rfl)) (own_w hw 29 rfl) (ty := .long) (by decide) (hb hby own_d8_36) rfl rfl rfl rfl fun T6 h6 X6 e6 W6 => ?_
    have K6 : Keep h0 h6 [b2x5_18c4c5034, b2x4_14c5034, b5032] := K2.wr W6 (Or.inl (List.mem_of_getElem? (i := 2) rfl))
    have Z6 := Nat.le_trans Z2 (Keep.of_wr W6).1
    have N6 := Fr.snoc X6 N2 g_b5032
    have F6 := f3.same W6
    have f7 := (Fc2_0_4.other W6 (ne_exa P22 P26 (by decide)))
    have f8 := (Fc2_0_0.other W6 (Or.inl (ne_exa P11 P26 (by decide))))
    have f9 := (Fc2_0_1.other W6 (Or.inl (ne_exa P11 P26 (by decide))))
    have f10 := (Fc2_0_2.other W6 (Or.inl (ne_exa P11 P26 (by decide))))
    have f11 := (Fc2_0_3.other W6 (Or.inl (ne_exa P11 P26 (by decide))))
    have f12 := ((P0.keep Kq2 (ninS (ne_exa P26 P11 (by decide)) (ninS (ne_exa P26 P22 (by decide)) nin0))).other W6 (Or.inr (slot_ne (Or.inl (own_w hw 56 rfl)) (Or.inl (own_w hw 63 rfl)) (by decide) (t := (.object own_s0)) (t' := .long) (by decide) (by decide))))
    exact own_retV X6 hx hlk hret (hb hby own_d8_39) (by decide) (by decide) e6 ⟨N6, K6, (Or.inl ⟨_, rfl, hq2_0_0, f7, OFc2_0_4, f8, f9, f10, f11, f12, F6, trivial⟩)⟩
  · skip
    refine own_st (fun t k => st2.trans k) ?_
    show own_Go _ _ _ _ T2 (mkF m 8 #[.val (.ref b5032), .val (.ref b5012), .unset] [.null])
    refine own_st (fun t k => XS.astoreN X2.here hx rfl (hb hby own_d8_8) rfl rfl (l' := #[.val (.ref b5032), .val (.ref b5012), .val .null]) rfl (XS.aloadN X2.here hx rfl (hb hby own_d8_9) rfl rfl (XS.ifnullYes X2.here hx rfl (pc0 := 10) (pc' := 29) rfl (hb hby own_d8_10) rfl (by decide) (by decide) k))) ?_
    show own_Go _ _ _ _ T2 (mkF m 29 #[.val (.ref b5032), .val (.ref b5012), .val .null] [])
    refine own_st (fun t k => XS.aloadN X2.here hx rfl (hb hby own_d8_29) rfl rfl (XS.dup X2.here hx rfl (hb hby own_d8_30) rfl rfl k)) ?_
    have f13 := (P25.keep Kq2 (ninS (ne_exa P26 P11 (by decide)) (ninS (ne_exa P26 P22 (by decide)) nin0)))
    refine own_gF X2 hx hZ hown (own_w hw 62 rfl) Via.refl rfl f13 (hb hby own_d8_31) rfl rfl fun T14 X14 e14 => ?_
    show own_Go _ _ _ _ T14 (mkF m 34 #[.val (.ref b5032), .val (.ref b5012), .val .null] [(.long ((0 : Int64) + (1 : Int64))), (.ref b5032)])
    refine own_st (fun t k => XS.lconst X14.here hx rfl (hb hby own_d8_34) (XS.ladd X14.here hx rfl (hb hby own_d8_35) rfl k)) ?_
    have f15 := (P26.keep Kq2)
    refine own_pF X14 hx hZ hown (own_w hw 62 rfl) Via.refl e14 f13 f15 (Or.inl (own_w hw 63 rfl)) (own_w hw 29 rfl) (ty := .long) (by decide) (hb hby own_d8_36) rfl rfl rfl rfl fun T16 h16 X16 e16 W16 => ?_
    have K16 : Keep h0 h16 [b2x5_18c4c5034, b2x4_14c5034, b5032] := K2.wr W16 (Or.inl (List.mem_of_getElem? (i := 2) rfl))
    have Z16 := Nat.le_trans Z2 (Keep.of_wr W16).1
    have N16 := Fr.snoc X16 N2 g_b5032
    have F16 := f13.same W16
    show own_Go _ _ _ _ T16 (mkF m 39 #[.val (.ref b5032), .val (.ref b5012), .val .null] [])
    have f17 := (Fc2_1_4.other W16 (ne_exa P22 P26 (by decide)))
    have f18 := (Fc2_1_0.other W16 (Or.inl (ne_exa P11 P26 (by decide))))
    have f19 := (Fc2_1_1.other W16 (Or.inl (ne_exa P11 P26 (by decide))))
    have f20 := (Fc2_1_2.other W16 (Or.inl (ne_exa P11 P26 (by decide))))
    have f21 := (Fc2_1_3.other W16 (Or.inl (ne_exa P11 P26 (by decide))))
    have f22 := ((P0.keep Kq2 (ninS (ne_exa P26 P11 (by decide)) (ninS (ne_exa P26 P22 (by decide)) nin0))).other W16 (Or.inr (slot_ne (Or.inl (own_w hw 56 rfl)) (Or.inl (own_w hw 63 rfl)) (by decide) (t := (.object own_s0)) (t' := .long) (by decide) (by decide))))
    exact own_retV X16 hx hlk hret (hb hby own_d8_39) (by decide) (by decide) e16 ⟨N16, K16, (Or.inr ⟨_, rfl, hq2_1_0, f17, OFc2_1_4, f18, f19, f20, f21, f22, F16, trivial⟩)⟩
def own_Q17_109 (Z : State) (b2x4_14c5034 : Addr) (b2x5_18c4c5034 : Addr) (k2x5_18c4c5034c2c5070c2c5093 : ClassId) (b5002 : Addr) (b5012 : Addr) (h0 : Heap) (n0 : Nat) (v : Option Value) (h : Heap) (L : List Loc) : Prop := Fr n0 L ∧ Keep h0 h [] ∧ ((v = some (.ref b5002) ∧ True))
set_option maxRecDepth 65536 in
set_option maxHeartbeats 40000000 in
theorem own_rm17_109 (l : Launch) (Z : State) (a0 : Array Value) (hw : ∀ d ∈ tables_1, d.before a0 Z = true) (ws : List Jvm.Cond) (b2x4_14c5034 : Addr) (b2x5_18c4c5034 : Addr) (k2x5_18c4c5034c2c5070c2c5093 : ClassId) (b5002 : Addr) (b5012 : Addr) (h0 : Heap) (n0 : Nat) (Z0 : n0 ≤ h0.size) (P0 : Fld Z h0 b2x4_14c5034 own_s4 "items" own_s7 (.ref b2x5_18c4c5034)) (P1 : Arv Z h0 b2x5_18c4c5034 k2x5_18c4c5034c2c5070c2c5093 (.object own_s1) (64 : Int32) [(.ref b5002), (.ref b5012)] .null) (OFc5093_0_0 : Ovr Z k2x5_18c4c5034c2c5070c2c5093 own_s1) :
    MetFree l own_y5 (head1 (Jvm.Cond.code own_y5 prog_4_method_3_code 1 (some (.object own_s1)) :: ws) ({ frames := 0, cells := 0, slots := 0, locals := 0 } : Room)) (fun a U => a = #[(.ref b2x4_14c5034)] ∧ Z.Warmed39 U.vm ∧ U.heap = h0) (fun _ _ _ _ _ => True) (fun _ U o U' => ∃ v L, o = .returned v ∧ own_Q17_109 Z b2x4_14c5034 b2x5_18c4c5034 k2x5_18c4c5034c2c5070c2c5093 b5002 b5012 h0 n0 v U'.heap L ∧ FrameEnd U o U' L ({ frames := 0, cells := 0, slots := 0, locals := 0 } : Room).cells ({ frames := 0, cells := 0, slots := 0, locals := 0 } : Room).slots) := by
  refine MetFree.of_bodySF (plainFor_of_name own_pn2) hisR ?_
  intro p e s m args below meth c s₁ Bd hml0 hP hK
  obtain ⟨rfl, hZ, hh⟩ := hP
  have hx := Bd.exec
  have hlk := Bd.notSynchronized
  have hret := Bd.returns
  have hby := Bd.bytes
  have hml : c.maxLocals = 1 := hml0
  have hown : s.vm.findClass own_s4 = some m.cls := findClass_of_methodNamed Bd.named
  have hnm := (name_of_methodNamed Bd.named Bd.method).1
  have X0 : Stand p l e ({ frames := 0, cells := 0, slots := 0, locals := 0 } : Room) s m #[(.ref b2x4_14c5034)] below meth c s₁ [] 0 0 := Stand.of_body Bd
  have e0 : s₁.heap = h0 := by rw [← hh, Bd.state]; rfl
  have N0 := Fr.nil n0
  refine own_open (Q := own_Q17_109 Z b2x4_14c5034 b2x5_18c4c5034 k2x5_18c4c5034c2c5070c2c5093 b5002 b5012 h0 n0) (own_ef17 m b2x4_14c5034) ?_
  refine own_st (fun t k => XS.aloadN X0.here hx rfl (hb hby own_d17_0) rfl rfl k) ?_
  refine own_gF X0 hx hZ hown (own_w hw 53 rfl) Via.refl e0 P0 (hb hby own_d17_1) rfl rfl fun T1 X1 e1 => ?_
  show own_Go _ _ _ _ T1 (mkF m 4 #[.val (.ref b2x4_14c5034)] [(.ref b2x5_18c4c5034)])
  refine own_st (fun t k => XS.iconst X1.here hx rfl (hb hby own_d17_4) k) ?_
  refine own_st (own_aaload X1 hx hZ e1 P1 rfl (j := (0 : Int32)) (v := (.ref b5002)) ⟨by decide, by decide⟩ rfl (g := (mkF m 5 #[.val (.ref b2x4_14c5034)] [(.int (0 : Int32)), (.ref b2x5_18c4c5034)])) rfl rfl (hb hby own_d17_5)) ?_
  exact own_retA X1 hx hlk hret rfl rfl (hb hby own_d17_6) (by decide) (by decide) e1 ⟨N0, (Keep.refl h0 []), ⟨rfl, trivial⟩⟩
def own_Q7_108 (Z : State) (b5032 : Addr) (b2x4_14c5034 : Addr) (b2x5_18c4c5034 : Addr) (k2x5_18c4c5034c2c5070c2c5093 : ClassId) (b5002 : Addr) (b5012 : Addr) (h0 : Heap) (n0 : Nat) (v : Option Value) (h : Heap) (L : List Loc) : Prop := Fr n0 L ∧ Keep h0 h [] ∧ ((v = some (.ref b5002) ∧ True))
set_option maxRecDepth 65536 in
set_option maxHeartbeats 40000000 in
theorem own_rm7_108 (l : Launch) (Z : State) (a0 : Array Value) (hw : ∀ d ∈ tables_1, d.before a0 Z = true) (ws : List Jvm.Cond) (b5032 : Addr) (b2x4_14c5034 : Addr) (b2x5_18c4c5034 : Addr) (k2x5_18c4c5034c2c5070c2c5093 : ClassId) (b5002 : Addr) (b5012 : Addr) (h0 : Heap) (n0 : Nat) (Z0 : n0 ≤ h0.size) (P0 : Fld Z h0 b5032 own_s5 "size" "J" (.long (((0 : Int64) + (1 : Int64)) + (1 : Int64)))) (P1 : Fld Z h0 b5032 own_s5 "root" "Lcom/example/lonborg/lonborg/ItemTree$Node;" (.ref b2x4_14c5034)) (P2 : Fld Z h0 b2x4_14c5034 own_s4 "items" own_s7 (.ref b2x5_18c4c5034)) (P3 : Arv Z h0 b2x5_18c4c5034 k2x5_18c4c5034c2c5070c2c5093 (.object own_s1) (64 : Int32) [(.ref b5002), (.ref b5012)] .null) (OFc5093_0_0 : Ovr Z k2x5_18c4c5034c2c5070c2c5093 own_s1) (P5 : Exa Z h0 b2x4_14c5034 own_s4) :
    MetFree l own_y7 (head1 (Jvm.Cond.code own_y7 prog_2_method_3_code 1 (some (.object own_s1)) :: ws) ({ frames := 1, cells := 0, slots := 0, locals := 12 } : Room)) (fun a U => a = #[(.ref b5032)] ∧ Z.Warmed39 U.vm ∧ U.heap = h0) (fun _ _ _ _ _ => True) (fun _ U o U' => ∃ v L, o = .returned v ∧ own_Q7_108 Z b5032 b2x4_14c5034 b2x5_18c4c5034 k2x5_18c4c5034c2c5070c2c5093 b5002 b5012 h0 n0 v U'.heap L ∧ FrameEnd U o U' L ({ frames := 1, cells := 0, slots := 0, locals := 12 } : Room).cells ({ frames := 1, cells := 0, slots := 0, locals := 12 } : Room).slots) := by
  refine MetFree.of_bodySF (plainFor_of_name own_pn3) hisR ?_
  intro p e s m args below meth c s₁ Bd hml0 hP hK
  obtain ⟨rfl, hZ, hh⟩ := hP
  have hx := Bd.exec
  have hlk := Bd.notSynchronized
  have hret := Bd.returns
  have hby := Bd.bytes
  have hml : c.maxLocals = 1 := hml0
  have hown : s.vm.findClass own_s5 = some m.cls := findClass_of_methodNamed Bd.named
  have hnm := (name_of_methodNamed Bd.named Bd.method).1
  have X0 : Stand p l e ({ frames := 1, cells := 0, slots := 0, locals := 12 } : Room) s m #[(.ref b5032)] below meth c s₁ [] 0 0 := Stand.of_body Bd
  have e0 : s₁.heap = h0 := by rw [← hh, Bd.state]; rfl
  have N0 := Fr.nil n0
  refine own_open (Q := own_Q7_108 Z b5032 b2x4_14c5034 b2x5_18c4c5034 k2x5_18c4c5034c2c5070c2c5093 b5002 b5012 h0 n0) (own_ef7 m b5032) ?_
  refine own_st (fun t k => XS.aloadN X0.here hx rfl (hb hby own_d7_0) rfl rfl k) ?_
  refine own_gF X0 hx hZ hown (own_w hw 62 rfl) Via.refl e0 P0 (hb hby own_d7_1) rfl rfl fun T1 X1 e1 => ?_
  show own_Go _ _ _ _ T1 (mkF m 4 #[.val (.ref b5032)] [(.long (((0 : Int64) + (1 : Int64)) + (1 : Int64)))])
  refine own_st (fun t k => XS.lconst X1.here hx rfl (hb hby own_d7_4) (XS.lcmp X1.here hx rfl (hb hby own_d7_5) rfl (XS.ifYes X1.here hx rfl (pc0 := 6) (pc' := 13) rfl (hb hby own_d7_6) rfl ((if0 _ _).trans (feq (by decide : ¬ ((lcmpW (((0 : Int64) + (1 : Int64)) + (1 : Int64)) (0 : Int64)) = (0 : Int32)))).2) (by decide) (by decide) k))) ?_
  show own_Go _ _ _ _ T1 (mkF m 13 #[.val (.ref b5032)] [])
  refine own_st (fun t k => XS.aloadN X1.here hx rfl (hb hby own_d7_13) rfl rfl k) ?_
  refine own_gF X1 hx hZ hown (own_w hw 55 rfl) Via.refl e1 P1 (hb hby own_d7_14) rfl rfl fun T2 X2 e2 => ?_
  obtain ⟨cq3, kq3, q3a, q3b, q3c⟩ := isOf hZ e2 P5
  obtain ⟨_, _, ⟨T3, L3, k3, n3⟩, -, X3, ⟨Lc3, hQ3, l3, y3, z3⟩, st3⟩ := X2.virtualBack hx (y := (⟨own_s0, "first", own_s11⟩ : MethodName)) (z := own_y5) hown (mvT hZ (own_w hw 123 rfl)) (mvT hZ (own_w hw 124 rfl)) (own_nf (args := #[]) (mvT hZ (own_w hw 90 rfl)) rfl) (mvT hZ (own_w hw 125 rfl)) (mvT hZ (own_w hw 126 rfl)) (by decide) (backOf (W := 0) (own_rm17_109 l Z a0 hw [] b2x4_14c5034 b2x5_18c4c5034 k2x5_18c4c5034c2c5070c2c5093 b5002 b5012 h0 n0 Z0 P2 P3 OFc5093_0_0) hZ (own_w hw 127 rfl) (own_w hw 37 rfl) (by decide) (by decide)) q3a q3c (g := (mkF m 17 #[.val (.ref b5032)] [(.ref b2x4_14c5034)])) rfl (by rw [hml]; rfl) (Steps.refl _) (argsL := []) (rest := []) (lenOf own_pd3 rfl) rfl (by show 2 * 0 + _ ≤ _; exact Nat.le_of_eq rfl) (hb hby own_d7_17) (fun _ _ => ⟨rfl, e2, (by decide : 0 + 0 ≤ _), (by decide : 0 + 0 ≤ _)⟩)
  dsimp only [Pt.U, Pt.locs, Pt.cells, Pt.slots] at X3 l3 y3 z3 st3 hQ3
  subst l3 y3 z3
  obtain ⟨N3q, Kq3, hL3⟩ := hQ3
  have N3 := Fr.app N0 N3q
  have K3 : Keep h0 T3.heap [] := (Keep.refl h0 []).trans Kq3 all0
  have Z3 := Nat.le_trans Z0 Kq3.1
  rcases hL3 with ⟨rfl, -⟩
  · skip
    refine own_st (fun t k => st3.trans k) ?_
    show own_Go _ _ _ _ T3 (mkF m 20 #[.val (.ref b5032)] [(.ref b5002)])
    exact own_retA X3 hx hlk hret rfl rfl (hb hby own_d7_20) (by decide) (by decide) rfl ⟨N3, K3, ⟨rfl, trivial⟩⟩
theorem own_d22_0 : decode method_3_code 0 = .ok (.lload_n 0, 1) := by decide +kernel
theorem own_d22_1 : decode method_3_code 1 = .ok (.lload 4, 2) := by decide +kernel
theorem own_d22_3 : decode method_3_code 3 = .ok (.lcmp, 1) := by decide +kernel
theorem own_d22_4 : decode method_3_code 4 = .ok (.ifCond .lt 17, 3) := by decide +kernel
theorem own_d22_7 : decode method_3_code 7 = .ok (.lload_n 0, 1) := by decide +kernel
theorem own_d22_8 : decode method_3_code 8 = .ok (.lload 4, 2) := by decide +kernel
theorem own_d22_10 : decode method_3_code 10 = .ok (.lcmp, 1) := by decide +kernel
theorem own_d22_11 : decode method_3_code 11 = .ok (.ifCond .ne 14, 3) := by decide +kernel
theorem own_d22_14 : decode method_3_code 14 = .ok (.lload_n 2, 1) := by decide +kernel
theorem own_d22_15 : decode method_3_code 15 = .ok (.lload 6, 2) := by decide +kernel
theorem own_d22_17 : decode method_3_code 17 = .ok (.lcmp, 1) := by decide +kernel
theorem own_d22_18 : decode method_3_code 18 = .ok (.ifCond .ge 7, 3) := by decide +kernel
theorem own_d22_21 : decode method_3_code 21 = .ok (.iconst 1, 1) := by decide +kernel
theorem own_d22_22 : decode method_3_code 22 = .ok (.goto 4, 3) := by decide +kernel
theorem own_d22_25 : decode method_3_code 25 = .ok (.iconst 0, 1) := by decide +kernel
theorem own_d22_26 : decode method_3_code 26 = .ok (.ireturn, 1) := by decide +kernel
theorem own_ef22 (m : MethodId) (x0 : Int64) (x1 : Int64) (x2 : Int64) (x3 : Int64) : entryFrame m #[(.long x0), (.long x1), (.long x2), (.long x3)] 8 = mkF m 0 #[.val (.long x0), .second, .val (.long x1), .second, .val (.long x2), .second, .val (.long x3), .second] [] := by first | (simp [entryFrame, mkF, argsToLocals, Value.category]; done) | rfl
theorem own_pn6 : plainName "com/example/lonborg/lonborg/ItemTreeFirstPinLaw" = true := by first | (simp [plainName, overriddenIn]; done) | decide +kernel
def own_Q22 (jp0 : Int64) (jp1 : Int64) (jp2 : Int64) (jp3 : Int64) (h0 : Heap) (n0 : Nat) (v : Option Value) (h : Heap) (L : List Loc) : Prop := Fr n0 L ∧ h = h0 ∧ ((v = some (.int (1 : Int32)) ∧ (own_lt jp0 jp1 jp2 jp3) ∧ True) ∨ (v = some (.int (0 : Int32)) ∧ (¬ (own_lt jp0 jp1 jp2 jp3)) ∧ True))
set_option maxRecDepth 65536 in
set_option maxHeartbeats 40000000 in
theorem own_rm22 (l : Launch) (Z : State) (a0 : Array Value) (hw : ∀ d ∈ tables_1, d.before a0 Z = true) (ws : List Jvm.Cond) (jp0 : Int64) (jp1 : Int64) (jp2 : Int64) (jp3 : Int64) (h0 : Heap) (n0 : Nat) (Z0 : n0 ≤ h0.size) :
    MetFree l (⟨"com/example/lonborg/lonborg/ItemTreeFirstPinLaw", "less", "(JJJJ)Z"⟩ : MethodName) (head1 (Jvm.Cond.code (⟨"com/example/lonborg/lonborg/ItemTreeFirstPinLaw", "less", "(JJJJ)Z"⟩ : MethodName) method_3_code 8 (some .boolean) :: ws) ({ frames := 0, cells := 0, slots := 0, locals := 0 } : Room)) (fun a U => a = #[(.long jp0), (.long jp1), (.long jp2), (.long jp3)] ∧ Z.Warmed39 U.vm ∧ U.heap = h0) (fun _ _ _ _ _ => True) (fun _ U o U' => ∃ v L, o = .returned v ∧ own_Q22 jp0 jp1 jp2 jp3 h0 n0 v U'.heap L ∧ FrameEnd U o U' L ({ frames := 0, cells := 0, slots := 0, locals := 0 } : Room).cells ({ frames := 0, cells := 0, slots := 0, locals := 0 } : Room).slots) := by
  refine MetFree.of_bodySF (plainFor_of_name own_pn6) hisR ?_
  intro p e s m args below meth c s₁ Bd hml0 hP hK
  obtain ⟨rfl, hZ, hh⟩ := hP
  have hx := Bd.exec
  have hlk := Bd.notSynchronized
  have hret := Bd.returns
  have hby := Bd.bytes
  have hml : c.maxLocals = 8 := hml0
  have hown : s.vm.findClass "com/example/lonborg/lonborg/ItemTreeFirstPinLaw" = some m.cls := findClass_of_methodNamed Bd.named
  have hnm := (name_of_methodNamed Bd.named Bd.method).1
  have X0 : Stand p l e ({ frames := 0, cells := 0, slots := 0, locals := 0 } : Room) s m #[(.long jp0), (.long jp1), (.long jp2), (.long jp3)] below meth c s₁ [] 0 0 := Stand.of_body Bd
  have e0 : s₁.heap = h0 := by rw [← hh, Bd.state]; rfl
  have N0 := Fr.nil n0
  refine own_open (Q := own_Q22 jp0 jp1 jp2 jp3 h0 n0) (own_ef22 m jp0 jp1 jp2 jp3) ?_
  refine own_st (fun t k => XS.lloadN X0.here hx rfl (hb hby own_d22_0) rfl (XS.lload X0.here hx rfl (hb hby own_d22_1) rfl k)) ?_
  show own_Go _ _ _ _ s₁ (mkF m 3 #[.val (.long jp0), .second, .val (.long jp1), .second, .val (.long jp2), .second, .val (.long jp3), .second] [(.long jp2), (.long jp0)])
  refine own_st (fun t k => XS.lcmp X0.here hx rfl (hb hby own_d22_3) rfl k) ?_
  by_cases hc1 : (lcmpW jp0 jp2) < (0 : Int32)
  · skip
    refine own_st (fun t k => XS.ifYes X0.here hx rfl (pc0 := 4) (pc' := 21) rfl (hb hby own_d22_4) rfl ((if0 _ _).trans (tlt hc1).1) (by decide) (by decide) (XS.iconst X0.here hx rfl (hb hby own_d22_21) k)) ?_
    show own_Go _ _ _ _ s₁ (mkF m 22 #[.val (.long jp0), .second, .val (.long jp1), .second, .val (.long jp2), .second, .val (.long jp3), .second] [(.int (1 : Int32))])
    refine own_st (fun t k => XS.goto X0.here hx rfl (pc0 := 22) (pc' := 26) rfl (hb hby own_d22_22) (by decide) (by decide) k) ?_
    exact own_retZ X0 hx hlk (t := .boolean) hret (by simp) (hb hby own_d22_26) (by decide) (by decide) e0 ⟨N0, rfl, (Or.inl ⟨rfl, (by have o0 := (lw_lt _ _).mp hc1; simp only [own_lt, Int64.lt_iff_toInt_lt, ← Int64.toInt_inj] at o0 ⊢; omega), trivial⟩)⟩
  · skip
    refine own_st (fun t k => XS.ifNo X0.here hx rfl (hb hby own_d22_4) rfl ((if0 _ _).trans (flt hc1).1) (XS.lloadN X0.here hx rfl (hb hby own_d22_7) rfl k)) ?_
    show own_Go _ _ _ _ s₁ (mkF m 8 #[.val (.long jp0), .second, .val (.long jp1), .second, .val (.long jp2), .second, .val (.long jp3), .second] [(.long jp0)])
    refine own_st (fun t k => XS.lload X0.here hx rfl (hb hby own_d22_8) rfl (XS.lcmp X0.here hx rfl (hb hby own_d22_10) rfl k)) ?_
    by_cases hc2 : (lcmpW jp0 jp2) = (0 : Int32)
    · skip
      refine own_st (fun t k => XS.ifNo X0.here hx rfl (hb hby own_d22_11) rfl ((if0 _ _).trans (teq hc2).2) k) ?_
      show own_Go _ _ _ _ s₁ (mkF m 14 #[.val (.long jp0), .second, .val (.long jp1), .second, .val (.long jp2), .second, .val (.long jp3), .second] [])
      refine own_st (fun t k => XS.lloadN X0.here hx rfl (hb hby own_d22_14) rfl (XS.lload X0.here hx rfl (hb hby own_d22_15) rfl (XS.lcmp X0.here hx rfl (hb hby own_d22_17) rfl k))) ?_
      show own_Go _ _ _ _ s₁ (mkF m 18 #[.val (.long jp0), .second, .val (.long jp1), .second, .val (.long jp2), .second, .val (.long jp3), .second] [(.int (lcmpW jp1 jp3))])
      by_cases hc3 : (lcmpW jp1 jp3) < (0 : Int32)
      · skip
        refine own_st (fun t k => XS.ifNo X0.here hx rfl (hb hby own_d22_18) rfl ((if0 _ _).trans (tlt hc3).2.1) (XS.iconst X0.here hx rfl (hb hby own_d22_21) (XS.goto X0.here hx rfl (pc0 := 22) (pc' := 26) rfl (hb hby own_d22_22) (by decide) (by decide) k))) ?_
        show own_Go _ _ _ _ s₁ (mkF m 26 #[.val (.long jp0), .second, .val (.long jp1), .second, .val (.long jp2), .second, .val (.long jp3), .second] [(.int (1 : Int32))])
        exact own_retZ X0 hx hlk (t := .boolean) hret (by simp) (hb hby own_d22_26) (by decide) (by decide) e0 ⟨N0, rfl, (Or.inl ⟨rfl, (by have o0 := mt (lw_lt _ _).mpr hc1; have o1 := (lw_eq _ _).mp hc2; have o2 := (lw_lt _ _).mp hc3; simp only [own_lt, Int64.lt_iff_toInt_lt, ← Int64.toInt_inj] at o0 o1 o2 ⊢; omega), trivial⟩)⟩
      · skip
        refine own_st (fun t k => XS.ifYes X0.here hx rfl (pc0 := 18) (pc' := 25) rfl (hb hby own_d22_18) rfl ((if0 _ _).trans (flt hc3).2.1) (by decide) (by decide) (XS.iconst X0.here hx rfl (hb hby own_d22_25) k)) ?_
        exact own_retZ X0 hx hlk (t := .boolean) hret (by simp) (hb hby own_d22_26) (by decide) (by decide) e0 ⟨N0, rfl, (Or.inr ⟨rfl, (by have o0 := mt (lw_lt _ _).mpr hc1; have o1 := (lw_eq _ _).mp hc2; have o2 := mt (lw_lt _ _).mpr hc3; simp only [own_lt, Int64.lt_iff_toInt_lt, ← Int64.toInt_inj] at o0 o1 o2 ⊢; omega), trivial⟩)⟩
    · skip
      refine own_st (fun t k => XS.ifYes X0.here hx rfl (pc0 := 11) (pc' := 25) rfl (hb hby own_d22_11) rfl ((if0 _ _).trans (feq hc2).2) (by decide) (by decide) k) ?_
      show own_Go _ _ _ _ s₁ (mkF m 25 #[.val (.long jp0), .second, .val (.long jp1), .second, .val (.long jp2), .second, .val (.long jp3), .second] [])
      refine own_st (fun t k => XS.iconst X0.here hx rfl (hb hby own_d22_25) k) ?_
      exact own_retZ X0 hx hlk (t := .boolean) hret (by simp) (hb hby own_d22_26) (by decide) (by decide) e0 ⟨N0, rfl, (Or.inr ⟨rfl, (by have o0 := mt (lw_lt _ _).mpr hc1; have o1 := mt (lw_eq _ _).mpr hc2; simp only [own_lt, Int64.lt_iff_toInt_lt, ← Int64.toInt_inj] at o0 o1 ⊢; omega), trivial⟩)⟩
theorem own_pd16 : parseMethodDescriptor "(JJJJ)Z" = some ⟨[.long, .long, .long, .long], some .boolean⟩ := by decide +kernel
def own_Q10_125 (Z : State) (b2x4_14c5034 : Addr) (b5022 : Addr) (b2x5_18c4c5034 : Addr) (k2x5_18c4c5034c2c5070c2c5144 : ClassId) (b5002 : Addr) (b5012 : Addr) (jp2 : Int64) (d2 : Int64) (jp1 : Int64) (d1 : Int64) (jp0 : Int64) (d0 : Int64) (h0 : Heap) (n0 : Nat) (v : Option Value) (h : Heap) (L : List Loc) : Prop := Fr n0 L ∧ Keep h0 h [] ∧ ((v = some (.int (((((0 : Int32) + (((0 : Int32) + (1 : Int32)) + (1 : Int32))).toUInt32 >>> ((1 : Int32) &&& 31).toUInt32).toInt32) + (1 : Int32))) ∧ (own_lt jp1 d1 jp2 d2) ∧ True) ∨ (v = some (.int (((((0 : Int32) + ((((0 : Int32) + (((0 : Int32) + (1 : Int32)) + (1 : Int32))).toUInt32 >>> ((1 : Int32) &&& 31).toUInt32).toInt32)).toUInt32 >>> ((1 : Int32) &&& 31).toUInt32).toInt32) + (1 : Int32))) ∧ (¬ (own_lt jp1 d1 jp2 d2)) ∧ (own_lt jp0 d0 jp2 d2) ∧ True) ∨ (v = some (.int (0 : Int32)) ∧ (¬ (own_lt jp1 d1 jp2 d2)) ∧ (¬ (own_lt jp0 d0 jp2 d2)) ∧ True))
set_option maxRecDepth 65536 in
set_option maxHeartbeats 40000000 in
theorem own_rm10_125 (l : Launch) (Z : State) (a0 : Array Value) (hw : ∀ d ∈ tables_1, d.before a0 Z = true) (ws : List Jvm.Cond) (b2x4_14c5034 : Addr) (b5022 : Addr) (b2x5_18c4c5034 : Addr) (k2x5_18c4c5034c2c5070c2c5144 : ClassId) (b5002 : Addr) (b5012 : Addr) (jp2 : Int64) (d2 : Int64) (jp1 : Int64) (d1 : Int64) (jp0 : Int64) (d0 : Int64) (h0 : Heap) (n0 : Nat) (Z0 : n0 ≤ h0.size) (P0 : Fld Z h0 b2x4_14c5034 own_s0 "count" "I" (.int (((0 : Int32) + (1 : Int32)) + (1 : Int32)))) (P1 : Fld Z h0 b2x4_14c5034 own_s4 "items" own_s7 (.ref b2x5_18c4c5034)) (P2 : Arv Z h0 b2x5_18c4c5034 k2x5_18c4c5034c2c5070c2c5144 (.object own_s1) (64 : Int32) [(.ref b5002), (.ref b5012)] .null) (OFc5144_0_0 : Ovr Z k2x5_18c4c5034c2c5070c2c5144 own_s1) (P4 : Fld Z h0 b5022 own_s1 "priority" "J" (.long jp2)) (P5 : Exa Z h0 b5022 own_s1) (P6 : Fld Z h0 b5022 own_s1 "id" "J" (.long d2)) (P7 : Fld Z h0 b5012 own_s1 "priority" "J" (.long jp1)) (P8 : Fld Z h0 b5012 own_s1 "id" "J" (.long d1)) (P9 : Exa Z h0 b5012 own_s1) (P10 : Fld Z h0 b5002 own_s1 "priority" "J" (.long jp0)) (P11 : Fld Z h0 b5002 own_s1 "id" "J" (.long d0)) (P12 : Exa Z h0 b5002 own_s1) :
    MetFree l own_y2 (head1 (Jvm.Cond.code own_y2 prog_4_method_9_code 5 (some .int) :: ws) ({ frames := 2, cells := 0, slots := 0, locals := 28 } : Room)) (fun a U => a = #[(.ref b2x4_14c5034), (.ref b5022)] ∧ Z.Warmed39 U.vm ∧ U.heap = h0) (fun _ _ _ _ _ => True) (fun _ U o U' => ∃ v L, o = .returned v ∧ own_Q10_125 Z b2x4_14c5034 b5022 b2x5_18c4c5034 k2x5_18c4c5034c2c5070c2c5144 b5002 b5012 jp2 d2 jp1 d1 jp0 d0 h0 n0 v U'.heap L ∧ FrameEnd U o U' L ({ frames := 2, cells := 0, slots := 0, locals := 28 } : Room).cells ({ frames := 2, cells := 0, slots := 0, locals := 28 } : Room).slots) := by
  refine MetFree.of_bodySF (plainFor_of_name own_pn2) hisR ?_
  intro p e s m args below meth c s₁ Bd hml0 hP hK
  obtain ⟨rfl, hZ, hh⟩ := hP
  have hx := Bd.exec
  have hlk := Bd.notSynchronized
  have hret := Bd.returns
  have hby := Bd.bytes
  have hml : c.maxLocals = 5 := hml0
  have hown : s.vm.findClass own_s4 = some m.cls := findClass_of_methodNamed Bd.named
  have hnm := (name_of_methodNamed Bd.named Bd.method).1
  have X0 : Stand p l e ({ frames := 2, cells := 0, slots := 0, locals := 28 } : Room) s m #[(.ref b2x4_14c5034), (.ref b5022)] below meth c s₁ [] 0 0 := Stand.of_body Bd
  have e0 : s₁.heap = h0 := by rw [← hh, Bd.state]; rfl
  have N0 := Fr.nil n0
  refine own_open (Q := own_Q10_125 Z b2x4_14c5034 b5022 b2x5_18c4c5034 k2x5_18c4c5034c2c5070c2c5144 b5002 b5012 jp2 d2 jp1 d1 jp0 d0 h0 n0) (own_ef10 m b2x4_14c5034 b5022) ?_
  refine own_st (fun t k => XS.iconst X0.here hx rfl (hb hby own_d10_0) (XS.istoreN X0.here hx rfl (hb hby own_d10_1) rfl (l' := #[.val (.ref b2x4_14c5034), .val (.ref b5022), .val (.int (0 : Int32)), .unset, .unset]) rfl k)) ?_
  show own_Go _ _ _ _ s₁ (mkF m 2 #[.val (.ref b2x4_14c5034), .val (.ref b5022), .val (.int (0 : Int32)), .unset, .unset] [])
  refine own_st (fun t k => XS.aloadN X0.here hx rfl (hb hby own_d10_2) rfl rfl k) ?_
  refine own_gF X0 hx hZ hown (own_w hw 78 rfl) (Via.of (own_w hw 79 rfl)) e0 P0 (hb hby own_d10_3) rfl rfl fun T1 X1 e1 => ?_
  refine own_st (fun t k => XS.istoreN X1.here hx rfl (hb hby own_d10_6) rfl (l' := #[.val (.ref b2x4_14c5034), .val (.ref b5022), .val (.int (0 : Int32)), .val (.int (((0 : Int32) + (1 : Int32)) + (1 : Int32))), .unset]) rfl k) ?_
  show own_Go _ _ _ _ T1 (mkF m 7 #[.val (.ref b2x4_14c5034), .val (.ref b5022), .val (.int (0 : Int32)), .val (.int (((0 : Int32) + (1 : Int32)) + (1 : Int32))), .unset] [])
  refine own_st (fun t k => XS.iloadN X1.here hx rfl (hb hby own_d10_7) rfl (XS.iloadN X1.here hx rfl (hb hby own_d10_8) rfl (XS.icmpNo X1.here hx rfl (hb hby own_d10_9) rfl (tlt (by decide : (0 : Int32) < (((0 : Int32) + (1 : Int32)) + (1 : Int32)))).2.1 k))) ?_
  show own_Go _ _ _ _ T1 (mkF m 12 #[.val (.ref b2x4_14c5034), .val (.ref b5022), .val (.int (0 : Int32)), .val (.int (((0 : Int32) + (1 : Int32)) + (1 : Int32))), .unset] [])
  refine own_st (fun t k => XS.iloadN X1.here hx rfl (hb hby own_d10_12) rfl (XS.iloadN X1.here hx rfl (hb hby own_d10_13) rfl (XS.iadd X1.here hx rfl (hb hby own_d10_14) rfl k))) ?_
  show own_Go _ _ _ _ T1 (mkF m 15 #[.val (.ref b2x4_14c5034), .val (.ref b5022), .val (.int (0 : Int32)), .val (.int (((0 : Int32) + (1 : Int32)) + (1 : Int32))), .unset] [(.int ((0 : Int32) + (((0 : Int32) + (1 : Int32)) + (1 : Int32))))])
  refine own_st (fun t k => XS.iconst X1.here hx rfl (hb hby own_d10_15) (XS.iushr X1.here hx rfl (hb hby own_d10_16) rfl (XS.istore X1.here hx rfl (hb hby own_d10_17) rfl (l' := #[.val (.ref b2x4_14c5034), .val (.ref b5022), .val (.int (0 : Int32)), .val (.int (((0 : Int32) + (1 : Int32)) + (1 : Int32))), .val (.int ((((0 : Int32) + (((0 : Int32) + (1 : Int32)) + (1 : Int32))).toUInt32 >>> ((1 : Int32) &&& 31).toUInt32).toInt32))]) rfl k))) ?_
  show own_Go _ _ _ _ T1 (mkF m 19 #[.val (.ref b2x4_14c5034), .val (.ref b5022), .val (.int (0 : Int32)), .val (.int (((0 : Int32) + (1 : Int32)) + (1 : Int32))), .val (.int ((((0 : Int32) + (((0 : Int32) + (1 : Int32)) + (1 : Int32))).toUInt32 >>> ((1 : Int32) &&& 31).toUInt32).toInt32))] [])
  refine own_st (fun t k => XS.aloadN X1.here hx rfl (hb hby own_d10_19) rfl rfl k) ?_
  refine own_gF X1 hx hZ hown (own_w hw 53 rfl) Via.refl e1 P1 (hb hby own_d10_20) rfl rfl fun T2 X2 e2 => ?_
  refine own_st (fun t k => XS.iload X2.here hx rfl (hb hby own_d10_23) rfl k) ?_
  show own_Go _ _ _ _ T2 (mkF m 25 #[.val (.ref b2x4_14c5034), .val (.ref b5022), .val (.int (0 : Int32)), .val (.int (((0 : Int32) + (1 : Int32)) + (1 : Int32))), .val (.int ((((0 : Int32) + (((0 : Int32) + (1 : Int32)) + (1 : Int32))).toUInt32 >>> ((1 : Int32) &&& 31).toUInt32).toInt32))] [(.int ((((0 : Int32) + (((0 : Int32) + (1 : Int32)) + (1 : Int32))).toUInt32 >>> ((1 : Int32) &&& 31).toUInt32).toInt32)), (.ref b2x5_18c4c5034)])
  refine own_st (own_aaload X2 hx hZ e2 P2 rfl (j := ((((0 : Int32) + (((0 : Int32) + (1 : Int32)) + (1 : Int32))).toUInt32 >>> ((1 : Int32) &&& 31).toUInt32).toInt32)) (v := (.ref b5012)) ⟨by decide, by decide⟩ rfl (g := (mkF m 25 #[.val (.ref b2x4_14c5034), .val (.ref b5022), .val (.int (0 : Int32)), .val (.int (((0 : Int32) + (1 : Int32)) + (1 : Int32))), .val (.int ((((0 : Int32) + (((0 : Int32) + (1 : Int32)) + (1 : Int32))).toUInt32 >>> ((1 : Int32) &&& 31).toUInt32).toInt32))] [(.int ((((0 : Int32) + (((0 : Int32) + (1 : Int32)) + (1 : Int32))).toUInt32 >>> ((1 : Int32) &&& 31).toUInt32).toInt32)), (.ref b2x5_18c4c5034)])) rfl rfl (hb hby own_d10_25)) ?_
  refine own_st (fun t k => XS.aloadN X2.here hx rfl (hb hby own_d10_26) rfl rfl k) ?_
  refine own_cV (a := b5022) X2 hx hZ hown (own_w hw 128 rfl) (own_w hw 129 rfl) (own_w hw 131 rfl) (own_w hw 130 rfl) (own_w hw 6 rfl) (own_w hw 132 rfl) [] [(.ref b5012)] P5 (own_rm18 l Z a0 hw [] b5022 jp2 h0 n0 Z0 P4) 1 (hb hby own_d10_27) (by rw [hml]; rfl) (lenOf own_pd13 rfl) e2 rfl rfl (by show 2 * 0 + _ ≤ _; exact Nat.le_of_eq rfl) (by decide) (by decide) (by decide) (by decide) (by decide) fun v3 T3 L3 X3 hQ3 => ?_
  obtain ⟨N3q, e3, hL3⟩ := hQ3
  have N3 := Fr.app N0 N3q
  rcases hL3 with ⟨rfl, -⟩
  · skip
    show own_Go _ _ _ _ T3 (mkF m 30 #[.val (.ref b2x4_14c5034), .val (.ref b5022), .val (.int (0 : Int32)), .val (.int (((0 : Int32) + (1 : Int32)) + (1 : Int32))), .val (.int ((((0 : Int32) + (((0 : Int32) + (1 : Int32)) + (1 : Int32))).toUInt32 >>> ((1 : Int32) &&& 31).toUInt32).toInt32))] [(.long jp2), (.ref b5012)])
    refine own_st (fun t k => XS.aloadN X3.here hx rfl (hb hby own_d10_30) rfl rfl k) ?_
    refine own_cV (a := b5022) X3 hx hZ hown (own_w hw 133 rfl) (own_w hw 134 rfl) (own_w hw 136 rfl) (own_w hw 135 rfl) (own_w hw 6 rfl) (own_w hw 137 rfl) [] [(.long jp2), (.ref b5012)] P5 (own_rm19 l Z a0 hw [] b5022 d2 h0 n0 Z0 P6) 3 (hb hby own_d10_31) (by rw [hml]; rfl) (lenOf own_pd13 rfl) e3 rfl rfl (by show 2 * 0 + _ ≤ _; exact Nat.le_of_eq rfl) (by decide) (by decide) (by decide) (by decide) (by decide) fun v4 T4 L4 X4 hQ4 => ?_
    obtain ⟨N4q, e4, hL4⟩ := hQ4
    have N4 := Fr.app N3 N4q
    rcases hL4 with ⟨rfl, -⟩
    · skip
      obtain ⟨_, _, ⟨T5, L5, k5, n5⟩, -, X5, ⟨Lc5, hQ5, l5, y5, z5⟩, st5⟩ := own_callSN X4 hx (y := own_y4) hown (own_mvLN hZ (own_w hw 138 rfl)) (mvT hZ (own_w hw 139 rfl)) (mvT hZ (own_w hw 30 rfl)) (mvT hZ (own_w hw 140 rfl)) (by decide) (backOf (W := 0) (own_rm20 l Z a0 hw [] b5012 jp2 d2 jp1 d1 h0 n0 Z0 P7 P9 P8) hZ (own_w hw 140 rfl) (own_w hw 30 rfl) (by decide) (by decide)) (g := (mkF m 34 #[.val (.ref b2x4_14c5034), .val (.ref b5022), .val (.int (0 : Int32)), .val (.int (((0 : Int32) + (1 : Int32)) + (1 : Int32))), .val (.int ((((0 : Int32) + (((0 : Int32) + (1 : Int32)) + (1 : Int32))).toUInt32 >>> ((1 : Int32) &&& 31).toUInt32).toInt32))] [(.long d2), (.long jp2), (.ref b5012)])) rfl (by rw [hml]; rfl) (argsL := [(.ref b5012), (.long jp2), (.long d2)]) (rest := []) (lenOf own_pd14 rfl) rfl (by show 2 * 0 + _ ≤ _; exact Nat.le_of_eq rfl) (hb hby own_d10_34) (fun _ _ => ⟨rfl, e4, (by decide : 0 + 0 ≤ _), (by decide : 0 + 0 ≤ _)⟩)
      dsimp only [Pt.U, Pt.locs, Pt.cells, Pt.slots] at X5 l5 y5 z5 st5 hQ5
      subst l5 y5 z5
      obtain ⟨N5q, e5, hL5⟩ := hQ5
      have N5 := Fr.app N4 N5q
      rcases hL5 with ⟨rfl, hq5_0_0, -⟩ | ⟨rfl, hq5_1_0, -⟩
      · skip
        refine own_st st5 ?_
        show own_Go _ _ _ _ T5 (mkF m 37 #[.val (.ref b2x4_14c5034), .val (.ref b5022), .val (.int (0 : Int32)), .val (.int (((0 : Int32) + (1 : Int32)) + (1 : Int32))), .val (.int ((((0 : Int32) + (((0 : Int32) + (1 : Int32)) + (1 : Int32))).toUInt32 >>> ((1 : Int32) &&& 31).toUInt32).toInt32))] [(.int (1 : Int32))])
        refine own_st (fun t k => XS.ifNo X5.here hx rfl (hb hby own_d10_37) rfl ((if0 _ _).trans (feq (by decide : ¬ ((1 : Int32) = (0 : Int32)))).1) (XS.iload X5.here hx rfl (hb hby own_d10_40) rfl (XS.iconst X5.here hx rfl (hb hby own_d10_42) k))) ?_
        show own_Go _ _ _ _ T5 (mkF m 43 #[.val (.ref b2x4_14c5034), .val (.ref b5022), .val (.int (0 : Int32)), .val (.int (((0 : Int32) + (1 : Int32)) + (1 : Int32))), .val (.int ((((0 : Int32) + (((0 : Int32) + (1 : Int32)) + (1 : Int32))).toUInt32 >>> ((1 : Int32) &&& 31).toUInt32).toInt32))] [(.int (1 : Int32)), (.int ((((0 : Int32) + (((0 : Int32) + (1 : Int32)) + (1 : Int32))).toUInt32 >>> ((1 : Int32) &&& 31).toUInt32).toInt32))])
        refine own_st (fun t k => XS.iadd X5.here hx rfl (hb hby own_d10_43) rfl (XS.istoreN X5.here hx rfl (hb hby own_d10_44) rfl (l' := #[.val (.ref b2x4_14c5034), .val (.ref b5022), .val (.int (((((0 : Int32) + (((0 : Int32) + (1 : Int32)) + (1 : Int32))).toUInt32 >>> ((1 : Int32) &&& 31).toUInt32).toInt32) + (1 : Int32))), .val (.int (((0 : Int32) + (1 : Int32)) + (1 : Int32))), .val (.int ((((0 : Int32) + (((0 : Int32) + (1 : Int32)) + (1 : Int32))).toUInt32 >>> ((1 : Int32) &&& 31).toUInt32).toInt32))]) rfl (XS.goto X5.here hx rfl (pc0 := 45) (pc' := 51) rfl (hb hby own_d10_45) (by decide) (by decide) k))) ?_
        show own_Go _ _ _ _ T5 (mkF m 51 #[.val (.ref b2x4_14c5034), .val (.ref b5022), .val (.int (((((0 : Int32) + (((0 : Int32) + (1 : Int32)) + (1 : Int32))).toUInt32 >>> ((1 : Int32) &&& 31).toUInt32).toInt32) + (1 : Int32))), .val (.int (((0 : Int32) + (1 : Int32)) + (1 : Int32))), .val (.int ((((0 : Int32) + (((0 : Int32) + (1 : Int32)) + (1 : Int32))).toUInt32 >>> ((1 : Int32) &&& 31).toUInt32).toInt32))] [])
        refine own_st (fun t k => XS.goto X5.here hx rfl (pc0 := 51) (pc' := 7) rfl (hb hby own_d10_51) (by decide) (by decide) (XS.iloadN X5.here hx rfl (hb hby own_d10_7) rfl (XS.iloadN X5.here hx rfl (hb hby own_d10_8) rfl k))) ?_
        show own_Go _ _ _ _ T5 (mkF m 9 #[.val (.ref b2x4_14c5034), .val (.ref b5022), .val (.int (((((0 : Int32) + (((0 : Int32) + (1 : Int32)) + (1 : Int32))).toUInt32 >>> ((1 : Int32) &&& 31).toUInt32).toInt32) + (1 : Int32))), .val (.int (((0 : Int32) + (1 : Int32)) + (1 : Int32))), .val (.int ((((0 : Int32) + (((0 : Int32) + (1 : Int32)) + (1 : Int32))).toUInt32 >>> ((1 : Int32) &&& 31).toUInt32).toInt32))] [(.int (((0 : Int32) + (1 : Int32)) + (1 : Int32))), (.int (((((0 : Int32) + (((0 : Int32) + (1 : Int32)) + (1 : Int32))).toUInt32 >>> ((1 : Int32) &&& 31).toUInt32).toInt32) + (1 : Int32)))])
        refine own_st (fun t k => XS.icmpYes X5.here hx rfl (pc0 := 9) (pc' := 54) rfl (hb hby own_d10_9) rfl (flt (by decide : ¬ ((((((0 : Int32) + (((0 : Int32) + (1 : Int32)) + (1 : Int32))).toUInt32 >>> ((1 : Int32) &&& 31).toUInt32).toInt32) + (1 : Int32)) < (((0 : Int32) + (1 : Int32)) + (1 : Int32))))).2.1 (by decide) (by decide) (XS.iloadN X5.here hx rfl (hb hby own_d10_54) rfl k)) ?_
        exact own_retI X5 hx hlk hret (hb hby own_d10_55) (by decide) (by decide) e5 ⟨N5, (Keep.refl h0 []), (Or.inl ⟨rfl, hq5_0_0, trivial⟩)⟩
      · skip
        refine own_st st5 ?_
        show own_Go _ _ _ _ T5 (mkF m 37 #[.val (.ref b2x4_14c5034), .val (.ref b5022), .val (.int (0 : Int32)), .val (.int (((0 : Int32) + (1 : Int32)) + (1 : Int32))), .val (.int ((((0 : Int32) + (((0 : Int32) + (1 : Int32)) + (1 : Int32))).toUInt32 >>> ((1 : Int32) &&& 31).toUInt32).toInt32))] [(.int (0 : Int32))])
        refine own_st (fun t k => XS.ifYes X5.here hx rfl (pc0 := 37) (pc' := 48) rfl (hb hby own_d10_37) rfl ((if0 _ _).trans (teq (by decide : (0 : Int32) = (0 : Int32))).1) (by decide) (by decide) (XS.iload X5.here hx rfl (hb hby own_d10_48) rfl (XS.istoreN X5.here hx rfl (hb hby own_d10_50) rfl (l' := #[.val (.ref b2x4_14c5034), .val (.ref b5022), .val (.int (0 : Int32)), .val (.int ((((0 : Int32) + (((0 : Int32) + (1 : Int32)) + (1 : Int32))).toUInt32 >>> ((1 : Int32) &&& 31).toUInt32).toInt32)), .val (.int ((((0 : Int32) + (((0 : Int32) + (1 : Int32)) + (1 : Int32))).toUInt32 >>> ((1 : Int32) &&& 31).toUInt32).toInt32))]) rfl k))) ?_
        show own_Go _ _ _ _ T5 (mkF m 51 #[.val (.ref b2x4_14c5034), .val (.ref b5022), .val (.int (0 : Int32)), .val (.int ((((0 : Int32) + (((0 : Int32) + (1 : Int32)) + (1 : Int32))).toUInt32 >>> ((1 : Int32) &&& 31).toUInt32).toInt32)), .val (.int ((((0 : Int32) + (((0 : Int32) + (1 : Int32)) + (1 : Int32))).toUInt32 >>> ((1 : Int32) &&& 31).toUInt32).toInt32))] [])
        refine own_st (fun t k => XS.goto X5.here hx rfl (pc0 := 51) (pc' := 7) rfl (hb hby own_d10_51) (by decide) (by decide) (XS.iloadN X5.here hx rfl (hb hby own_d10_7) rfl (XS.iloadN X5.here hx rfl (hb hby own_d10_8) rfl k))) ?_
        show own_Go _ _ _ _ T5 (mkF m 9 #[.val (.ref b2x4_14c5034), .val (.ref b5022), .val (.int (0 : Int32)), .val (.int ((((0 : Int32) + (((0 : Int32) + (1 : Int32)) + (1 : Int32))).toUInt32 >>> ((1 : Int32) &&& 31).toUInt32).toInt32)), .val (.int ((((0 : Int32) + (((0 : Int32) + (1 : Int32)) + (1 : Int32))).toUInt32 >>> ((1 : Int32) &&& 31).toUInt32).toInt32))] [(.int ((((0 : Int32) + (((0 : Int32) + (1 : Int32)) + (1 : Int32))).toUInt32 >>> ((1 : Int32) &&& 31).toUInt32).toInt32)), (.int (0 : Int32))])
        refine own_st (fun t k => XS.icmpNo X5.here hx rfl (hb hby own_d10_9) rfl (tlt (by decide : (0 : Int32) < ((((0 : Int32) + (((0 : Int32) + (1 : Int32)) + (1 : Int32))).toUInt32 >>> ((1 : Int32) &&& 31).toUInt32).toInt32))).2.1 (XS.iloadN X5.here hx rfl (hb hby own_d10_12) rfl (XS.iloadN X5.here hx rfl (hb hby own_d10_13) rfl k))) ?_
        show own_Go _ _ _ _ T5 (mkF m 14 #[.val (.ref b2x4_14c5034), .val (.ref b5022), .val (.int (0 : Int32)), .val (.int ((((0 : Int32) + (((0 : Int32) + (1 : Int32)) + (1 : Int32))).toUInt32 >>> ((1 : Int32) &&& 31).toUInt32).toInt32)), .val (.int ((((0 : Int32) + (((0 : Int32) + (1 : Int32)) + (1 : Int32))).toUInt32 >>> ((1 : Int32) &&& 31).toUInt32).toInt32))] [(.int ((((0 : Int32) + (((0 : Int32) + (1 : Int32)) + (1 : Int32))).toUInt32 >>> ((1 : Int32) &&& 31).toUInt32).toInt32)), (.int (0 : Int32))])
        refine own_st (fun t k => XS.iadd X5.here hx rfl (hb hby own_d10_14) rfl (XS.iconst X5.here hx rfl (hb hby own_d10_15) (XS.iushr X5.here hx rfl (hb hby own_d10_16) rfl k))) ?_
        show own_Go _ _ _ _ T5 (mkF m 17 #[.val (.ref b2x4_14c5034), .val (.ref b5022), .val (.int (0 : Int32)), .val (.int ((((0 : Int32) + (((0 : Int32) + (1 : Int32)) + (1 : Int32))).toUInt32 >>> ((1 : Int32) &&& 31).toUInt32).toInt32)), .val (.int ((((0 : Int32) + (((0 : Int32) + (1 : Int32)) + (1 : Int32))).toUInt32 >>> ((1 : Int32) &&& 31).toUInt32).toInt32))] [(.int ((((0 : Int32) + ((((0 : Int32) + (((0 : Int32) + (1 : Int32)) + (1 : Int32))).toUInt32 >>> ((1 : Int32) &&& 31).toUInt32).toInt32)).toUInt32 >>> ((1 : Int32) &&& 31).toUInt32).toInt32))])
        refine own_st (fun t k => XS.istore X5.here hx rfl (hb hby own_d10_17) rfl (l' := #[.val (.ref b2x4_14c5034), .val (.ref b5022), .val (.int (0 : Int32)), .val (.int ((((0 : Int32) + (((0 : Int32) + (1 : Int32)) + (1 : Int32))).toUInt32 >>> ((1 : Int32) &&& 31).toUInt32).toInt32)), .val (.int ((((0 : Int32) + ((((0 : Int32) + (((0 : Int32) + (1 : Int32)) + (1 : Int32))).toUInt32 >>> ((1 : Int32) &&& 31).toUInt32).toInt32)).toUInt32 >>> ((1 : Int32) &&& 31).toUInt32).toInt32))]) rfl (XS.aloadN X5.here hx rfl (hb hby own_d10_19) rfl rfl k)) ?_
        refine own_gF X5 hx hZ hown (own_w hw 53 rfl) Via.refl e5 P1 (hb hby own_d10_20) rfl rfl fun T6 X6 e6 => ?_
        show own_Go _ _ _ _ T6 (mkF m 23 #[.val (.ref b2x4_14c5034), .val (.ref b5022), .val (.int (0 : Int32)), .val (.int ((((0 : Int32) + (((0 : Int32) + (1 : Int32)) + (1 : Int32))).toUInt32 >>> ((1 : Int32) &&& 31).toUInt32).toInt32)), .val (.int ((((0 : Int32) + ((((0 : Int32) + (((0 : Int32) + (1 : Int32)) + (1 : Int32))).toUInt32 >>> ((1 : Int32) &&& 31).toUInt32).toInt32)).toUInt32 >>> ((1 : Int32) &&& 31).toUInt32).toInt32))] [(.ref b2x5_18c4c5034)])
        refine own_st (fun t k => XS.iload X6.here hx rfl (hb hby own_d10_23) rfl k) ?_
        refine own_st (own_aaload X6 hx hZ e6 P2 rfl (j := ((((0 : Int32) + ((((0 : Int32) + (((0 : Int32) + (1 : Int32)) + (1 : Int32))).toUInt32 >>> ((1 : Int32) &&& 31).toUInt32).toInt32)).toUInt32 >>> ((1 : Int32) &&& 31).toUInt32).toInt32)) (v := (.ref b5002)) ⟨by decide, by decide⟩ rfl (g := (mkF m 25 #[.val (.ref b2x4_14c5034), .val (.ref b5022), .val (.int (0 : Int32)), .val (.int ((((0 : Int32) + (((0 : Int32) + (1 : Int32)) + (1 : Int32))).toUInt32 >>> ((1 : Int32) &&& 31).toUInt32).toInt32)), .val (.int ((((0 : Int32) + ((((0 : Int32) + (((0 : Int32) + (1 : Int32)) + (1 : Int32))).toUInt32 >>> ((1 : Int32) &&& 31).toUInt32).toInt32)).toUInt32 >>> ((1 : Int32) &&& 31).toUInt32).toInt32))] [(.int ((((0 : Int32) + ((((0 : Int32) + (((0 : Int32) + (1 : Int32)) + (1 : Int32))).toUInt32 >>> ((1 : Int32) &&& 31).toUInt32).toInt32)).toUInt32 >>> ((1 : Int32) &&& 31).toUInt32).toInt32)), (.ref b2x5_18c4c5034)])) rfl rfl (hb hby own_d10_25)) ?_
        refine own_st (fun t k => XS.aloadN X6.here hx rfl (hb hby own_d10_26) rfl rfl k) ?_
        show own_Go _ _ _ _ T6 (mkF m 27 #[.val (.ref b2x4_14c5034), .val (.ref b5022), .val (.int (0 : Int32)), .val (.int ((((0 : Int32) + (((0 : Int32) + (1 : Int32)) + (1 : Int32))).toUInt32 >>> ((1 : Int32) &&& 31).toUInt32).toInt32)), .val (.int ((((0 : Int32) + ((((0 : Int32) + (((0 : Int32) + (1 : Int32)) + (1 : Int32))).toUInt32 >>> ((1 : Int32) &&& 31).toUInt32).toInt32)).toUInt32 >>> ((1 : Int32) &&& 31).toUInt32).toInt32))] [(.ref b5022), (.ref b5002)])
        refine own_cV (a := b5022) X6 hx hZ hown (own_w hw 128 rfl) (own_w hw 129 rfl) (own_w hw 131 rfl) (own_w hw 130 rfl) (own_w hw 6 rfl) (own_w hw 132 rfl) [] [(.ref b5002)] P5 (own_rm18 l Z a0 hw [] b5022 jp2 h0 n0 Z0 P4) 1 (hb hby own_d10_27) (by rw [hml]; rfl) (lenOf own_pd13 rfl) e6 rfl rfl (by show 2 * 0 + _ ≤ _; exact Nat.le_of_eq rfl) (by decide) (by decide) (by decide) (by decide) (by decide) fun v7 T7 L7 X7 hQ7 => ?_
        obtain ⟨N7q, e7, hL7⟩ := hQ7
        have N7 := Fr.app N5 N7q
        rcases hL7 with ⟨rfl, -⟩
        · skip
          refine own_st (fun t k => XS.aloadN X7.here hx rfl (hb hby own_d10_30) rfl rfl k) ?_
          refine own_cV (a := b5022) X7 hx hZ hown (own_w hw 133 rfl) (own_w hw 134 rfl) (own_w hw 136 rfl) (own_w hw 135 rfl) (own_w hw 6 rfl) (own_w hw 137 rfl) [] [(.long jp2), (.ref b5002)] P5 (own_rm19 l Z a0 hw [] b5022 d2 h0 n0 Z0 P6) 3 (hb hby own_d10_31) (by rw [hml]; rfl) (lenOf own_pd13 rfl) e7 rfl rfl (by show 2 * 0 + _ ≤ _; exact Nat.le_of_eq rfl) (by decide) (by decide) (by decide) (by decide) (by decide) fun v8 T8 L8 X8 hQ8 => ?_
          obtain ⟨N8q, e8, hL8⟩ := hQ8
          have N8 := Fr.app N7 N8q
          rcases hL8 with ⟨rfl, -⟩
          · skip
            show own_Go _ _ _ _ T8 (mkF m 34 #[.val (.ref b2x4_14c5034), .val (.ref b5022), .val (.int (0 : Int32)), .val (.int ((((0 : Int32) + (((0 : Int32) + (1 : Int32)) + (1 : Int32))).toUInt32 >>> ((1 : Int32) &&& 31).toUInt32).toInt32)), .val (.int ((((0 : Int32) + ((((0 : Int32) + (((0 : Int32) + (1 : Int32)) + (1 : Int32))).toUInt32 >>> ((1 : Int32) &&& 31).toUInt32).toInt32)).toUInt32 >>> ((1 : Int32) &&& 31).toUInt32).toInt32))] [(.long d2), (.long jp2), (.ref b5002)])
            obtain ⟨_, _, ⟨T9, L9, k9, n9⟩, -, X9, ⟨Lc9, hQ9, l9, y9, z9⟩, st9⟩ := own_callSN X8 hx (y := own_y4) hown (own_mvLN hZ (own_w hw 138 rfl)) (mvT hZ (own_w hw 139 rfl)) (mvT hZ (own_w hw 30 rfl)) (mvT hZ (own_w hw 140 rfl)) (by decide) (backOf (W := 0) (own_rm20 l Z a0 hw [] b5002 jp2 d2 jp0 d0 h0 n0 Z0 P10 P12 P11) hZ (own_w hw 140 rfl) (own_w hw 30 rfl) (by decide) (by decide)) (g := (mkF m 34 #[.val (.ref b2x4_14c5034), .val (.ref b5022), .val (.int (0 : Int32)), .val (.int ((((0 : Int32) + (((0 : Int32) + (1 : Int32)) + (1 : Int32))).toUInt32 >>> ((1 : Int32) &&& 31).toUInt32).toInt32)), .val (.int ((((0 : Int32) + ((((0 : Int32) + (((0 : Int32) + (1 : Int32)) + (1 : Int32))).toUInt32 >>> ((1 : Int32) &&& 31).toUInt32).toInt32)).toUInt32 >>> ((1 : Int32) &&& 31).toUInt32).toInt32))] [(.long d2), (.long jp2), (.ref b5002)])) rfl (by rw [hml]; rfl) (argsL := [(.ref b5002), (.long jp2), (.long d2)]) (rest := []) (lenOf own_pd14 rfl) rfl (by show 2 * 0 + _ ≤ _; exact Nat.le_of_eq rfl) (hb hby own_d10_34) (fun _ _ => ⟨rfl, e8, (by decide : 0 + 0 ≤ _), (by decide : 0 + 0 ≤ _)⟩)
            dsimp only [Pt.U, Pt.locs, Pt.cells, Pt.slots] at X9 l9 y9 z9 st9 hQ9
            subst l9 y9 z9
            obtain ⟨N9q, e9, hL9⟩ := hQ9
            have N9 := Fr.app N8 N9q
            rcases hL9 with ⟨rfl, hq9_0_0, -⟩ | ⟨rfl, hq9_1_0, -⟩
            · skip
              refine own_st st9 ?_
              refine own_st (fun t k => XS.ifNo X9.here hx rfl (hb hby own_d10_37) rfl ((if0 _ _).trans (feq (by decide : ¬ ((1 : Int32) = (0 : Int32)))).1) (XS.iload X9.here hx rfl (hb hby own_d10_40) rfl k)) ?_
              show own_Go _ _ _ _ T9 (mkF m 42 #[.val (.ref b2x4_14c5034), .val (.ref b5022), .val (.int (0 : Int32)), .val (.int ((((0 : Int32) + (((0 : Int32) + (1 : Int32)) + (1 : Int32))).toUInt32 >>> ((1 : Int32) &&& 31).toUInt32).toInt32)), .val (.int ((((0 : Int32) + ((((0 : Int32) + (((0 : Int32) + (1 : Int32)) + (1 : Int32))).toUInt32 >>> ((1 : Int32) &&& 31).toUInt32).toInt32)).toUInt32 >>> ((1 : Int32) &&& 31).toUInt32).toInt32))] [(.int ((((0 : Int32) + ((((0 : Int32) + (((0 : Int32) + (1 : Int32)) + (1 : Int32))).toUInt32 >>> ((1 : Int32) &&& 31).toUInt32).toInt32)).toUInt32 >>> ((1 : Int32) &&& 31).toUInt32).toInt32))])
              refine own_st (fun t k => XS.iconst X9.here hx rfl (hb hby own_d10_42) (XS.iadd X9.here hx rfl (hb hby own_d10_43) rfl (XS.istoreN X9.here hx rfl (hb hby own_d10_44) rfl (l' := #[.val (.ref b2x4_14c5034), .val (.ref b5022), .val (.int (((((0 : Int32) + ((((0 : Int32) + (((0 : Int32) + (1 : Int32)) + (1 : Int32))).toUInt32 >>> ((1 : Int32) &&& 31).toUInt32).toInt32)).toUInt32 >>> ((1 : Int32) &&& 31).toUInt32).toInt32) + (1 : Int32))), .val (.int ((((0 : Int32) + (((0 : Int32) + (1 : Int32)) + (1 : Int32))).toUInt32 >>> ((1 : Int32) &&& 31).toUInt32).toInt32)), .val (.int ((((0 : Int32) + ((((0 : Int32) + (((0 : Int32) + (1 : Int32)) + (1 : Int32))).toUInt32 >>> ((1 : Int32) &&& 31).toUInt32).toInt32)).toUInt32 >>> ((1 : Int32) &&& 31).toUInt32).toInt32))]) rfl k))) ?_
              show own_Go _ _ _ _ T9 (mkF m 45 #[.val (.ref b2x4_14c5034), .val (.ref b5022), .val (.int (((((0 : Int32) + ((((0 : Int32) + (((0 : Int32) + (1 : Int32)) + (1 : Int32))).toUInt32 >>> ((1 : Int32) &&& 31).toUInt32).toInt32)).toUInt32 >>> ((1 : Int32) &&& 31).toUInt32).toInt32) + (1 : Int32))), .val (.int ((((0 : Int32) + (((0 : Int32) + (1 : Int32)) + (1 : Int32))).toUInt32 >>> ((1 : Int32) &&& 31).toUInt32).toInt32)), .val (.int ((((0 : Int32) + ((((0 : Int32) + (((0 : Int32) + (1 : Int32)) + (1 : Int32))).toUInt32 >>> ((1 : Int32) &&& 31).toUInt32).toInt32)).toUInt32 >>> ((1 : Int32) &&& 31).toUInt32).toInt32))] [])
              refine own_st (fun t k => XS.goto X9.here hx rfl (pc0 := 45) (pc' := 51) rfl (hb hby own_d10_45) (by decide) (by decide) (XS.goto X9.here hx rfl (pc0 := 51) (pc' := 7) rfl (hb hby own_d10_51) (by decide) (by decide) (XS.iloadN X9.here hx rfl (hb hby own_d10_7) rfl k))) ?_
              show own_Go _ _ _ _ T9 (mkF m 8 #[.val (.ref b2x4_14c5034), .val (.ref b5022), .val (.int (((((0 : Int32) + ((((0 : Int32) + (((0 : Int32) + (1 : Int32)) + (1 : Int32))).toUInt32 >>> ((1 : Int32) &&& 31).toUInt32).toInt32)).toUInt32 >>> ((1 : Int32) &&& 31).toUInt32).toInt32) + (1 : Int32))), .val (.int ((((0 : Int32) + (((0 : Int32) + (1 : Int32)) + (1 : Int32))).toUInt32 >>> ((1 : Int32) &&& 31).toUInt32).toInt32)), .val (.int ((((0 : Int32) + ((((0 : Int32) + (((0 : Int32) + (1 : Int32)) + (1 : Int32))).toUInt32 >>> ((1 : Int32) &&& 31).toUInt32).toInt32)).toUInt32 >>> ((1 : Int32) &&& 31).toUInt32).toInt32))] [(.int (((((0 : Int32) + ((((0 : Int32) + (((0 : Int32) + (1 : Int32)) + (1 : Int32))).toUInt32 >>> ((1 : Int32) &&& 31).toUInt32).toInt32)).toUInt32 >>> ((1 : Int32) &&& 31).toUInt32).toInt32) + (1 : Int32)))])
              refine own_st (fun t k => XS.iloadN X9.here hx rfl (hb hby own_d10_8) rfl (XS.icmpYes X9.here hx rfl (pc0 := 9) (pc' := 54) rfl (hb hby own_d10_9) rfl (flt (by decide : ¬ ((((((0 : Int32) + ((((0 : Int32) + (((0 : Int32) + (1 : Int32)) + (1 : Int32))).toUInt32 >>> ((1 : Int32) &&& 31).toUInt32).toInt32)).toUInt32 >>> ((1 : Int32) &&& 31).toUInt32).toInt32) + (1 : Int32)) < ((((0 : Int32) + (((0 : Int32) + (1 : Int32)) + (1 : Int32))).toUInt32 >>> ((1 : Int32) &&& 31).toUInt32).toInt32)))).2.1 (by decide) (by decide) (XS.iloadN X9.here hx rfl (hb hby own_d10_54) rfl k))) ?_
              show own_Go _ _ _ _ T9 (mkF m 55 #[.val (.ref b2x4_14c5034), .val (.ref b5022), .val (.int (((((0 : Int32) + ((((0 : Int32) + (((0 : Int32) + (1 : Int32)) + (1 : Int32))).toUInt32 >>> ((1 : Int32) &&& 31).toUInt32).toInt32)).toUInt32 >>> ((1 : Int32) &&& 31).toUInt32).toInt32) + (1 : Int32))), .val (.int ((((0 : Int32) + (((0 : Int32) + (1 : Int32)) + (1 : Int32))).toUInt32 >>> ((1 : Int32) &&& 31).toUInt32).toInt32)), .val (.int ((((0 : Int32) + ((((0 : Int32) + (((0 : Int32) + (1 : Int32)) + (1 : Int32))).toUInt32 >>> ((1 : Int32) &&& 31).toUInt32).toInt32)).toUInt32 >>> ((1 : Int32) &&& 31).toUInt32).toInt32))] [(.int (((((0 : Int32) + ((((0 : Int32) + (((0 : Int32) + (1 : Int32)) + (1 : Int32))).toUInt32 >>> ((1 : Int32) &&& 31).toUInt32).toInt32)).toUInt32 >>> ((1 : Int32) &&& 31).toUInt32).toInt32) + (1 : Int32)))])
              exact own_retI X9 hx hlk hret (hb hby own_d10_55) (by decide) (by decide) e9 ⟨N9, (Keep.refl h0 []), (Or.inr (Or.inl ⟨rfl, hq5_1_0, hq9_0_0, trivial⟩))⟩
            · skip
              refine own_st st9 ?_
              refine own_st (fun t k => XS.ifYes X9.here hx rfl (pc0 := 37) (pc' := 48) rfl (hb hby own_d10_37) rfl ((if0 _ _).trans (teq (by decide : (0 : Int32) = (0 : Int32))).1) (by decide) (by decide) (XS.iload X9.here hx rfl (hb hby own_d10_48) rfl k)) ?_
              show own_Go _ _ _ _ T9 (mkF m 50 #[.val (.ref b2x4_14c5034), .val (.ref b5022), .val (.int (0 : Int32)), .val (.int ((((0 : Int32) + (((0 : Int32) + (1 : Int32)) + (1 : Int32))).toUInt32 >>> ((1 : Int32) &&& 31).toUInt32).toInt32)), .val (.int ((((0 : Int32) + ((((0 : Int32) + (((0 : Int32) + (1 : Int32)) + (1 : Int32))).toUInt32 >>> ((1 : Int32) &&& 31).toUInt32).toInt32)).toUInt32 >>> ((1 : Int32) &&& 31).toUInt32).toInt32))] [(.int ((((0 : Int32) + ((((0 : Int32) + (((0 : Int32) + (1 : Int32)) + (1 : Int32))).toUInt32 >>> ((1 : Int32) &&& 31).toUInt32).toInt32)).toUInt32 >>> ((1 : Int32) &&& 31).toUInt32).toInt32))])
              refine own_st (fun t k => XS.istoreN X9.here hx rfl (hb hby own_d10_50) rfl (l' := #[.val (.ref b2x4_14c5034), .val (.ref b5022), .val (.int (0 : Int32)), .val (.int ((((0 : Int32) + ((((0 : Int32) + (((0 : Int32) + (1 : Int32)) + (1 : Int32))).toUInt32 >>> ((1 : Int32) &&& 31).toUInt32).toInt32)).toUInt32 >>> ((1 : Int32) &&& 31).toUInt32).toInt32)), .val (.int ((((0 : Int32) + ((((0 : Int32) + (((0 : Int32) + (1 : Int32)) + (1 : Int32))).toUInt32 >>> ((1 : Int32) &&& 31).toUInt32).toInt32)).toUInt32 >>> ((1 : Int32) &&& 31).toUInt32).toInt32))]) rfl (XS.goto X9.here hx rfl (pc0 := 51) (pc' := 7) rfl (hb hby own_d10_51) (by decide) (by decide) (XS.iloadN X9.here hx rfl (hb hby own_d10_7) rfl k))) ?_
              show own_Go _ _ _ _ T9 (mkF m 8 #[.val (.ref b2x4_14c5034), .val (.ref b5022), .val (.int (0 : Int32)), .val (.int ((((0 : Int32) + ((((0 : Int32) + (((0 : Int32) + (1 : Int32)) + (1 : Int32))).toUInt32 >>> ((1 : Int32) &&& 31).toUInt32).toInt32)).toUInt32 >>> ((1 : Int32) &&& 31).toUInt32).toInt32)), .val (.int ((((0 : Int32) + ((((0 : Int32) + (((0 : Int32) + (1 : Int32)) + (1 : Int32))).toUInt32 >>> ((1 : Int32) &&& 31).toUInt32).toInt32)).toUInt32 >>> ((1 : Int32) &&& 31).toUInt32).toInt32))] [(.int (0 : Int32))])
              refine own_st (fun t k => XS.iloadN X9.here hx rfl (hb hby own_d10_8) rfl (XS.icmpYes X9.here hx rfl (pc0 := 9) (pc' := 54) rfl (hb hby own_d10_9) rfl (flt (by decide : ¬ ((0 : Int32) < ((((0 : Int32) + ((((0 : Int32) + (((0 : Int32) + (1 : Int32)) + (1 : Int32))).toUInt32 >>> ((1 : Int32) &&& 31).toUInt32).toInt32)).toUInt32 >>> ((1 : Int32) &&& 31).toUInt32).toInt32)))).2.1 (by decide) (by decide) (XS.iloadN X9.here hx rfl (hb hby own_d10_54) rfl k))) ?_
              show own_Go _ _ _ _ T9 (mkF m 55 #[.val (.ref b2x4_14c5034), .val (.ref b5022), .val (.int (0 : Int32)), .val (.int ((((0 : Int32) + ((((0 : Int32) + (((0 : Int32) + (1 : Int32)) + (1 : Int32))).toUInt32 >>> ((1 : Int32) &&& 31).toUInt32).toInt32)).toUInt32 >>> ((1 : Int32) &&& 31).toUInt32).toInt32)), .val (.int ((((0 : Int32) + ((((0 : Int32) + (((0 : Int32) + (1 : Int32)) + (1 : Int32))).toUInt32 >>> ((1 : Int32) &&& 31).toUInt32).toInt32)).toUInt32 >>> ((1 : Int32) &&& 31).toUInt32).toInt32))] [(.int (0 : Int32))])
              exact own_retI X9 hx hlk hret (hb hby own_d10_55) (by decide) (by decide) e9 ⟨N9, (Keep.refl h0 []), (Or.inr (Or.inr ⟨rfl, hq5_1_0, hq9_1_0, trivial⟩))⟩
def own_Q12_127 (Z : State) (b2x4_14c5034 : Addr) (w_NONE : Addr) (b6x14_69c4c13c16c2c5121 : Addr) (b3x14_69c4c13c16c2c5121 : Addr) (k3x14_69c4c13c16c2c5121 : ClassId) (w_NONE_names : Addr) (k_w_NONE_names : ClassId) (b2x5_18c4c5034 : Addr) (h0 : Heap) (n0 : Nat) (v : Option Value) (h : Heap) (L : List Loc) : Prop := Fr n0 L ∧ Keep h0 h [b2x4_14c5034] ∧ ((v = none ∧ Fld Z h b2x4_14c5034 own_s0 "count" "I" (.int (((0 : Int32) + (1 : Int32)) + (1 : Int32))) ∧ Fld Z h b2x4_14c5034 own_s0 "least" own_s6 (.ref b6x14_69c4c13c16c2c5121) ∧ Fld Z h b2x4_14c5034 own_s4 "items" own_s7 (.ref b2x5_18c4c5034) ∧ Fld Z h b2x4_14c5034 own_s0 "stale" "Z" (.int (0 : Int32)) ∧ True))
set_option maxRecDepth 65536 in
set_option maxHeartbeats 40000000 in
theorem own_rm12_127 (l : Launch) (Z : State) (a0 : Array Value) (hw : ∀ d ∈ tables_1, d.before a0 Z = true) (ws : List Jvm.Cond) (b2x4_14c5034 : Addr) (w_NONE : Addr) (b6x14_69c4c13c16c2c5121 : Addr) (b3x14_69c4c13c16c2c5121 : Addr) (k3x14_69c4c13c16c2c5121 : ClassId) (w_NONE_names : Addr) (k_w_NONE_names : ClassId) (b2x5_18c4c5034 : Addr) (h0 : Heap) (n0 : Nat) (Z0 : n0 ≤ h0.size) (P0 : Fld Z h0 b2x4_14c5034 own_s0 "count" "I" (.int (((0 : Int32) + (1 : Int32)) + (1 : Int32)))) (P1 : Fld Z h0 b2x4_14c5034 own_s0 "least" own_s6 (.ref b6x14_69c4c13c16c2c5121)) (P2 : Fld Z h0 b6x14_69c4c13c16c2c5121 own_s2 "parts" own_s8 (.ref b3x14_69c4c13c16c2c5121)) (P3 : Arv Z h0 b3x14_69c4c13c16c2c5121 k3x14_69c4c13c16c2c5121 (.object own_s3) ((0 : Int32) + (1 : Int32)) [(.ref w_NONE)] .null) (OFc5121_0_9 : Ovr Z k3x14_69c4c13c16c2c5121 own_s3) (P5 : Fld Z h0 w_NONE own_s3 "names" "[Ljava/lang/String;" (.ref w_NONE_names)) (P6 : Arv Z h0 w_NONE_names k_w_NONE_names (.object "java/lang/String") (0 : Int32) [] .null) (P7 : Exa Z h0 w_NONE own_s3) (P8 : Exa Z h0 b6x14_69c4c13c16c2c5121 own_s2) (P9 : Exa Z h0 b2x4_14c5034 own_s4) (g_b2x4_14c5034 : n0 ≤ b2x4_14c5034) (P11 : Fld Z h0 b2x4_14c5034 own_s4 "items" own_s7 (.ref b2x5_18c4c5034)) (P12 : Fld Z h0 b2x4_14c5034 own_s0 "stale" "Z" (.int (0 : Int32))) :
    MetFree l own_y0 (head1 (Jvm.Cond.code own_y0 prog_5_method_10_code 2 none :: ws) ({ frames := 2, cells := 0, slots := 0, locals := 36 } : Room)) (fun a U => a = #[(.ref b2x4_14c5034), (.ref w_NONE)] ∧ Z.Warmed39 U.vm ∧ U.heap = h0) (fun _ _ _ _ _ => True) (fun _ U o U' => ∃ v L, o = .returned v ∧ own_Q12_127 Z b2x4_14c5034 w_NONE b6x14_69c4c13c16c2c5121 b3x14_69c4c13c16c2c5121 k3x14_69c4c13c16c2c5121 w_NONE_names k_w_NONE_names b2x5_18c4c5034 h0 n0 v U'.heap L ∧ FrameEnd U o U' L ({ frames := 2, cells := 0, slots := 0, locals := 36 } : Room).cells ({ frames := 2, cells := 0, slots := 0, locals := 36 } : Room).slots) := by
  refine MetFree.of_bodySF (plainFor_of_name own_pn1) hisR ?_
  intro p e s m args below meth c s₁ Bd hml0 hP hK
  obtain ⟨rfl, hZ, hh⟩ := hP
  have hx := Bd.exec
  have hlk := Bd.notSynchronized
  have hret := Bd.returns
  have hby := Bd.bytes
  have hml : c.maxLocals = 2 := hml0
  have hown : s.vm.findClass own_s0 = some m.cls := findClass_of_methodNamed Bd.named
  have hnm := (name_of_methodNamed Bd.named Bd.method).1
  have X0 : Stand p l e ({ frames := 2, cells := 0, slots := 0, locals := 36 } : Room) s m #[(.ref b2x4_14c5034), (.ref w_NONE)] below meth c s₁ [] 0 0 := Stand.of_body Bd
  have e0 : s₁.heap = h0 := by rw [← hh, Bd.state]; rfl
  have N0 := Fr.nil n0
  refine own_open (Q := own_Q12_127 Z b2x4_14c5034 w_NONE b6x14_69c4c13c16c2c5121 b3x14_69c4c13c16c2c5121 k3x14_69c4c13c16c2c5121 w_NONE_names k_w_NONE_names b2x5_18c4c5034 h0 n0) (own_ef12 m b2x4_14c5034 w_NONE) ?_
  refine own_st (fun t k => XS.aloadN X0.here hx rfl (hb hby own_d12_0) rfl rfl k) ?_
  refine own_gF X0 hx hZ hown (own_w hw 92 rfl) Via.refl e0 P0 (hb hby own_d12_1) rfl rfl fun T1 X1 e1 => ?_
  show own_Go _ _ _ _ T1 (mkF m 4 #[.val (.ref b2x4_14c5034), .val (.ref w_NONE)] [(.int (((0 : Int32) + (1 : Int32)) + (1 : Int32)))])
  refine own_st (fun t k => XS.ifYes X1.here hx rfl (pc0 := 4) (pc' := 19) rfl (hb hby own_d12_4) rfl ((if0 _ _).trans (feq (by decide : ¬ ((((0 : Int32) + (1 : Int32)) + (1 : Int32)) = (0 : Int32)))).2) (by decide) (by decide) (XS.aloadN X1.here hx rfl (hb hby own_d12_19) rfl rfl (XS.aloadN X1.here hx rfl (hb hby own_d12_20) rfl rfl k))) ?_
  show own_Go _ _ _ _ T1 (mkF m 21 #[.val (.ref b2x4_14c5034), .val (.ref w_NONE)] [(.ref b2x4_14c5034), (.ref b2x4_14c5034)])
  refine own_gF X1 hx hZ hown (own_w hw 50 rfl) Via.refl e1 P1 (hb hby own_d12_21) rfl rfl fun T2 X2 e2 => ?_
  refine own_st (fun t k => XS.aloadN X2.here hx rfl (hb hby own_d12_24) rfl rfl k) ?_
  refine own_cV (a := b6x14_69c4c13c16c2c5121) X2 hx hZ hown (own_w hw 95 rfl) (own_w hw 96 rfl) (own_w hw 98 rfl) (own_w hw 97 rfl) (own_w hw 48 rfl) (own_w hw 99 rfl) [(.ref w_NONE)] [(.ref b2x4_14c5034)] P8 (own_rm13_106 l Z a0 hw [] b6x14_69c4c13c16c2c5121 w_NONE b3x14_69c4c13c16c2c5121 k3x14_69c4c13c16c2c5121 w_NONE_names k_w_NONE_names h0 n0 Z0 P2 P3 OFc5121_0_9 P5 P6 P7) 1 (hb hby own_d12_25) (by rw [hml]; rfl) (lenOf own_pd9 rfl) e2 rfl rfl (by show 2 * 0 + _ ≤ _; exact Nat.le_of_eq rfl) (by decide) (by decide) (by decide) (by decide) (by decide) fun v3 T3 L3 X3 hQ3 => ?_
  obtain ⟨N3q, Kq3, hL3⟩ := hQ3
  have N3 := Fr.app N0 N3q
  have K3 : Keep h0 T3.heap [b2x4_14c5034] := (Keep.refl h0 [b2x4_14c5034]).trans Kq3 all0
  have Z3 := Nat.le_trans Z0 Kq3.1
  rcases hL3 with ⟨rfl, -⟩
  · skip
    show own_Go _ _ _ _ T3 (mkF m 28 #[.val (.ref b2x4_14c5034), .val (.ref w_NONE)] [(.ref b6x14_69c4c13c16c2c5121), (.ref b2x4_14c5034)])
    have f4 := (P9.keep Kq3)
    have f5 := (P1.keep Kq3 nin0)
    refine own_pF X3 hx hZ hown (own_w hw 50 rfl) Via.refl rfl f5 f4 (Or.inl (own_w hw 51 rfl)) (own_w hw 36 rfl) (ty := (.object own_s2)) (by decide) (hb hby own_d12_28) rfl rfl rfl rfl fun T6 h6 X6 e6 W6 => ?_
    have K6 : Keep h0 h6 [b2x4_14c5034] := K3.wr W6 (Or.inl (List.mem_of_getElem? (i := 0) rfl))
    have Z6 := Nat.le_trans Z3 (Keep.of_wr W6).1
    have N6 := Fr.snoc X6 N3 g_b2x4_14c5034
    have F6 := f5.same W6
    have f7 := ((P0.keep Kq3 nin0).other W6 (Or.inr (slot_ne (Or.inl (own_w hw 80 rfl)) (Or.inl (own_w hw 51 rfl)) (by decide) (t := .int) (t' := (.object own_s2)) (by decide) (by decide))))
    have f8 := ((P11.keep Kq3 nin0).other W6 (Or.inr (slot_ne (Or.inr (own_w hw 54 rfl)) (Or.inl (own_w hw 51 rfl)) (by decide) (t := (.array (.object own_s1))) (t' := (.object own_s2)) (by decide) (by decide))))
    have f9 := ((P12.keep Kq3 nin0).other W6 (Or.inr (slot_ne (Or.inl (own_w hw 94 rfl)) (Or.inl (own_w hw 51 rfl)) (by decide) (t := .boolean) (t' := (.object own_s2)) (by decide) (by decide))))
    exact own_retV X6 hx hlk hret (hb hby own_d12_31) (by decide) (by decide) e6 ⟨N6, K6, ⟨rfl, f7, F6, f8, f9, trivial⟩⟩
def own_Q9_124 (Z : State) (b2x4_14c5034 : Addr) (b5022 : Addr) (b2x5_18c4c5034 : Addr) (k2x5_18c4c5034c2c5070c2c5144 : ClassId) (b5002 : Addr) (b5012 : Addr) (jp2 : Int64) (d2 : Int64) (jp1 : Int64) (d1 : Int64) (jp0 : Int64) (d0 : Int64) (w_NONE : Addr) (b6x14_69c4c13c16c2c5121 : Addr) (b3x14_69c4c13c16c2c5121 : Addr) (k3x14_69c4c13c16c2c5121 : ClassId) (w_NONE_names : Addr) (k_w_NONE_names : ClassId) (h0 : Heap) (n0 : Nat) (v : Option Value) (h : Heap) (L : List Loc) : Prop := Fr n0 L ∧ Keep h0 h [b2x4_14c5034, b2x5_18c4c5034] ∧ ((∃ k2x5_18c4c5034c2c5070c2c5144 : ClassId, v = some .null ∧ (own_lt jp1 d1 jp2 d2) ∧ Fld Z h b2x4_14c5034 own_s0 "count" "I" (.int ((((0 : Int32) + (1 : Int32)) + (1 : Int32)) + (1 : Int32))) ∧ Fld Z h b2x4_14c5034 own_s4 "items" own_s7 (.ref b2x5_18c4c5034) ∧ Fld Z h b2x4_14c5034 own_s0 "least" own_s6 (.ref b6x14_69c4c13c16c2c5121) ∧ Fld Z h b2x4_14c5034 own_s0 "stale" "Z" (.int (0 : Int32)) ∧ Arv Z h b2x5_18c4c5034 k2x5_18c4c5034c2c5070c2c5144 (.object own_s1) (64 : Int32) [(.ref b5002), (.ref b5012), (.ref b5022)] .null ∧ Ovr Z k2x5_18c4c5034c2c5070c2c5144 own_s1 ∧ True) ∨ (∃ k2x5_18c4c5034c2c5070c2c5144 : ClassId, v = some .null ∧ (¬ (own_lt jp1 d1 jp2 d2)) ∧ (own_lt jp0 d0 jp2 d2) ∧ Fld Z h b2x4_14c5034 own_s0 "count" "I" (.int ((((0 : Int32) + (1 : Int32)) + (1 : Int32)) + (1 : Int32))) ∧ Fld Z h b2x4_14c5034 own_s4 "items" own_s7 (.ref b2x5_18c4c5034) ∧ Fld Z h b2x4_14c5034 own_s0 "least" own_s6 (.ref b6x14_69c4c13c16c2c5121) ∧ Fld Z h b2x4_14c5034 own_s0 "stale" "Z" (.int (0 : Int32)) ∧ Arv Z h b2x5_18c4c5034 k2x5_18c4c5034c2c5070c2c5144 (.object own_s1) (64 : Int32) [(.ref b5002), (.ref b5022), (.ref b5012)] .null ∧ Ovr Z k2x5_18c4c5034c2c5070c2c5144 own_s1 ∧ True) ∨ (∃ k2x5_18c4c5034c2c5070c2c5144 : ClassId, v = some .null ∧ (¬ (own_lt jp1 d1 jp2 d2)) ∧ (¬ (own_lt jp0 d0 jp2 d2)) ∧ Fld Z h b2x4_14c5034 own_s0 "count" "I" (.int ((((0 : Int32) + (1 : Int32)) + (1 : Int32)) + (1 : Int32))) ∧ Fld Z h b2x4_14c5034 own_s4 "items" own_s7 (.ref b2x5_18c4c5034) ∧ Fld Z h b2x4_14c5034 own_s0 "least" own_s6 (.ref b6x14_69c4c13c16c2c5121) ∧ Fld Z h b2x4_14c5034 own_s0 "stale" "Z" (.int (0 : Int32)) ∧ Arv Z h b2x5_18c4c5034 k2x5_18c4c5034c2c5070c2c5144 (.object own_s1) (64 : Int32) [(.ref b5022), (.ref b5002), (.ref b5012)] .null ∧ Ovr Z k2x5_18c4c5034c2c5070c2c5144 own_s1 ∧ True))
set_option maxRecDepth 65536 in
set_option maxHeartbeats 40000000 in
theorem own_rm9_124 (l : Launch) (Z : State) (a0 : Array Value) (hw : ∀ d ∈ tables_1, d.before a0 Z = true) (ws : List Jvm.Cond) (b2x4_14c5034 : Addr) (b5022 : Addr) (b2x5_18c4c5034 : Addr) (k2x5_18c4c5034c2c5070c2c5144 : ClassId) (b5002 : Addr) (b5012 : Addr) (jp2 : Int64) (d2 : Int64) (jp1 : Int64) (d1 : Int64) (jp0 : Int64) (d0 : Int64) (w_NONE : Addr) (b6x14_69c4c13c16c2c5121 : Addr) (b3x14_69c4c13c16c2c5121 : Addr) (k3x14_69c4c13c16c2c5121 : ClassId) (w_NONE_names : Addr) (k_w_NONE_names : ClassId) (h0 : Heap) (n0 : Nat) (Z0 : n0 ≤ h0.size) (P0 : Fld Z h0 b2x4_14c5034 own_s0 "count" "I" (.int (((0 : Int32) + (1 : Int32)) + (1 : Int32)))) (P1 : Fld Z h0 b2x4_14c5034 own_s4 "items" own_s7 (.ref b2x5_18c4c5034)) (P2 : Arv Z h0 b2x5_18c4c5034 k2x5_18c4c5034c2c5070c2c5144 (.object own_s1) (64 : Int32) [(.ref b5002), (.ref b5012)] .null) (OFc5144_0_0 : Ovr Z k2x5_18c4c5034c2c5070c2c5144 own_s1) (P4 : Fld Z h0 b5022 own_s1 "priority" "J" (.long jp2)) (P5 : Exa Z h0 b5022 own_s1) (P6 : Fld Z h0 b5022 own_s1 "id" "J" (.long d2)) (P7 : Fld Z h0 b5012 own_s1 "priority" "J" (.long jp1)) (P8 : Fld Z h0 b5012 own_s1 "id" "J" (.long d1)) (P9 : Exa Z h0 b5012 own_s1) (P10 : Fld Z h0 b5002 own_s1 "priority" "J" (.long jp0)) (P11 : Fld Z h0 b5002 own_s1 "id" "J" (.long d0)) (P12 : Exa Z h0 b5002 own_s1) (P13 : Exa Z h0 b2x4_14c5034 own_s4) (P14 : Fld Z h0 b5022 own_s1 "needs" "Lcom/example/lonborg/lonborg/Resources;" (.ref w_NONE)) (P15 : Fld Z h0 b2x4_14c5034 own_s0 "least" own_s6 (.ref b6x14_69c4c13c16c2c5121)) (P16 : Fld Z h0 b6x14_69c4c13c16c2c5121 own_s2 "parts" own_s8 (.ref b3x14_69c4c13c16c2c5121)) (P17 : Arv Z h0 b3x14_69c4c13c16c2c5121 k3x14_69c4c13c16c2c5121 (.object own_s3) ((0 : Int32) + (1 : Int32)) [(.ref w_NONE)] .null) (OFc5121_0_9 : Ovr Z k3x14_69c4c13c16c2c5121 own_s3) (P19 : Fld Z h0 w_NONE own_s3 "names" "[Ljava/lang/String;" (.ref w_NONE_names)) (P20 : Arv Z h0 w_NONE_names k_w_NONE_names (.object "java/lang/String") (0 : Int32) [] .null) (P21 : Exa Z h0 w_NONE own_s3) (P22 : Exa Z h0 b6x14_69c4c13c16c2c5121 own_s2) (P23 : Fld Z h0 b2x4_14c5034 own_s0 "stale" "Z" (.int (0 : Int32))) (g_b2x4_14c5034 : n0 ≤ b2x4_14c5034) (P25 : Exa Z h0 b2x5_18c4c5034 own_s7) (g_b2x5_18c4c5034 : n0 ≤ b2x5_18c4c5034) :
    MetFree l own_y6 (head1 (Jvm.Cond.code own_y6 prog_4_method_2_code 4 (some (.object own_s0)) :: ws) ({ frames := 3, cells := 0, slots := 0, locals := 49 } : Room)) (fun a U => a = #[(.ref b2x4_14c5034), (.ref b5022)] ∧ Z.Warmed39 U.vm ∧ U.heap = h0) (fun _ _ _ _ _ => True) (fun _ U o U' => ∃ v L, o = .returned v ∧ own_Q9_124 Z b2x4_14c5034 b5022 b2x5_18c4c5034 k2x5_18c4c5034c2c5070c2c5144 b5002 b5012 jp2 d2 jp1 d1 jp0 d0 w_NONE b6x14_69c4c13c16c2c5121 b3x14_69c4c13c16c2c5121 k3x14_69c4c13c16c2c5121 w_NONE_names k_w_NONE_names h0 n0 v U'.heap L ∧ FrameEnd U o U' L ({ frames := 3, cells := 0, slots := 0, locals := 49 } : Room).cells ({ frames := 3, cells := 0, slots := 0, locals := 49 } : Room).slots) := by
  refine MetFree.of_bodySF (plainFor_of_name own_pn2) hisR ?_
  intro p e s m args below meth c s₁ Bd hml0 hP hK
  obtain ⟨rfl, hZ, hh⟩ := hP
  have hx := Bd.exec
  have hlk := Bd.notSynchronized
  have hret := Bd.returns
  have hby := Bd.bytes
  have hml : c.maxLocals = 4 := hml0
  have hown : s.vm.findClass own_s4 = some m.cls := findClass_of_methodNamed Bd.named
  have hnm := (name_of_methodNamed Bd.named Bd.method).1
  have X0 : Stand p l e ({ frames := 3, cells := 0, slots := 0, locals := 49 } : Room) s m #[(.ref b2x4_14c5034), (.ref b5022)] below meth c s₁ [] 0 0 := Stand.of_body Bd
  have e0 : s₁.heap = h0 := by rw [← hh, Bd.state]; rfl
  have N0 := Fr.nil n0
  refine own_open (Q := own_Q9_124 Z b2x4_14c5034 b5022 b2x5_18c4c5034 k2x5_18c4c5034c2c5070c2c5144 b5002 b5012 jp2 d2 jp1 d1 jp0 d0 w_NONE b6x14_69c4c13c16c2c5121 b3x14_69c4c13c16c2c5121 k3x14_69c4c13c16c2c5121 w_NONE_names k_w_NONE_names h0 n0) (own_ef9 m b2x4_14c5034 b5022) ?_
  refine own_st (fun t k => XS.aloadN X0.here hx rfl (hb hby own_d9_0) rfl rfl (XS.aloadN X0.here hx rfl (hb hby own_d9_1) rfl rfl k)) ?_
  show own_Go _ _ _ _ s₁ (mkF m 2 #[.val (.ref b2x4_14c5034), .val (.ref b5022), .unset, .unset] [(.ref b5022), (.ref b2x4_14c5034)])
  refine own_cP (a := b2x4_14c5034) X0 hx hZ hown (own_w hw 74 rfl) (own_w hw 76 rfl) (own_w hw 36 rfl) (own_w hw 75 rfl) (own_w hw 37 rfl) (own_w hw 77 rfl) [(.ref b5022)] [] P13 (own_rm10_125 l Z a0 hw [] b2x4_14c5034 b5022 b2x5_18c4c5034 k2x5_18c4c5034c2c5070c2c5144 b5002 b5012 jp2 d2 jp1 d1 jp0 d0 h0 n0 Z0 P0 P1 P2 OFc5144_0_0 P4 P5 P6 P7 P8 P9 P10 P11 P12) 0 (hb hby own_d9_2) (by rw [hml]; rfl) (lenOf own_pd4 rfl) e0 rfl rfl (by show 2 * 0 + _ ≤ _; exact Nat.le_of_eq rfl) (by decide) (by decide) (by decide) (by decide) (by decide) fun v1 T1 L1 X1 hQ1 => ?_
  obtain ⟨N1q, Kq1, hL1⟩ := hQ1
  have N1 := Fr.app N0 N1q
  have K1 : Keep h0 T1.heap [b2x4_14c5034, b2x5_18c4c5034] := (Keep.refl h0 [b2x4_14c5034, b2x5_18c4c5034]).trans Kq1 all0
  have Z1 := Nat.le_trans Z0 Kq1.1
  rcases hL1 with ⟨rfl, hq1_0_0, -⟩ | ⟨rfl, hq1_1_0, hq1_1_1, -⟩ | ⟨rfl, hq1_2_0, hq1_2_1, -⟩
  · skip
    refine own_st (fun t k => XS.istoreN X1.here hx rfl (hb hby own_d9_5) rfl (l' := #[.val (.ref b2x4_14c5034), .val (.ref b5022), .val (.int (((((0 : Int32) + (((0 : Int32) + (1 : Int32)) + (1 : Int32))).toUInt32 >>> ((1 : Int32) &&& 31).toUInt32).toInt32) + (1 : Int32))), .unset]) rfl (XS.aloadN X1.here hx rfl (hb hby own_d9_6) rfl rfl k)) ?_
    show own_Go _ _ _ _ T1 (mkF m 7 #[.val (.ref b2x4_14c5034), .val (.ref b5022), .val (.int (((((0 : Int32) + (((0 : Int32) + (1 : Int32)) + (1 : Int32))).toUInt32 >>> ((1 : Int32) &&& 31).toUInt32).toInt32) + (1 : Int32))), .unset] [(.ref b2x4_14c5034)])
    have f2 := (P0.keep Kq1 nin0)
    refine own_gF X1 hx hZ hown (own_w hw 78 rfl) (Via.of (own_w hw 79 rfl)) rfl f2 (hb hby own_d9_7) rfl rfl fun T3 X3 e3 => ?_
    refine own_st (fun t k => XS.bipush X3.here hx rfl (hb hby own_d9_10) (XS.icmpNo X3.here hx rfl (hb hby own_d9_12) rfl (tlt (by decide : (((0 : Int32) + (1 : Int32)) + (1 : Int32)) < (64 : Int32))).2.1 k)) ?_
    show own_Go _ _ _ _ T3 (mkF m 15 #[.val (.ref b2x4_14c5034), .val (.ref b5022), .val (.int (((((0 : Int32) + (((0 : Int32) + (1 : Int32)) + (1 : Int32))).toUInt32 >>> ((1 : Int32) &&& 31).toUInt32).toInt32) + (1 : Int32))), .unset] [])
    refine own_st (fun t k => XS.aloadN X3.here hx rfl (hb hby own_d9_15) rfl rfl (XS.aloadN X3.here hx rfl (hb hby own_d9_16) rfl rfl k)) ?_
    have f4 := (P14.keep Kq1 nin0)
    have f6 := (P5.keep Kq1)
    refine own_cV (a := b5022) X3 hx hZ hown (own_w hw 81 rfl) (own_w hw 82 rfl) (own_w hw 84 rfl) (own_w hw 83 rfl) (own_w hw 6 rfl) (own_w hw 85 rfl) [] [(.ref b2x4_14c5034)] f6 (own_rm11 l Z a0 hw [] b5022 w_NONE T1.heap n0 Z1 f4) 1 (hb hby own_d9_17) (by rw [hml]; rfl) (lenOf own_pd5 rfl) e3 rfl rfl (by show 2 * 0 + _ ≤ _; exact Nat.le_of_eq rfl) (by decide) (by decide) (by decide) (by decide) (by decide) fun v5 T5 L5 X5 hQ5 => ?_
    obtain ⟨N5q, e5, hL5⟩ := hQ5
    have N5 := Fr.app N1 N5q
    rcases hL5 with ⟨rfl, -⟩
    · skip
      show own_Go _ _ _ _ T5 (mkF m 20 #[.val (.ref b2x4_14c5034), .val (.ref b5022), .val (.int (((((0 : Int32) + (((0 : Int32) + (1 : Int32)) + (1 : Int32))).toUInt32 >>> ((1 : Int32) &&& 31).toUInt32).toInt32) + (1 : Int32))), .unset] [(.ref w_NONE), (.ref b2x4_14c5034)])
      have f7 := (P15.keep Kq1 nin0)
      have f8 := (P16.keep Kq1 nin0)
      have f9 := (P17.keep Kq1 nin0)
      have f10 := (P19.keep Kq1 nin0)
      have f11 := (P20.keep Kq1 nin0)
      have f12 := (P21.keep Kq1)
      have f13 := (P22.keep Kq1)
      have f14 := (P13.keep Kq1)
      have f15 := (P1.keep Kq1 nin0)
      have f16 := (P23.keep Kq1 nin0)
      obtain ⟨cq17, kq17, q17a, q17b, q17c⟩ := isOf hZ e5 f14
      obtain ⟨_, _, ⟨T17, L17, k17, n17⟩, -, X17, ⟨Lc17, hQ17, l17, y17, z17⟩, st17⟩ := X5.virtualBackUp hx (owner := own_s0) (x := own_y8) (y := own_y0) hown (mvT hZ (own_w hw 86 rfl)) (mvT hZ (own_w hw 87 rfl)) (mvT hZ (own_w hw 88 rfl)) (by decide) (mvT hZ (own_w hw 90 rfl)) (mvT hZ (own_w hw 89 rfl)) (backOf (W := 0) (own_rm12_127 l Z a0 hw [] b2x4_14c5034 w_NONE b6x14_69c4c13c16c2c5121 b3x14_69c4c13c16c2c5121 k3x14_69c4c13c16c2c5121 w_NONE_names k_w_NONE_names b2x5_18c4c5034 T1.heap n0 Z1 f2 f7 f8 f9 OFc5121_0_9 f10 f11 f12 f13 f14 g_b2x4_14c5034 f15 f16) hZ (own_w hw 91 rfl) (own_w hw 44 rfl) (by decide) (by decide)) q17a q17c (g := (mkF m 20 #[.val (.ref b2x4_14c5034), .val (.ref b5022), .val (.int (((((0 : Int32) + (((0 : Int32) + (1 : Int32)) + (1 : Int32))).toUInt32 >>> ((1 : Int32) &&& 31).toUInt32).toInt32) + (1 : Int32))), .unset] [(.ref w_NONE), (.ref b2x4_14c5034)])) rfl (by rw [hml]; rfl) (Steps.refl _) (argsL := [(.ref w_NONE)]) (rest := []) (lenOf own_pd10 rfl) rfl (by show 2 * 0 + _ ≤ _; exact Nat.le_of_eq rfl) (hb hby own_d9_20) (fun _ _ => ⟨rfl, e5, (by decide : 0 + 0 ≤ _), (by decide : 0 + 0 ≤ _)⟩)
      dsimp only [Pt.U, Pt.locs, Pt.cells, Pt.slots] at X17 l17 y17 z17 st17 hQ17
      subst l17 y17 z17
      obtain ⟨N17q, Kq17, hL17⟩ := hQ17
      have N17 := Fr.app N5 N17q
      have K17 : Keep h0 T17.heap [b2x4_14c5034, b2x5_18c4c5034] := K1.trans Kq17 (allS (Or.inl (List.mem_of_getElem? (i := 0) rfl)) all0)
      have Z17 := Nat.le_trans Z1 Kq17.1
      rcases hL17 with ⟨rfl, Fc17_0_0, Fc17_0_1, Fc17_0_2, Fc17_0_3, -⟩
      · skip
        refine own_st (fun t k => st17.trans k) ?_
        refine own_st (fun t k => XS.aloadN X17.here hx rfl (hb hby own_d9_23) rfl rfl k) ?_
        refine own_gF X17 hx hZ hown (own_w hw 53 rfl) Via.refl rfl Fc17_0_2 (hb hby own_d9_24) rfl rfl fun T18 X18 e18 => ?_
        show own_Go _ _ _ _ T18 (mkF m 27 #[.val (.ref b2x4_14c5034), .val (.ref b5022), .val (.int (((((0 : Int32) + (((0 : Int32) + (1 : Int32)) + (1 : Int32))).toUInt32 >>> ((1 : Int32) &&& 31).toUInt32).toInt32) + (1 : Int32))), .unset] [(.ref b2x5_18c4c5034)])
        refine own_st (fun t k => XS.iloadN X18.here hx rfl (hb hby own_d9_27) rfl (XS.aloadN X18.here hx rfl (hb hby own_d9_28) rfl rfl k)) ?_
        refine own_gF X18 hx hZ hown (own_w hw 53 rfl) Via.refl e18 Fc17_0_2 (hb hby own_d9_29) rfl rfl fun T19 X19 e19 => ?_
        show own_Go _ _ _ _ T19 (mkF m 32 #[.val (.ref b2x4_14c5034), .val (.ref b5022), .val (.int (((((0 : Int32) + (((0 : Int32) + (1 : Int32)) + (1 : Int32))).toUInt32 >>> ((1 : Int32) &&& 31).toUInt32).toInt32) + (1 : Int32))), .unset] [(.ref b2x5_18c4c5034), (.int (((((0 : Int32) + (((0 : Int32) + (1 : Int32)) + (1 : Int32))).toUInt32 >>> ((1 : Int32) &&& 31).toUInt32).toInt32) + (1 : Int32))), (.ref b2x5_18c4c5034)])
        refine own_st (fun t k => XS.iloadN X19.here hx rfl (hb hby own_d9_32) rfl (XS.iconst X19.here hx rfl (hb hby own_d9_33) (XS.iadd X19.here hx rfl (hb hby own_d9_34) rfl k))) ?_
        show own_Go _ _ _ _ T19 (mkF m 35 #[.val (.ref b2x4_14c5034), .val (.ref b5022), .val (.int (((((0 : Int32) + (((0 : Int32) + (1 : Int32)) + (1 : Int32))).toUInt32 >>> ((1 : Int32) &&& 31).toUInt32).toInt32) + (1 : Int32))), .unset] [(.int ((((((0 : Int32) + (((0 : Int32) + (1 : Int32)) + (1 : Int32))).toUInt32 >>> ((1 : Int32) &&& 31).toUInt32).toInt32) + (1 : Int32)) + (1 : Int32))), (.ref b2x5_18c4c5034), (.int (((((0 : Int32) + (((0 : Int32) + (1 : Int32)) + (1 : Int32))).toUInt32 >>> ((1 : Int32) &&& 31).toUInt32).toInt32) + (1 : Int32))), (.ref b2x5_18c4c5034)])
        refine own_st (fun t k => XS.aloadN X19.here hx rfl (hb hby own_d9_35) rfl rfl k) ?_
        refine own_gF X19 hx hZ hown (own_w hw 78 rfl) (Via.of (own_w hw 79 rfl)) e19 Fc17_0_0 (hb hby own_d9_36) rfl rfl fun T20 X20 e20 => ?_
        refine own_st (fun t k => XS.iloadN X20.here hx rfl (hb hby own_d9_39) rfl k) ?_
        show own_Go _ _ _ _ T20 (mkF m 40 #[.val (.ref b2x4_14c5034), .val (.ref b5022), .val (.int (((((0 : Int32) + (((0 : Int32) + (1 : Int32)) + (1 : Int32))).toUInt32 >>> ((1 : Int32) &&& 31).toUInt32).toInt32) + (1 : Int32))), .unset] [(.int (((((0 : Int32) + (((0 : Int32) + (1 : Int32)) + (1 : Int32))).toUInt32 >>> ((1 : Int32) &&& 31).toUInt32).toInt32) + (1 : Int32))), (.int (((0 : Int32) + (1 : Int32)) + (1 : Int32))), (.int ((((((0 : Int32) + (((0 : Int32) + (1 : Int32)) + (1 : Int32))).toUInt32 >>> ((1 : Int32) &&& 31).toUInt32).toInt32) + (1 : Int32)) + (1 : Int32))), (.ref b2x5_18c4c5034), (.int (((((0 : Int32) + (((0 : Int32) + (1 : Int32)) + (1 : Int32))).toUInt32 >>> ((1 : Int32) &&& 31).toUInt32).toInt32) + (1 : Int32))), (.ref b2x5_18c4c5034)])
        refine own_st (fun t k => XS.isub X20.here hx rfl (hb hby own_d9_40) rfl k) ?_
        have f22 := ((P2.keep Kq1 nin0).keep Kq17 (ninS (ne_exa P25 P13 (by decide)) nin0))
        obtain ⟨T21, X21, e21, st21⟩ := own_cp0 X20 hx hZ hown (own_w hw 119 rfl) (own_w hw 122 rfl) (own_w hw 120 rfl) (own_w hw 121 rfl) e20 f22 f22 (sp := (((((0 : Int32) + (((0 : Int32) + (1 : Int32)) + (1 : Int32))).toUInt32 >>> ((1 : Int32) &&& 31).toUInt32).toInt32) + (1 : Int32))) (dp := ((((((0 : Int32) + (((0 : Int32) + (1 : Int32)) + (1 : Int32))).toUInt32 >>> ((1 : Int32) &&& 31).toUInt32).toInt32) + (1 : Int32)) + (1 : Int32))) (nn := ((((0 : Int32) + (1 : Int32)) + (1 : Int32)) - (((((0 : Int32) + (((0 : Int32) + (1 : Int32)) + (1 : Int32))).toUInt32 >>> ((1 : Int32) &&& 31).toUInt32).toInt32) + (1 : Int32)))) rfl (Or.inr ⟨rfl, rfl⟩) (by decide) (by decide) (by decide) (by decide) (g := (mkF m 41 #[.val (.ref b2x4_14c5034), .val (.ref b5022), .val (.int (((((0 : Int32) + (((0 : Int32) + (1 : Int32)) + (1 : Int32))).toUInt32 >>> ((1 : Int32) &&& 31).toUInt32).toInt32) + (1 : Int32))), .unset] [(.int ((((0 : Int32) + (1 : Int32)) + (1 : Int32)) - (((((0 : Int32) + (((0 : Int32) + (1 : Int32)) + (1 : Int32))).toUInt32 >>> ((1 : Int32) &&& 31).toUInt32).toInt32) + (1 : Int32)))), (.int ((((((0 : Int32) + (((0 : Int32) + (1 : Int32)) + (1 : Int32))).toUInt32 >>> ((1 : Int32) &&& 31).toUInt32).toInt32) + (1 : Int32)) + (1 : Int32))), (.ref b2x5_18c4c5034), (.int (((((0 : Int32) + (((0 : Int32) + (1 : Int32)) + (1 : Int32))).toUInt32 >>> ((1 : Int32) &&& 31).toUInt32).toInt32) + (1 : Int32))), (.ref b2x5_18c4c5034)])) rfl (by rw [hml]; rfl) rfl (hb hby own_d9_41) (by decide) (W := 0) (by show 2 * 0 + _ ≤ _; exact Nat.le_of_eq rfl) (by decide)
        refine own_st st21 ?_
        refine own_st (fun t k => XS.aloadN X21.here hx rfl (hb hby own_d9_44) rfl rfl k) ?_
        show own_Go _ _ _ _ T21 (mkF m 45 #[.val (.ref b2x4_14c5034), .val (.ref b5022), .val (.int (((((0 : Int32) + (((0 : Int32) + (1 : Int32)) + (1 : Int32))).toUInt32 >>> ((1 : Int32) &&& 31).toUInt32).toInt32) + (1 : Int32))), .unset] [(.ref b2x4_14c5034)])
        refine own_gF X21 hx hZ hown (own_w hw 53 rfl) Via.refl e21 Fc17_0_2 (hb hby own_d9_45) rfl rfl fun T23 X23 e23 => ?_
        refine own_st (fun t k => XS.iloadN X23.here hx rfl (hb hby own_d9_48) rfl (XS.aloadN X23.here hx rfl (hb hby own_d9_49) rfl rfl k)) ?_
        show own_Go _ _ _ _ T23 (mkF m 50 #[.val (.ref b2x4_14c5034), .val (.ref b5022), .val (.int (((((0 : Int32) + (((0 : Int32) + (1 : Int32)) + (1 : Int32))).toUInt32 >>> ((1 : Int32) &&& 31).toUInt32).toInt32) + (1 : Int32))), .unset] [(.ref b5022), (.int (((((0 : Int32) + (((0 : Int32) + (1 : Int32)) + (1 : Int32))).toUInt32 >>> ((1 : Int32) &&& 31).toUInt32).toInt32) + (1 : Int32))), (.ref b2x5_18c4c5034)])
        have Pd24 := f22.pad (pad_rep [(.ref b5002), (.ref b5012)] .null 1)
        obtain ⟨c24, A24, q24, S24, M24, H24, G24⟩ := Pd24
        have f25 := (f6.keep Kq17)
        obtain ⟨T24, h24, X24, e24, W24, st24⟩ := stR X23 hx hZ e23 A24 (j := (((((0 : Int32) + (((0 : Int32) + (1 : Int32)) + (1 : Int32))).toUInt32 >>> ((1 : Int32) &&& 31).toUInt32).toInt32) + (1 : Int32))) (inb_of S24 ⟨by decide, by decide⟩) rfl (Sto.ofV A24 q24 OFc5144_0_0 (Ins.self f25)) (g := (mkF m 50 #[.val (.ref b2x4_14c5034), .val (.ref b5022), .val (.int (((((0 : Int32) + (((0 : Int32) + (1 : Int32)) + (1 : Int32))).toUInt32 >>> ((1 : Int32) &&& 31).toUInt32).toInt32) + (1 : Int32))), .unset] [(.ref b5022), (.int (((((0 : Int32) + (((0 : Int32) + (1 : Int32)) + (1 : Int32))).toUInt32 >>> ((1 : Int32) &&& 31).toUInt32).toInt32) + (1 : Int32))), (.ref b2x5_18c4c5034)])) rfl rfl (hb hby own_d9_50)
        refine own_st st24 ?_
        have K24 : Keep h0 h24 [b2x4_14c5034, b2x5_18c4c5034] := K17.wr W24 (Or.inl (List.mem_of_getElem? (i := 1) rfl))
        have Z24 := Nat.le_trans Z17 (Keep.of_wr W24).1
        have N24 := Fr.snoc X24 N17 g_b2x5_18c4c5034
        have V24 : Arv Z h24 b2x5_18c4c5034 k2x5_18c4c5034c2c5070c2c5144 (.object own_s1) (64 : Int32) [(.ref b5002), (.ref b5012), (.ref b5022)] .null := Arv.set A24 q24 S24 M24 H24 G24 rfl W24 2 rfl (Nat.le_of_ble_eq_true rfl)
        refine own_st (fun t k => XS.aloadN X24.here hx rfl (hb hby own_d9_51) rfl rfl (XS.dup X24.here hx rfl (hb hby own_d9_52) rfl rfl k)) ?_
        show own_Go _ _ _ _ T24 (mkF m 53 #[.val (.ref b2x4_14c5034), .val (.ref b5022), .val (.int (((((0 : Int32) + (((0 : Int32) + (1 : Int32)) + (1 : Int32))).toUInt32 >>> ((1 : Int32) &&& 31).toUInt32).toInt32) + (1 : Int32))), .unset] [(.ref b2x4_14c5034), (.ref b2x4_14c5034)])
        have f26 := (Fc17_0_0.other W24 (Or.inl (ne_exa P13 P25 (by decide))))
        refine own_gF X24 hx hZ hown (own_w hw 78 rfl) (Via.of (own_w hw 79 rfl)) e24 f26 (hb hby own_d9_53) rfl rfl fun T27 X27 e27 => ?_
        refine own_st (fun t k => XS.iconst X27.here hx rfl (hb hby own_d9_56) (XS.iadd X27.here hx rfl (hb hby own_d9_57) rfl k)) ?_
        show own_Go _ _ _ _ T27 (mkF m 58 #[.val (.ref b2x4_14c5034), .val (.ref b5022), .val (.int (((((0 : Int32) + (((0 : Int32) + (1 : Int32)) + (1 : Int32))).toUInt32 >>> ((1 : Int32) &&& 31).toUInt32).toInt32) + (1 : Int32))), .unset] [(.int ((((0 : Int32) + (1 : Int32)) + (1 : Int32)) + (1 : Int32))), (.ref b2x4_14c5034)])
        have f28 := (P13.keep K24)
        refine own_pF X27 hx hZ hown (own_w hw 78 rfl) (Via.of (own_w hw 79 rfl)) e27 f26 f28 (Or.inl (own_w hw 80 rfl)) (own_w hw 36 rfl) (ty := .int) (by decide) (hb hby own_d9_58) rfl rfl rfl rfl fun T29 h29 X29 e29 W29 => ?_
        have K29 : Keep h0 h29 [b2x4_14c5034, b2x5_18c4c5034] := K24.wr W29 (Or.inl (List.mem_of_getElem? (i := 0) rfl))
        have Z29 := Nat.le_trans Z24 (Keep.of_wr W29).1
        have N29 := Fr.snoc X29 N24 g_b2x4_14c5034
        have F29 := f26.same W29
        refine own_st (fun t k => XS.aconstNull X29.here hx rfl (hb hby own_d9_61) k) ?_
        have f30 := ((Fc17_0_2.other W24 (Or.inl (ne_exa P13 P25 (by decide)))).other W29 (Or.inr (slot_ne (Or.inr (own_w hw 54 rfl)) (Or.inl (own_w hw 80 rfl)) (by decide) (t := (.array (.object own_s1))) (t' := .int) (by decide) (by decide))))
        have f31 := ((Fc17_0_1.other W24 (Or.inl (ne_exa P13 P25 (by decide)))).other W29 (Or.inr (slot_ne (Or.inl (own_w hw 51 rfl)) (Or.inl (own_w hw 80 rfl)) (by decide) (t := (.object own_s2)) (t' := .int) (by decide) (by decide))))
        have f32 := ((Fc17_0_3.other W24 (Or.inl (ne_exa P13 P25 (by decide)))).other W29 (Or.inr (slot_ne (Or.inl (own_w hw 94 rfl)) (Or.inl (own_w hw 80 rfl)) (by decide) (t := .boolean) (t' := .int) (by decide) (by decide))))
        have f33 := (V24.other W29 (ne_exa P25 P13 (by decide)))
        exact own_retA X29 hx hlk hret rfl rfl (hb hby own_d9_62) (by decide) (by decide) e29 ⟨N29, K29, (Or.inl ⟨_, rfl, hq1_0_0, F29, f30, f31, f32, f33, OFc5144_0_0, trivial⟩)⟩
  · skip
    show own_Go _ _ _ _ T1 (mkF m 5 #[.val (.ref b2x4_14c5034), .val (.ref b5022), .unset, .unset] [(.int (((((0 : Int32) + ((((0 : Int32) + (((0 : Int32) + (1 : Int32)) + (1 : Int32))).toUInt32 >>> ((1 : Int32) &&& 31).toUInt32).toInt32)).toUInt32 >>> ((1 : Int32) &&& 31).toUInt32).toInt32) + (1 : Int32)))])
    refine own_st (fun t k => XS.istoreN X1.here hx rfl (hb hby own_d9_5) rfl (l' := #[.val (.ref b2x4_14c5034), .val (.ref b5022), .val (.int (((((0 : Int32) + ((((0 : Int32) + (((0 : Int32) + (1 : Int32)) + (1 : Int32))).toUInt32 >>> ((1 : Int32) &&& 31).toUInt32).toInt32)).toUInt32 >>> ((1 : Int32) &&& 31).toUInt32).toInt32) + (1 : Int32))), .unset]) rfl (XS.aloadN X1.here hx rfl (hb hby own_d9_6) rfl rfl k)) ?_
    have f34 := (P0.keep Kq1 nin0)
    refine own_gF X1 hx hZ hown (own_w hw 78 rfl) (Via.of (own_w hw 79 rfl)) rfl f34 (hb hby own_d9_7) rfl rfl fun T35 X35 e35 => ?_
    show own_Go _ _ _ _ T35 (mkF m 10 #[.val (.ref b2x4_14c5034), .val (.ref b5022), .val (.int (((((0 : Int32) + ((((0 : Int32) + (((0 : Int32) + (1 : Int32)) + (1 : Int32))).toUInt32 >>> ((1 : Int32) &&& 31).toUInt32).toInt32)).toUInt32 >>> ((1 : Int32) &&& 31).toUInt32).toInt32) + (1 : Int32))), .unset] [(.int (((0 : Int32) + (1 : Int32)) + (1 : Int32)))])
    refine own_st (fun t k => XS.bipush X35.here hx rfl (hb hby own_d9_10) (XS.icmpNo X35.here hx rfl (hb hby own_d9_12) rfl (tlt (by decide : (((0 : Int32) + (1 : Int32)) + (1 : Int32)) < (64 : Int32))).2.1 (XS.aloadN X35.here hx rfl (hb hby own_d9_15) rfl rfl k))) ?_
    show own_Go _ _ _ _ T35 (mkF m 16 #[.val (.ref b2x4_14c5034), .val (.ref b5022), .val (.int (((((0 : Int32) + ((((0 : Int32) + (((0 : Int32) + (1 : Int32)) + (1 : Int32))).toUInt32 >>> ((1 : Int32) &&& 31).toUInt32).toInt32)).toUInt32 >>> ((1 : Int32) &&& 31).toUInt32).toInt32) + (1 : Int32))), .unset] [(.ref b2x4_14c5034)])
    refine own_st (fun t k => XS.aloadN X35.here hx rfl (hb hby own_d9_16) rfl rfl k) ?_
    have f36 := (P14.keep Kq1 nin0)
    have f38 := (P5.keep Kq1)
    refine own_cV (a := b5022) X35 hx hZ hown (own_w hw 81 rfl) (own_w hw 82 rfl) (own_w hw 84 rfl) (own_w hw 83 rfl) (own_w hw 6 rfl) (own_w hw 85 rfl) [] [(.ref b2x4_14c5034)] f38 (own_rm11 l Z a0 hw [] b5022 w_NONE T1.heap n0 Z1 f36) 1 (hb hby own_d9_17) (by rw [hml]; rfl) (lenOf own_pd5 rfl) e35 rfl rfl (by show 2 * 0 + _ ≤ _; exact Nat.le_of_eq rfl) (by decide) (by decide) (by decide) (by decide) (by decide) fun v37 T37 L37 X37 hQ37 => ?_
    obtain ⟨N37q, e37, hL37⟩ := hQ37
    have N37 := Fr.app N1 N37q
    rcases hL37 with ⟨rfl, -⟩
    · skip
      have f39 := (P15.keep Kq1 nin0)
      have f40 := (P16.keep Kq1 nin0)
      have f41 := (P17.keep Kq1 nin0)
      have f42 := (P19.keep Kq1 nin0)
      have f43 := (P20.keep Kq1 nin0)
      have f44 := (P21.keep Kq1)
      have f45 := (P22.keep Kq1)
      have f46 := (P13.keep Kq1)
      have f47 := (P1.keep Kq1 nin0)
      have f48 := (P23.keep Kq1 nin0)
      obtain ⟨cq49, kq49, q49a, q49b, q49c⟩ := isOf hZ e37 f46
      obtain ⟨_, _, ⟨T49, L49, k49, n49⟩, -, X49, ⟨Lc49, hQ49, l49, y49, z49⟩, st49⟩ := X37.virtualBackUp hx (owner := own_s0) (x := own_y8) (y := own_y0) hown (mvT hZ (own_w hw 86 rfl)) (mvT hZ (own_w hw 87 rfl)) (mvT hZ (own_w hw 88 rfl)) (by decide) (mvT hZ (own_w hw 90 rfl)) (mvT hZ (own_w hw 89 rfl)) (backOf (W := 0) (own_rm12_127 l Z a0 hw [] b2x4_14c5034 w_NONE b6x14_69c4c13c16c2c5121 b3x14_69c4c13c16c2c5121 k3x14_69c4c13c16c2c5121 w_NONE_names k_w_NONE_names b2x5_18c4c5034 T1.heap n0 Z1 f34 f39 f40 f41 OFc5121_0_9 f42 f43 f44 f45 f46 g_b2x4_14c5034 f47 f48) hZ (own_w hw 91 rfl) (own_w hw 44 rfl) (by decide) (by decide)) q49a q49c (g := (mkF m 20 #[.val (.ref b2x4_14c5034), .val (.ref b5022), .val (.int (((((0 : Int32) + ((((0 : Int32) + (((0 : Int32) + (1 : Int32)) + (1 : Int32))).toUInt32 >>> ((1 : Int32) &&& 31).toUInt32).toInt32)).toUInt32 >>> ((1 : Int32) &&& 31).toUInt32).toInt32) + (1 : Int32))), .unset] [(.ref w_NONE), (.ref b2x4_14c5034)])) rfl (by rw [hml]; rfl) (Steps.refl _) (argsL := [(.ref w_NONE)]) (rest := []) (lenOf own_pd10 rfl) rfl (by show 2 * 0 + _ ≤ _; exact Nat.le_of_eq rfl) (hb hby own_d9_20) (fun _ _ => ⟨rfl, e37, (by decide : 0 + 0 ≤ _), (by decide : 0 + 0 ≤ _)⟩)
      dsimp only [Pt.U, Pt.locs, Pt.cells, Pt.slots] at X49 l49 y49 z49 st49 hQ49
      subst l49 y49 z49
      obtain ⟨N49q, Kq49, hL49⟩ := hQ49
      have N49 := Fr.app N37 N49q
      have K49 : Keep h0 T49.heap [b2x4_14c5034, b2x5_18c4c5034] := K1.trans Kq49 (allS (Or.inl (List.mem_of_getElem? (i := 0) rfl)) all0)
      have Z49 := Nat.le_trans Z1 Kq49.1
      rcases hL49 with ⟨rfl, Fc49_0_0, Fc49_0_1, Fc49_0_2, Fc49_0_3, -⟩
      · skip
        refine own_st (fun t k => st49.trans k) ?_
        show own_Go _ _ _ _ T49 (mkF m 23 #[.val (.ref b2x4_14c5034), .val (.ref b5022), .val (.int (((((0 : Int32) + ((((0 : Int32) + (((0 : Int32) + (1 : Int32)) + (1 : Int32))).toUInt32 >>> ((1 : Int32) &&& 31).toUInt32).toInt32)).toUInt32 >>> ((1 : Int32) &&& 31).toUInt32).toInt32) + (1 : Int32))), .unset] [])
        refine own_st (fun t k => XS.aloadN X49.here hx rfl (hb hby own_d9_23) rfl rfl k) ?_
        refine own_gF X49 hx hZ hown (own_w hw 53 rfl) Via.refl rfl Fc49_0_2 (hb hby own_d9_24) rfl rfl fun T50 X50 e50 => ?_
        refine own_st (fun t k => XS.iloadN X50.here hx rfl (hb hby own_d9_27) rfl k) ?_
        show own_Go _ _ _ _ T50 (mkF m 28 #[.val (.ref b2x4_14c5034), .val (.ref b5022), .val (.int (((((0 : Int32) + ((((0 : Int32) + (((0 : Int32) + (1 : Int32)) + (1 : Int32))).toUInt32 >>> ((1 : Int32) &&& 31).toUInt32).toInt32)).toUInt32 >>> ((1 : Int32) &&& 31).toUInt32).toInt32) + (1 : Int32))), .unset] [(.int (((((0 : Int32) + ((((0 : Int32) + (((0 : Int32) + (1 : Int32)) + (1 : Int32))).toUInt32 >>> ((1 : Int32) &&& 31).toUInt32).toInt32)).toUInt32 >>> ((1 : Int32) &&& 31).toUInt32).toInt32) + (1 : Int32))), (.ref b2x5_18c4c5034)])
        refine own_st (fun t k => XS.aloadN X50.here hx rfl (hb hby own_d9_28) rfl rfl k) ?_
        refine own_gF X50 hx hZ hown (own_w hw 53 rfl) Via.refl e50 Fc49_0_2 (hb hby own_d9_29) rfl rfl fun T51 X51 e51 => ?_
        refine own_st (fun t k => XS.iloadN X51.here hx rfl (hb hby own_d9_32) rfl k) ?_
        show own_Go _ _ _ _ T51 (mkF m 33 #[.val (.ref b2x4_14c5034), .val (.ref b5022), .val (.int (((((0 : Int32) + ((((0 : Int32) + (((0 : Int32) + (1 : Int32)) + (1 : Int32))).toUInt32 >>> ((1 : Int32) &&& 31).toUInt32).toInt32)).toUInt32 >>> ((1 : Int32) &&& 31).toUInt32).toInt32) + (1 : Int32))), .unset] [(.int (((((0 : Int32) + ((((0 : Int32) + (((0 : Int32) + (1 : Int32)) + (1 : Int32))).toUInt32 >>> ((1 : Int32) &&& 31).toUInt32).toInt32)).toUInt32 >>> ((1 : Int32) &&& 31).toUInt32).toInt32) + (1 : Int32))), (.ref b2x5_18c4c5034), (.int (((((0 : Int32) + ((((0 : Int32) + (((0 : Int32) + (1 : Int32)) + (1 : Int32))).toUInt32 >>> ((1 : Int32) &&& 31).toUInt32).toInt32)).toUInt32 >>> ((1 : Int32) &&& 31).toUInt32).toInt32) + (1 : Int32))), (.ref b2x5_18c4c5034)])
        refine own_st (fun t k => XS.iconst X51.here hx rfl (hb hby own_d9_33) (XS.iadd X51.here hx rfl (hb hby own_d9_34) rfl (XS.aloadN X51.here hx rfl (hb hby own_d9_35) rfl rfl k))) ?_
        show own_Go _ _ _ _ T51 (mkF m 36 #[.val (.ref b2x4_14c5034), .val (.ref b5022), .val (.int (((((0 : Int32) + ((((0 : Int32) + (((0 : Int32) + (1 : Int32)) + (1 : Int32))).toUInt32 >>> ((1 : Int32) &&& 31).toUInt32).toInt32)).toUInt32 >>> ((1 : Int32) &&& 31).toUInt32).toInt32) + (1 : Int32))), .unset] [(.ref b2x4_14c5034), (.int ((((((0 : Int32) + ((((0 : Int32) + (((0 : Int32) + (1 : Int32)) + (1 : Int32))).toUInt32 >>> ((1 : Int32) &&& 31).toUInt32).toInt32)).toUInt32 >>> ((1 : Int32) &&& 31).toUInt32).toInt32) + (1 : Int32)) + (1 : Int32))), (.ref b2x5_18c4c5034), (.int (((((0 : Int32) + ((((0 : Int32) + (((0 : Int32) + (1 : Int32)) + (1 : Int32))).toUInt32 >>> ((1 : Int32) &&& 31).toUInt32).toInt32)).toUInt32 >>> ((1 : Int32) &&& 31).toUInt32).toInt32) + (1 : Int32))), (.ref b2x5_18c4c5034)])
        refine own_gF X51 hx hZ hown (own_w hw 78 rfl) (Via.of (own_w hw 79 rfl)) e51 Fc49_0_0 (hb hby own_d9_36) rfl rfl fun T52 X52 e52 => ?_
        refine own_st (fun t k => XS.iloadN X52.here hx rfl (hb hby own_d9_39) rfl (XS.isub X52.here hx rfl (hb hby own_d9_40) rfl k)) ?_
        show own_Go _ _ _ _ T52 (mkF m 41 #[.val (.ref b2x4_14c5034), .val (.ref b5022), .val (.int (((((0 : Int32) + ((((0 : Int32) + (((0 : Int32) + (1 : Int32)) + (1 : Int32))).toUInt32 >>> ((1 : Int32) &&& 31).toUInt32).toInt32)).toUInt32 >>> ((1 : Int32) &&& 31).toUInt32).toInt32) + (1 : Int32))), .unset] [(.int ((((0 : Int32) + (1 : Int32)) + (1 : Int32)) - (((((0 : Int32) + ((((0 : Int32) + (((0 : Int32) + (1 : Int32)) + (1 : Int32))).toUInt32 >>> ((1 : Int32) &&& 31).toUInt32).toInt32)).toUInt32 >>> ((1 : Int32) &&& 31).toUInt32).toInt32) + (1 : Int32)))), (.int ((((((0 : Int32) + ((((0 : Int32) + (((0 : Int32) + (1 : Int32)) + (1 : Int32))).toUInt32 >>> ((1 : Int32) &&& 31).toUInt32).toInt32)).toUInt32 >>> ((1 : Int32) &&& 31).toUInt32).toInt32) + (1 : Int32)) + (1 : Int32))), (.ref b2x5_18c4c5034), (.int (((((0 : Int32) + ((((0 : Int32) + (((0 : Int32) + (1 : Int32)) + (1 : Int32))).toUInt32 >>> ((1 : Int32) &&& 31).toUInt32).toInt32)).toUInt32 >>> ((1 : Int32) &&& 31).toUInt32).toInt32) + (1 : Int32))), (.ref b2x5_18c4c5034)])
        have f54 := ((P2.keep Kq1 nin0).keep Kq49 (ninS (ne_exa P25 P13 (by decide)) nin0))
        have Pd53 := f54.pad (pad_rep [(.ref b5002), (.ref b5012)] .null 1)
        have f55 := (P9.keep K49)
        obtain ⟨T53, h53, L53, X53, e53, N53, Kq53, V53', st53⟩ := cpA X52 hx hZ hown (own_w hw 119 rfl) (own_w hw 122 rfl) (own_w hw 120 rfl) (own_w hw 121 rfl) e52 f54 Pd53 (Or.inr ⟨rfl, rfl, ⟨(own_sto Pd53 OFc5144_0_0 (Ins.self f55)), trivial⟩⟩) (sp := (((((0 : Int32) + ((((0 : Int32) + (((0 : Int32) + (1 : Int32)) + (1 : Int32))).toUInt32 >>> ((1 : Int32) &&& 31).toUInt32).toInt32)).toUInt32 >>> ((1 : Int32) &&& 31).toUInt32).toInt32) + (1 : Int32))) (dp := ((((((0 : Int32) + ((((0 : Int32) + (((0 : Int32) + (1 : Int32)) + (1 : Int32))).toUInt32 >>> ((1 : Int32) &&& 31).toUInt32).toInt32)).toUInt32 >>> ((1 : Int32) &&& 31).toUInt32).toInt32) + (1 : Int32)) + (1 : Int32))) (nn := ((((0 : Int32) + (1 : Int32)) + (1 : Int32)) - (((((0 : Int32) + ((((0 : Int32) + (((0 : Int32) + (1 : Int32)) + (1 : Int32))).toUInt32 >>> ((1 : Int32) &&& 31).toUInt32).toInt32)).toUInt32 >>> ((1 : Int32) &&& 31).toUInt32).toInt32) + (1 : Int32)))) (by decide) (by decide) (by decide) (by decide) (by decide) (us := [(.ref b5012)]) rfl (Nat.le_of_ble_eq_true rfl) N49 g_b2x5_18c4c5034 (g := (mkF m 41 #[.val (.ref b2x4_14c5034), .val (.ref b5022), .val (.int (((((0 : Int32) + ((((0 : Int32) + (((0 : Int32) + (1 : Int32)) + (1 : Int32))).toUInt32 >>> ((1 : Int32) &&& 31).toUInt32).toInt32)).toUInt32 >>> ((1 : Int32) &&& 31).toUInt32).toInt32) + (1 : Int32))), .unset] [(.int ((((0 : Int32) + (1 : Int32)) + (1 : Int32)) - (((((0 : Int32) + ((((0 : Int32) + (((0 : Int32) + (1 : Int32)) + (1 : Int32))).toUInt32 >>> ((1 : Int32) &&& 31).toUInt32).toInt32)).toUInt32 >>> ((1 : Int32) &&& 31).toUInt32).toInt32) + (1 : Int32)))), (.int ((((((0 : Int32) + ((((0 : Int32) + (((0 : Int32) + (1 : Int32)) + (1 : Int32))).toUInt32 >>> ((1 : Int32) &&& 31).toUInt32).toInt32)).toUInt32 >>> ((1 : Int32) &&& 31).toUInt32).toInt32) + (1 : Int32)) + (1 : Int32))), (.ref b2x5_18c4c5034), (.int (((((0 : Int32) + ((((0 : Int32) + (((0 : Int32) + (1 : Int32)) + (1 : Int32))).toUInt32 >>> ((1 : Int32) &&& 31).toUInt32).toInt32)).toUInt32 >>> ((1 : Int32) &&& 31).toUInt32).toInt32) + (1 : Int32))), (.ref b2x5_18c4c5034)])) rfl (by rw [hml]; rfl) rfl (hb hby own_d9_41) (by decide) (W := 0) (by show 2 * 0 + _ ≤ _; exact Nat.le_of_eq rfl) (by decide)
        have V53 : Arv Z h53 b2x5_18c4c5034 k2x5_18c4c5034c2c5070c2c5144 (.object own_s1) (64 : Int32) [(.ref b5002), (.ref b5012), (.ref b5012)] .null := V53'
        refine own_st st53 ?_
        have K53 : Keep h0 h53 [b2x4_14c5034, b2x5_18c4c5034] := K49.trans Kq53 (allS (Or.inl (List.mem_of_getElem? (i := 1) rfl)) all0)
        have Z53 := Nat.le_trans Z49 Kq53.1
        refine own_st (fun t k => XS.aloadN X53.here hx rfl (hb hby own_d9_44) rfl rfl k) ?_
        have f56 := (Fc49_0_2.keep Kq53 (ninS (ne_exa P13 P25 (by decide)) nin0))
        refine own_gF X53 hx hZ hown (own_w hw 53 rfl) Via.refl e53 f56 (hb hby own_d9_45) rfl rfl fun T57 X57 e57 => ?_
        show own_Go _ _ _ _ T57 (mkF m 48 #[.val (.ref b2x4_14c5034), .val (.ref b5022), .val (.int (((((0 : Int32) + ((((0 : Int32) + (((0 : Int32) + (1 : Int32)) + (1 : Int32))).toUInt32 >>> ((1 : Int32) &&& 31).toUInt32).toInt32)).toUInt32 >>> ((1 : Int32) &&& 31).toUInt32).toInt32) + (1 : Int32))), .unset] [(.ref b2x5_18c4c5034)])
        refine own_st (fun t k => XS.iloadN X57.here hx rfl (hb hby own_d9_48) rfl (XS.aloadN X57.here hx rfl (hb hby own_d9_49) rfl rfl k)) ?_
        obtain ⟨c58, A58, q58, S58, M58, H58, G58⟩ := V53
        have f59 := (P5.keep K53)
        obtain ⟨T58, h58, X58, e58, W58, st58⟩ := stR X57 hx hZ e57 A58 (j := (((((0 : Int32) + ((((0 : Int32) + (((0 : Int32) + (1 : Int32)) + (1 : Int32))).toUInt32 >>> ((1 : Int32) &&& 31).toUInt32).toInt32)).toUInt32 >>> ((1 : Int32) &&& 31).toUInt32).toInt32) + (1 : Int32))) (inb_of S58 ⟨by decide, by decide⟩) rfl (Sto.ofV A58 q58 OFc5144_0_0 (Ins.self f59)) (g := (mkF m 50 #[.val (.ref b2x4_14c5034), .val (.ref b5022), .val (.int (((((0 : Int32) + ((((0 : Int32) + (((0 : Int32) + (1 : Int32)) + (1 : Int32))).toUInt32 >>> ((1 : Int32) &&& 31).toUInt32).toInt32)).toUInt32 >>> ((1 : Int32) &&& 31).toUInt32).toInt32) + (1 : Int32))), .unset] [(.ref b5022), (.int (((((0 : Int32) + ((((0 : Int32) + (((0 : Int32) + (1 : Int32)) + (1 : Int32))).toUInt32 >>> ((1 : Int32) &&& 31).toUInt32).toInt32)).toUInt32 >>> ((1 : Int32) &&& 31).toUInt32).toInt32) + (1 : Int32))), (.ref b2x5_18c4c5034)])) rfl rfl (hb hby own_d9_50)
        refine own_st st58 ?_
        have K58 : Keep h0 h58 [b2x4_14c5034, b2x5_18c4c5034] := K53.wr W58 (Or.inl (List.mem_of_getElem? (i := 1) rfl))
        have Z58 := Nat.le_trans Z53 (Keep.of_wr W58).1
        have N58 := Fr.snoc X58 N53 g_b2x5_18c4c5034
        have V58 : Arv Z h58 b2x5_18c4c5034 k2x5_18c4c5034c2c5070c2c5144 (.object own_s1) (64 : Int32) [(.ref b5002), (.ref b5022), (.ref b5012)] .null := Arv.set A58 q58 S58 M58 H58 G58 rfl W58 1 rfl (Nat.le_of_ble_eq_true rfl)
        show own_Go _ _ _ _ T58 (mkF m 51 #[.val (.ref b2x4_14c5034), .val (.ref b5022), .val (.int (((((0 : Int32) + ((((0 : Int32) + (((0 : Int32) + (1 : Int32)) + (1 : Int32))).toUInt32 >>> ((1 : Int32) &&& 31).toUInt32).toInt32)).toUInt32 >>> ((1 : Int32) &&& 31).toUInt32).toInt32) + (1 : Int32))), .unset] [])
        refine own_st (fun t k => XS.aloadN X58.here hx rfl (hb hby own_d9_51) rfl rfl (XS.dup X58.here hx rfl (hb hby own_d9_52) rfl rfl k)) ?_
        have f60 := ((Fc49_0_0.keep Kq53 (ninS (ne_exa P13 P25 (by decide)) nin0)).other W58 (Or.inl (ne_exa P13 P25 (by decide))))
        refine own_gF X58 hx hZ hown (own_w hw 78 rfl) (Via.of (own_w hw 79 rfl)) e58 f60 (hb hby own_d9_53) rfl rfl fun T61 X61 e61 => ?_
        show own_Go _ _ _ _ T61 (mkF m 56 #[.val (.ref b2x4_14c5034), .val (.ref b5022), .val (.int (((((0 : Int32) + ((((0 : Int32) + (((0 : Int32) + (1 : Int32)) + (1 : Int32))).toUInt32 >>> ((1 : Int32) &&& 31).toUInt32).toInt32)).toUInt32 >>> ((1 : Int32) &&& 31).toUInt32).toInt32) + (1 : Int32))), .unset] [(.int (((0 : Int32) + (1 : Int32)) + (1 : Int32))), (.ref b2x4_14c5034)])
        refine own_st (fun t k => XS.iconst X61.here hx rfl (hb hby own_d9_56) (XS.iadd X61.here hx rfl (hb hby own_d9_57) rfl k)) ?_
        have f62 := (P13.keep K58)
        refine own_pF X61 hx hZ hown (own_w hw 78 rfl) (Via.of (own_w hw 79 rfl)) e61 f60 f62 (Or.inl (own_w hw 80 rfl)) (own_w hw 36 rfl) (ty := .int) (by decide) (hb hby own_d9_58) rfl rfl rfl rfl fun T63 h63 X63 e63 W63 => ?_
        have K63 : Keep h0 h63 [b2x4_14c5034, b2x5_18c4c5034] := K58.wr W63 (Or.inl (List.mem_of_getElem? (i := 0) rfl))
        have Z63 := Nat.le_trans Z58 (Keep.of_wr W63).1
        have N63 := Fr.snoc X63 N58 g_b2x4_14c5034
        have F63 := f60.same W63
        show own_Go _ _ _ _ T63 (mkF m 61 #[.val (.ref b2x4_14c5034), .val (.ref b5022), .val (.int (((((0 : Int32) + ((((0 : Int32) + (((0 : Int32) + (1 : Int32)) + (1 : Int32))).toUInt32 >>> ((1 : Int32) &&& 31).toUInt32).toInt32)).toUInt32 >>> ((1 : Int32) &&& 31).toUInt32).toInt32) + (1 : Int32))), .unset] [])
        refine own_st (fun t k => XS.aconstNull X63.here hx rfl (hb hby own_d9_61) k) ?_
        have f64 := ((f56.other W58 (Or.inl (ne_exa P13 P25 (by decide)))).other W63 (Or.inr (slot_ne (Or.inr (own_w hw 54 rfl)) (Or.inl (own_w hw 80 rfl)) (by decide) (t := (.array (.object own_s1))) (t' := .int) (by decide) (by decide))))
        have f65 := (((Fc49_0_1.keep Kq53 (ninS (ne_exa P13 P25 (by decide)) nin0)).other W58 (Or.inl (ne_exa P13 P25 (by decide)))).other W63 (Or.inr (slot_ne (Or.inl (own_w hw 51 rfl)) (Or.inl (own_w hw 80 rfl)) (by decide) (t := (.object own_s2)) (t' := .int) (by decide) (by decide))))
        have f66 := (((Fc49_0_3.keep Kq53 (ninS (ne_exa P13 P25 (by decide)) nin0)).other W58 (Or.inl (ne_exa P13 P25 (by decide)))).other W63 (Or.inr (slot_ne (Or.inl (own_w hw 94 rfl)) (Or.inl (own_w hw 80 rfl)) (by decide) (t := .boolean) (t' := .int) (by decide) (by decide))))
        have f67 := (V58.other W63 (ne_exa P25 P13 (by decide)))
        exact own_retA X63 hx hlk hret rfl rfl (hb hby own_d9_62) (by decide) (by decide) e63 ⟨N63, K63, (Or.inr (Or.inl ⟨_, rfl, hq1_1_0, hq1_1_1, F63, f64, f65, f66, f67, OFc5144_0_0, trivial⟩))⟩
  · skip
    refine own_st (fun t k => XS.istoreN X1.here hx rfl (hb hby own_d9_5) rfl (l' := #[.val (.ref b2x4_14c5034), .val (.ref b5022), .val (.int (0 : Int32)), .unset]) rfl k) ?_
    show own_Go _ _ _ _ T1 (mkF m 6 #[.val (.ref b2x4_14c5034), .val (.ref b5022), .val (.int (0 : Int32)), .unset] [])
    refine own_st (fun t k => XS.aloadN X1.here hx rfl (hb hby own_d9_6) rfl rfl k) ?_
    have f68 := (P0.keep Kq1 nin0)
    refine own_gF X1 hx hZ hown (own_w hw 78 rfl) (Via.of (own_w hw 79 rfl)) rfl f68 (hb hby own_d9_7) rfl rfl fun T69 X69 e69 => ?_
    refine own_st (fun t k => XS.bipush X69.here hx rfl (hb hby own_d9_10) k) ?_
    show own_Go _ _ _ _ T69 (mkF m 12 #[.val (.ref b2x4_14c5034), .val (.ref b5022), .val (.int (0 : Int32)), .unset] [(.int (64 : Int32)), (.int (((0 : Int32) + (1 : Int32)) + (1 : Int32)))])
    refine own_st (fun t k => XS.icmpNo X69.here hx rfl (hb hby own_d9_12) rfl (tlt (by decide : (((0 : Int32) + (1 : Int32)) + (1 : Int32)) < (64 : Int32))).2.1 (XS.aloadN X69.here hx rfl (hb hby own_d9_15) rfl rfl (XS.aloadN X69.here hx rfl (hb hby own_d9_16) rfl rfl k))) ?_
    show own_Go _ _ _ _ T69 (mkF m 17 #[.val (.ref b2x4_14c5034), .val (.ref b5022), .val (.int (0 : Int32)), .unset] [(.ref b5022), (.ref b2x4_14c5034)])
    have f70 := (P14.keep Kq1 nin0)
    have f72 := (P5.keep Kq1)
    refine own_cV (a := b5022) X69 hx hZ hown (own_w hw 81 rfl) (own_w hw 82 rfl) (own_w hw 84 rfl) (own_w hw 83 rfl) (own_w hw 6 rfl) (own_w hw 85 rfl) [] [(.ref b2x4_14c5034)] f72 (own_rm11 l Z a0 hw [] b5022 w_NONE T1.heap n0 Z1 f70) 1 (hb hby own_d9_17) (by rw [hml]; rfl) (lenOf own_pd5 rfl) e69 rfl rfl (by show 2 * 0 + _ ≤ _; exact Nat.le_of_eq rfl) (by decide) (by decide) (by decide) (by decide) (by decide) fun v71 T71 L71 X71 hQ71 => ?_
    obtain ⟨N71q, e71, hL71⟩ := hQ71
    have N71 := Fr.app N1 N71q
    rcases hL71 with ⟨rfl, -⟩
    · skip
      have f73 := (P15.keep Kq1 nin0)
      have f74 := (P16.keep Kq1 nin0)
      have f75 := (P17.keep Kq1 nin0)
      have f76 := (P19.keep Kq1 nin0)
      have f77 := (P20.keep Kq1 nin0)
      have f78 := (P21.keep Kq1)
      have f79 := (P22.keep Kq1)
      have f80 := (P13.keep Kq1)
      have f81 := (P1.keep Kq1 nin0)
      have f82 := (P23.keep Kq1 nin0)
      obtain ⟨cq83, kq83, q83a, q83b, q83c⟩ := isOf hZ e71 f80
      obtain ⟨_, _, ⟨T83, L83, k83, n83⟩, -, X83, ⟨Lc83, hQ83, l83, y83, z83⟩, st83⟩ := X71.virtualBackUp hx (owner := own_s0) (x := own_y8) (y := own_y0) hown (mvT hZ (own_w hw 86 rfl)) (mvT hZ (own_w hw 87 rfl)) (mvT hZ (own_w hw 88 rfl)) (by decide) (mvT hZ (own_w hw 90 rfl)) (mvT hZ (own_w hw 89 rfl)) (backOf (W := 0) (own_rm12_127 l Z a0 hw [] b2x4_14c5034 w_NONE b6x14_69c4c13c16c2c5121 b3x14_69c4c13c16c2c5121 k3x14_69c4c13c16c2c5121 w_NONE_names k_w_NONE_names b2x5_18c4c5034 T1.heap n0 Z1 f68 f73 f74 f75 OFc5121_0_9 f76 f77 f78 f79 f80 g_b2x4_14c5034 f81 f82) hZ (own_w hw 91 rfl) (own_w hw 44 rfl) (by decide) (by decide)) q83a q83c (g := (mkF m 20 #[.val (.ref b2x4_14c5034), .val (.ref b5022), .val (.int (0 : Int32)), .unset] [(.ref w_NONE), (.ref b2x4_14c5034)])) rfl (by rw [hml]; rfl) (Steps.refl _) (argsL := [(.ref w_NONE)]) (rest := []) (lenOf own_pd10 rfl) rfl (by show 2 * 0 + _ ≤ _; exact Nat.le_of_eq rfl) (hb hby own_d9_20) (fun _ _ => ⟨rfl, e71, (by decide : 0 + 0 ≤ _), (by decide : 0 + 0 ≤ _)⟩)
      dsimp only [Pt.U, Pt.locs, Pt.cells, Pt.slots] at X83 l83 y83 z83 st83 hQ83
      subst l83 y83 z83
      obtain ⟨N83q, Kq83, hL83⟩ := hQ83
      have N83 := Fr.app N71 N83q
      have K83 : Keep h0 T83.heap [b2x4_14c5034, b2x5_18c4c5034] := K1.trans Kq83 (allS (Or.inl (List.mem_of_getElem? (i := 0) rfl)) all0)
      have Z83 := Nat.le_trans Z1 Kq83.1
      rcases hL83 with ⟨rfl, Fc83_0_0, Fc83_0_1, Fc83_0_2, Fc83_0_3, -⟩
      · skip
        refine own_st (fun t k => st83.trans k) ?_
        refine own_st (fun t k => XS.aloadN X83.here hx rfl (hb hby own_d9_23) rfl rfl k) ?_
        show own_Go _ _ _ _ T83 (mkF m 24 #[.val (.ref b2x4_14c5034), .val (.ref b5022), .val (.int (0 : Int32)), .unset] [(.ref b2x4_14c5034)])
        refine own_gF X83 hx hZ hown (own_w hw 53 rfl) Via.refl rfl Fc83_0_2 (hb hby own_d9_24) rfl rfl fun T84 X84 e84 => ?_
        refine own_st (fun t k => XS.iloadN X84.here hx rfl (hb hby own_d9_27) rfl (XS.aloadN X84.here hx rfl (hb hby own_d9_28) rfl rfl k)) ?_
        show own_Go _ _ _ _ T84 (mkF m 29 #[.val (.ref b2x4_14c5034), .val (.ref b5022), .val (.int (0 : Int32)), .unset] [(.ref b2x4_14c5034), (.int (0 : Int32)), (.ref b2x5_18c4c5034)])
        refine own_gF X84 hx hZ hown (own_w hw 53 rfl) Via.refl e84 Fc83_0_2 (hb hby own_d9_29) rfl rfl fun T85 X85 e85 => ?_
        refine own_st (fun t k => XS.iloadN X85.here hx rfl (hb hby own_d9_32) rfl (XS.iconst X85.here hx rfl (hb hby own_d9_33) k)) ?_
        show own_Go _ _ _ _ T85 (mkF m 34 #[.val (.ref b2x4_14c5034), .val (.ref b5022), .val (.int (0 : Int32)), .unset] [(.int (1 : Int32)), (.int (0 : Int32)), (.ref b2x5_18c4c5034), (.int (0 : Int32)), (.ref b2x5_18c4c5034)])
        refine own_st (fun t k => XS.iadd X85.here hx rfl (hb hby own_d9_34) rfl (XS.aloadN X85.here hx rfl (hb hby own_d9_35) rfl rfl k)) ?_
        refine own_gF X85 hx hZ hown (own_w hw 78 rfl) (Via.of (own_w hw 79 rfl)) e85 Fc83_0_0 (hb hby own_d9_36) rfl rfl fun T86 X86 e86 => ?_
        show own_Go _ _ _ _ T86 (mkF m 39 #[.val (.ref b2x4_14c5034), .val (.ref b5022), .val (.int (0 : Int32)), .unset] [(.int (((0 : Int32) + (1 : Int32)) + (1 : Int32))), (.int ((0 : Int32) + (1 : Int32))), (.ref b2x5_18c4c5034), (.int (0 : Int32)), (.ref b2x5_18c4c5034)])
        refine own_st (fun t k => XS.iloadN X86.here hx rfl (hb hby own_d9_39) rfl (XS.isub X86.here hx rfl (hb hby own_d9_40) rfl k)) ?_
        have f88 := ((P2.keep Kq1 nin0).keep Kq83 (ninS (ne_exa P25 P13 (by decide)) nin0))
        have Pd87 := f88.pad (pad_rep [(.ref b5002), (.ref b5012)] .null 1)
        have f89 := (P9.keep K83)
        have f90 := (P12.keep K83)
        obtain ⟨T87, h87, L87, X87, e87, N87, Kq87, V87', st87⟩ := cpA X86 hx hZ hown (own_w hw 119 rfl) (own_w hw 122 rfl) (own_w hw 120 rfl) (own_w hw 121 rfl) e86 f88 Pd87 (Or.inr ⟨rfl, rfl, ⟨(own_sto Pd87 OFc5144_0_0 (Ins.self f90)), ⟨(own_sto Pd87 OFc5144_0_0 (Ins.self f89)), trivial⟩⟩⟩) (sp := (0 : Int32)) (dp := ((0 : Int32) + (1 : Int32))) (nn := ((((0 : Int32) + (1 : Int32)) + (1 : Int32)) - (0 : Int32))) (by decide) (by decide) (by decide) (by decide) (by decide) (us := [(.ref b5002), (.ref b5012)]) rfl (Nat.le_of_ble_eq_true rfl) N83 g_b2x5_18c4c5034 (g := (mkF m 41 #[.val (.ref b2x4_14c5034), .val (.ref b5022), .val (.int (0 : Int32)), .unset] [(.int ((((0 : Int32) + (1 : Int32)) + (1 : Int32)) - (0 : Int32))), (.int ((0 : Int32) + (1 : Int32))), (.ref b2x5_18c4c5034), (.int (0 : Int32)), (.ref b2x5_18c4c5034)])) rfl (by rw [hml]; rfl) rfl (hb hby own_d9_41) (by decide) (W := 0) (by show 2 * 0 + _ ≤ _; exact Nat.le_of_eq rfl) (by decide)
        have V87 : Arv Z h87 b2x5_18c4c5034 k2x5_18c4c5034c2c5070c2c5144 (.object own_s1) (64 : Int32) [(.ref b5002), (.ref b5002), (.ref b5012)] .null := V87'
        refine own_st st87 ?_
        have K87 : Keep h0 h87 [b2x4_14c5034, b2x5_18c4c5034] := K83.trans Kq87 (allS (Or.inl (List.mem_of_getElem? (i := 1) rfl)) all0)
        have Z87 := Nat.le_trans Z83 Kq87.1
        show own_Go _ _ _ _ T87 (mkF m 44 #[.val (.ref b2x4_14c5034), .val (.ref b5022), .val (.int (0 : Int32)), .unset] [])
        refine own_st (fun t k => XS.aloadN X87.here hx rfl (hb hby own_d9_44) rfl rfl k) ?_
        have f91 := (Fc83_0_2.keep Kq87 (ninS (ne_exa P13 P25 (by decide)) nin0))
        refine own_gF X87 hx hZ hown (own_w hw 53 rfl) Via.refl e87 f91 (hb hby own_d9_45) rfl rfl fun T92 X92 e92 => ?_
        refine own_st (fun t k => XS.iloadN X92.here hx rfl (hb hby own_d9_48) rfl k) ?_
        show own_Go _ _ _ _ T92 (mkF m 49 #[.val (.ref b2x4_14c5034), .val (.ref b5022), .val (.int (0 : Int32)), .unset] [(.int (0 : Int32)), (.ref b2x5_18c4c5034)])
        refine own_st (fun t k => XS.aloadN X92.here hx rfl (hb hby own_d9_49) rfl rfl k) ?_
        obtain ⟨c93, A93, q93, S93, M93, H93, G93⟩ := V87
        have f94 := (P5.keep K87)
        obtain ⟨T93, h93, X93, e93, W93, st93⟩ := stR X92 hx hZ e92 A93 (j := (0 : Int32)) (inb_of S93 ⟨by decide, by decide⟩) rfl (Sto.ofV A93 q93 OFc5144_0_0 (Ins.self f94)) (g := (mkF m 50 #[.val (.ref b2x4_14c5034), .val (.ref b5022), .val (.int (0 : Int32)), .unset] [(.ref b5022), (.int (0 : Int32)), (.ref b2x5_18c4c5034)])) rfl rfl (hb hby own_d9_50)
        refine own_st st93 ?_
        have K93 : Keep h0 h93 [b2x4_14c5034, b2x5_18c4c5034] := K87.wr W93 (Or.inl (List.mem_of_getElem? (i := 1) rfl))
        have Z93 := Nat.le_trans Z87 (Keep.of_wr W93).1
        have N93 := Fr.snoc X93 N87 g_b2x5_18c4c5034
        have V93 : Arv Z h93 b2x5_18c4c5034 k2x5_18c4c5034c2c5070c2c5144 (.object own_s1) (64 : Int32) [(.ref b5022), (.ref b5002), (.ref b5012)] .null := Arv.set A93 q93 S93 M93 H93 G93 rfl W93 0 rfl (Nat.le_of_ble_eq_true rfl)
        refine own_st (fun t k => XS.aloadN X93.here hx rfl (hb hby own_d9_51) rfl rfl k) ?_
        show own_Go _ _ _ _ T93 (mkF m 52 #[.val (.ref b2x4_14c5034), .val (.ref b5022), .val (.int (0 : Int32)), .unset] [(.ref b2x4_14c5034)])
        refine own_st (fun t k => XS.dup X93.here hx rfl (hb hby own_d9_52) rfl rfl k) ?_
        have f95 := ((Fc83_0_0.keep Kq87 (ninS (ne_exa P13 P25 (by decide)) nin0)).other W93 (Or.inl (ne_exa P13 P25 (by decide))))
        refine own_gF X93 hx hZ hown (own_w hw 78 rfl) (Via.of (own_w hw 79 rfl)) e93 f95 (hb hby own_d9_53) rfl rfl fun T96 X96 e96 => ?_
        refine own_st (fun t k => XS.iconst X96.here hx rfl (hb hby own_d9_56) k) ?_
        show own_Go _ _ _ _ T96 (mkF m 57 #[.val (.ref b2x4_14c5034), .val (.ref b5022), .val (.int (0 : Int32)), .unset] [(.int (1 : Int32)), (.int (((0 : Int32) + (1 : Int32)) + (1 : Int32))), (.ref b2x4_14c5034)])
        refine own_st (fun t k => XS.iadd X96.here hx rfl (hb hby own_d9_57) rfl k) ?_
        have f97 := (P13.keep K93)
        refine own_pF X96 hx hZ hown (own_w hw 78 rfl) (Via.of (own_w hw 79 rfl)) e96 f95 f97 (Or.inl (own_w hw 80 rfl)) (own_w hw 36 rfl) (ty := .int) (by decide) (hb hby own_d9_58) rfl rfl rfl rfl fun T98 h98 X98 e98 W98 => ?_
        have K98 : Keep h0 h98 [b2x4_14c5034, b2x5_18c4c5034] := K93.wr W98 (Or.inl (List.mem_of_getElem? (i := 0) rfl))
        have Z98 := Nat.le_trans Z93 (Keep.of_wr W98).1
        have N98 := Fr.snoc X98 N93 g_b2x4_14c5034
        have F98 := f95.same W98
        refine own_st (fun t k => XS.aconstNull X98.here hx rfl (hb hby own_d9_61) k) ?_
        show own_Go _ _ _ _ T98 (mkF m 62 #[.val (.ref b2x4_14c5034), .val (.ref b5022), .val (.int (0 : Int32)), .unset] [.null])
        have f99 := ((f91.other W93 (Or.inl (ne_exa P13 P25 (by decide)))).other W98 (Or.inr (slot_ne (Or.inr (own_w hw 54 rfl)) (Or.inl (own_w hw 80 rfl)) (by decide) (t := (.array (.object own_s1))) (t' := .int) (by decide) (by decide))))
        have f100 := (((Fc83_0_1.keep Kq87 (ninS (ne_exa P13 P25 (by decide)) nin0)).other W93 (Or.inl (ne_exa P13 P25 (by decide)))).other W98 (Or.inr (slot_ne (Or.inl (own_w hw 51 rfl)) (Or.inl (own_w hw 80 rfl)) (by decide) (t := (.object own_s2)) (t' := .int) (by decide) (by decide))))
        have f101 := (((Fc83_0_3.keep Kq87 (ninS (ne_exa P13 P25 (by decide)) nin0)).other W93 (Or.inl (ne_exa P13 P25 (by decide)))).other W98 (Or.inr (slot_ne (Or.inl (own_w hw 94 rfl)) (Or.inl (own_w hw 80 rfl)) (by decide) (t := .boolean) (t' := .int) (by decide) (by decide))))
        have f102 := (V93.other W98 (ne_exa P25 P13 (by decide)))
        exact own_retA X98 hx hlk hret rfl rfl (hb hby own_d9_62) (by decide) (by decide) e98 ⟨N98, K98, (Or.inr (Or.inr ⟨_, rfl, hq1_2_0, hq1_2_1, F98, f99, f100, f101, f102, OFc5144_0_0, trivial⟩))⟩
def own_Q8_119 (Z : State) (b5032 : Addr) (b5022 : Addr) (b2x4_14c5034 : Addr) (b2x5_18c4c5034 : Addr) (k2x5_18c4c5034c2c5070c2c5144 : ClassId) (b5002 : Addr) (b5012 : Addr) (jp2 : Int64) (d2 : Int64) (jp1 : Int64) (d1 : Int64) (jp0 : Int64) (d0 : Int64) (w_NONE : Addr) (b6x14_69c4c13c16c2c5121 : Addr) (b3x14_69c4c13c16c2c5121 : Addr) (k3x14_69c4c13c16c2c5121 : ClassId) (w_NONE_names : Addr) (k_w_NONE_names : ClassId) (h0 : Heap) (n0 : Nat) (v : Option Value) (h : Heap) (L : List Loc) : Prop := Fr n0 L ∧ Keep h0 h [b2x5_18c4c5034, b2x4_14c5034, b5032] ∧ ((∃ k2x5_18c4c5034c2c5070c2c5144c2 : ClassId, v = none ∧ (own_lt jp1 d1 jp2 d2) ∧ Arv Z h b2x5_18c4c5034 k2x5_18c4c5034c2c5070c2c5144c2 (.object own_s1) (64 : Int32) [(.ref b5002), (.ref b5012), (.ref b5022)] .null ∧ Ovr Z k2x5_18c4c5034c2c5070c2c5144c2 own_s1 ∧ Fld Z h b2x4_14c5034 own_s0 "count" "I" (.int ((((0 : Int32) + (1 : Int32)) + (1 : Int32)) + (1 : Int32))) ∧ Fld Z h b2x4_14c5034 own_s4 "items" own_s7 (.ref b2x5_18c4c5034) ∧ Fld Z h b2x4_14c5034 own_s0 "least" own_s6 (.ref b6x14_69c4c13c16c2c5121) ∧ Fld Z h b2x4_14c5034 own_s0 "stale" "Z" (.int (0 : Int32)) ∧ Fld Z h b5032 own_s5 "root" "Lcom/example/lonborg/lonborg/ItemTree$Node;" (.ref b2x4_14c5034) ∧ Fld Z h b5032 own_s5 "size" "J" (.long ((((0 : Int64) + (1 : Int64)) + (1 : Int64)) + (1 : Int64))) ∧ True) ∨ (∃ k2x5_18c4c5034c2c5070c2c5144c2 : ClassId, v = none ∧ (¬ (own_lt jp1 d1 jp2 d2)) ∧ (own_lt jp0 d0 jp2 d2) ∧ Arv Z h b2x5_18c4c5034 k2x5_18c4c5034c2c5070c2c5144c2 (.object own_s1) (64 : Int32) [(.ref b5002), (.ref b5022), (.ref b5012)] .null ∧ Ovr Z k2x5_18c4c5034c2c5070c2c5144c2 own_s1 ∧ Fld Z h b2x4_14c5034 own_s0 "count" "I" (.int ((((0 : Int32) + (1 : Int32)) + (1 : Int32)) + (1 : Int32))) ∧ Fld Z h b2x4_14c5034 own_s4 "items" own_s7 (.ref b2x5_18c4c5034) ∧ Fld Z h b2x4_14c5034 own_s0 "least" own_s6 (.ref b6x14_69c4c13c16c2c5121) ∧ Fld Z h b2x4_14c5034 own_s0 "stale" "Z" (.int (0 : Int32)) ∧ Fld Z h b5032 own_s5 "root" "Lcom/example/lonborg/lonborg/ItemTree$Node;" (.ref b2x4_14c5034) ∧ Fld Z h b5032 own_s5 "size" "J" (.long ((((0 : Int64) + (1 : Int64)) + (1 : Int64)) + (1 : Int64))) ∧ True) ∨ (∃ k2x5_18c4c5034c2c5070c2c5144c2 : ClassId, v = none ∧ (¬ (own_lt jp1 d1 jp2 d2)) ∧ (¬ (own_lt jp0 d0 jp2 d2)) ∧ Arv Z h b2x5_18c4c5034 k2x5_18c4c5034c2c5070c2c5144c2 (.object own_s1) (64 : Int32) [(.ref b5022), (.ref b5002), (.ref b5012)] .null ∧ Ovr Z k2x5_18c4c5034c2c5070c2c5144c2 own_s1 ∧ Fld Z h b2x4_14c5034 own_s0 "count" "I" (.int ((((0 : Int32) + (1 : Int32)) + (1 : Int32)) + (1 : Int32))) ∧ Fld Z h b2x4_14c5034 own_s4 "items" own_s7 (.ref b2x5_18c4c5034) ∧ Fld Z h b2x4_14c5034 own_s0 "least" own_s6 (.ref b6x14_69c4c13c16c2c5121) ∧ Fld Z h b2x4_14c5034 own_s0 "stale" "Z" (.int (0 : Int32)) ∧ Fld Z h b5032 own_s5 "root" "Lcom/example/lonborg/lonborg/ItemTree$Node;" (.ref b2x4_14c5034) ∧ Fld Z h b5032 own_s5 "size" "J" (.long ((((0 : Int64) + (1 : Int64)) + (1 : Int64)) + (1 : Int64))) ∧ True))
set_option maxRecDepth 65536 in
set_option maxHeartbeats 40000000 in
theorem own_rm8_119 (l : Launch) (Z : State) (a0 : Array Value) (hw : ∀ d ∈ tables_1, d.before a0 Z = true) (ws : List Jvm.Cond) (b5032 : Addr) (b5022 : Addr) (b2x4_14c5034 : Addr) (b2x5_18c4c5034 : Addr) (k2x5_18c4c5034c2c5070c2c5144 : ClassId) (b5002 : Addr) (b5012 : Addr) (jp2 : Int64) (d2 : Int64) (jp1 : Int64) (d1 : Int64) (jp0 : Int64) (d0 : Int64) (w_NONE : Addr) (b6x14_69c4c13c16c2c5121 : Addr) (b3x14_69c4c13c16c2c5121 : Addr) (k3x14_69c4c13c16c2c5121 : ClassId) (w_NONE_names : Addr) (k_w_NONE_names : ClassId) (h0 : Heap) (n0 : Nat) (Z0 : n0 ≤ h0.size) (P0 : Fld Z h0 b5032 own_s5 "root" "Lcom/example/lonborg/lonborg/ItemTree$Node;" (.ref b2x4_14c5034)) (P1 : Fld Z h0 b2x4_14c5034 own_s0 "count" "I" (.int (((0 : Int32) + (1 : Int32)) + (1 : Int32)))) (P2 : Fld Z h0 b2x4_14c5034 own_s4 "items" own_s7 (.ref b2x5_18c4c5034)) (P3 : Arv Z h0 b2x5_18c4c5034 k2x5_18c4c5034c2c5070c2c5144 (.object own_s1) (64 : Int32) [(.ref b5002), (.ref b5012)] .null) (OFc5144_0_0 : Ovr Z k2x5_18c4c5034c2c5070c2c5144 own_s1) (P5 : Fld Z h0 b5022 own_s1 "priority" "J" (.long jp2)) (P6 : Exa Z h0 b5022 own_s1) (P7 : Fld Z h0 b5022 own_s1 "id" "J" (.long d2)) (P8 : Fld Z h0 b5012 own_s1 "priority" "J" (.long jp1)) (P9 : Fld Z h0 b5012 own_s1 "id" "J" (.long d1)) (P10 : Exa Z h0 b5012 own_s1) (P11 : Fld Z h0 b5002 own_s1 "priority" "J" (.long jp0)) (P12 : Fld Z h0 b5002 own_s1 "id" "J" (.long d0)) (P13 : Exa Z h0 b5002 own_s1) (P14 : Exa Z h0 b2x4_14c5034 own_s4) (P15 : Fld Z h0 b5022 own_s1 "needs" "Lcom/example/lonborg/lonborg/Resources;" (.ref w_NONE)) (P16 : Fld Z h0 b2x4_14c5034 own_s0 "least" own_s6 (.ref b6x14_69c4c13c16c2c5121)) (P17 : Fld Z h0 b6x14_69c4c13c16c2c5121 own_s2 "parts" own_s8 (.ref b3x14_69c4c13c16c2c5121)) (P18 : Arv Z h0 b3x14_69c4c13c16c2c5121 k3x14_69c4c13c16c2c5121 (.object own_s3) ((0 : Int32) + (1 : Int32)) [(.ref w_NONE)] .null) (OFc5121_0_9 : Ovr Z k3x14_69c4c13c16c2c5121 own_s3) (P20 : Fld Z h0 w_NONE own_s3 "names" "[Ljava/lang/String;" (.ref w_NONE_names)) (P21 : Arv Z h0 w_NONE_names k_w_NONE_names (.object "java/lang/String") (0 : Int32) [] .null) (P22 : Exa Z h0 w_NONE own_s3) (P23 : Exa Z h0 b6x14_69c4c13c16c2c5121 own_s2) (P24 : Fld Z h0 b2x4_14c5034 own_s0 "stale" "Z" (.int (0 : Int32))) (P25 : Exa Z h0 b2x5_18c4c5034 own_s7) (g_b2x4_14c5034 : n0 ≤ b2x4_14c5034) (g_b2x5_18c4c5034 : n0 ≤ b2x5_18c4c5034) (P28 : Fld Z h0 b5032 own_s5 "size" "J" (.long (((0 : Int64) + (1 : Int64)) + (1 : Int64)))) (P29 : Exa Z h0 b5032 own_s5) (g_b5032 : n0 ≤ b5032) :
    MetFree l own_y3 (head1 (Jvm.Cond.code own_y3 prog_2_method_2_code 3 none :: ws) ({ frames := 4, cells := 0, slots := 0, locals := 64 } : Room)) (fun a U => a = #[(.ref b5032), (.ref b5022)] ∧ Z.Warmed39 U.vm ∧ U.heap = h0) (fun _ _ _ _ _ => True) (fun _ U o U' => ∃ v L, o = .returned v ∧ own_Q8_119 Z b5032 b5022 b2x4_14c5034 b2x5_18c4c5034 k2x5_18c4c5034c2c5070c2c5144 b5002 b5012 jp2 d2 jp1 d1 jp0 d0 w_NONE b6x14_69c4c13c16c2c5121 b3x14_69c4c13c16c2c5121 k3x14_69c4c13c16c2c5121 w_NONE_names k_w_NONE_names h0 n0 v U'.heap L ∧ FrameEnd U o U' L ({ frames := 4, cells := 0, slots := 0, locals := 64 } : Room).cells ({ frames := 4, cells := 0, slots := 0, locals := 64 } : Room).slots) := by
  refine MetFree.of_bodySF (plainFor_of_name own_pn3) hisR ?_
  intro p e s m args below meth c s₁ Bd hml0 hP hK
  obtain ⟨rfl, hZ, hh⟩ := hP
  have hx := Bd.exec
  have hlk := Bd.notSynchronized
  have hret := Bd.returns
  have hby := Bd.bytes
  have hml : c.maxLocals = 3 := hml0
  have hown : s.vm.findClass own_s5 = some m.cls := findClass_of_methodNamed Bd.named
  have hnm := (name_of_methodNamed Bd.named Bd.method).1
  have X0 : Stand p l e ({ frames := 4, cells := 0, slots := 0, locals := 64 } : Room) s m #[(.ref b5032), (.ref b5022)] below meth c s₁ [] 0 0 := Stand.of_body Bd
  have e0 : s₁.heap = h0 := by rw [← hh, Bd.state]; rfl
  have N0 := Fr.nil n0
  refine own_open (Q := own_Q8_119 Z b5032 b5022 b2x4_14c5034 b2x5_18c4c5034 k2x5_18c4c5034c2c5070c2c5144 b5002 b5012 jp2 d2 jp1 d1 jp0 d0 w_NONE b6x14_69c4c13c16c2c5121 b3x14_69c4c13c16c2c5121 k3x14_69c4c13c16c2c5121 w_NONE_names k_w_NONE_names h0 n0) (own_ef8 m b5032 b5022) ?_
  refine own_st (fun t k => XS.aloadN X0.here hx rfl (hb hby own_d8_0) rfl rfl k) ?_
  refine own_gF X0 hx hZ hown (own_w hw 55 rfl) Via.refl e0 P0 (hb hby own_d8_1) rfl rfl fun T1 X1 e1 => ?_
  show own_Go _ _ _ _ T1 (mkF m 4 #[.val (.ref b5032), .val (.ref b5022), .unset] [(.ref b2x4_14c5034)])
  refine own_st (fun t k => XS.aloadN X1.here hx rfl (hb hby own_d8_4) rfl rfl k) ?_
  obtain ⟨cq2, kq2, q2a, q2b, q2c⟩ := isOf hZ e1 P14
  obtain ⟨_, _, ⟨T2, L2, k2, n2⟩, -, X2, ⟨Lc2, hQ2, l2, y2, z2⟩, st2⟩ := X1.virtualBack hx (y := (⟨own_s0, "add", own_s9⟩ : MethodName)) (z := own_y6) hown (mvT hZ (own_w hw 69 rfl)) (mvT hZ (own_w hw 70 rfl)) (own_nf (args := #[]) (mvT hZ (own_w hw 90 rfl)) rfl) (mvT hZ (own_w hw 71 rfl)) (mvT hZ (own_w hw 72 rfl)) (by decide) (backOf (W := 0) (own_rm9_124 l Z a0 hw [] b2x4_14c5034 b5022 b2x5_18c4c5034 k2x5_18c4c5034c2c5070c2c5144 b5002 b5012 jp2 d2 jp1 d1 jp0 d0 w_NONE b6x14_69c4c13c16c2c5121 b3x14_69c4c13c16c2c5121 k3x14_69c4c13c16c2c5121 w_NONE_names k_w_NONE_names h0 n0 Z0 P1 P2 P3 OFc5144_0_0 P5 P6 P7 P8 P9 P10 P11 P12 P13 P14 P15 P16 P17 P18 OFc5121_0_9 P20 P21 P22 P23 P24 g_b2x4_14c5034 P25 g_b2x5_18c4c5034) hZ (own_w hw 73 rfl) (own_w hw 37 rfl) (by decide) (by decide)) q2a q2c (g := (mkF m 5 #[.val (.ref b5032), .val (.ref b5022), .unset] [(.ref b5022), (.ref b2x4_14c5034)])) rfl (by rw [hml]; rfl) (Steps.refl _) (argsL := [(.ref b5022)]) (rest := []) (lenOf own_pd11 rfl) rfl (by show 2 * 0 + _ ≤ _; exact Nat.le_of_eq rfl) (hb hby own_d8_5) (fun _ _ => ⟨rfl, e1, (by decide : 0 + 0 ≤ _), (by decide : 0 + 0 ≤ _)⟩)
  dsimp only [Pt.U, Pt.locs, Pt.cells, Pt.slots] at X2 l2 y2 z2 st2 hQ2
  subst l2 y2 z2
  obtain ⟨N2q, Kq2, hL2⟩ := hQ2
  have N2 := Fr.app N0 N2q
  have K2 : Keep h0 T2.heap [b2x5_18c4c5034, b2x4_14c5034, b5032] := (Keep.refl h0 [b2x5_18c4c5034, b2x4_14c5034, b5032]).trans Kq2 (allS (Or.inl (List.mem_of_getElem? (i := 1) rfl)) (allS (Or.inl (List.mem_of_getElem? (i := 0) rfl)) all0))
  have Z2 := Nat.le_trans Z0 Kq2.1
  rcases hL2 with ⟨k2x5_18c4c5034c2c5070c2c5144c2, rfl, hq2_0_0, Fc2_0_0, Fc2_0_1, Fc2_0_2, Fc2_0_3, Fc2_0_4, OFc2_0_4, -⟩ | ⟨k2x5_18c4c5034c2c5070c2c5144c2, rfl, hq2_1_0, hq2_1_1, Fc2_1_0, Fc2_1_1, Fc2_1_2, Fc2_1_3, Fc2_1_4, OFc2_1_4, -⟩ | ⟨k2x5_18c4c5034c2c5070c2c5144c2, rfl, hq2_2_0, hq2_2_1, Fc2_2_0, Fc2_2_1, Fc2_2_2, Fc2_2_3, Fc2_2_4, OFc2_2_4, -⟩
  · skip
    refine own_st (fun t k => st2.trans k) ?_
    refine own_st (fun t k => XS.astoreN X2.here hx rfl (hb hby own_d8_8) rfl rfl (l' := #[.val (.ref b5032), .val (.ref b5022), .val .null]) rfl k) ?_
    show own_Go _ _ _ _ T2 (mkF m 9 #[.val (.ref b5032), .val (.ref b5022), .val .null] [])
    refine own_st (fun t k => XS.aloadN X2.here hx rfl (hb hby own_d8_9) rfl rfl (XS.ifnullYes X2.here hx rfl (pc0 := 10) (pc' := 29) rfl (hb hby own_d8_10) rfl (by decide) (by decide) (XS.aloadN X2.here hx rfl (hb hby own_d8_29) rfl rfl k))) ?_
    show own_Go _ _ _ _ T2 (mkF m 30 #[.val (.ref b5032), .val (.ref b5022), .val .null] [(.ref b5032)])
    refine own_st (fun t k => XS.dup X2.here hx rfl (hb hby own_d8_30) rfl rfl k) ?_
    have f3 := (P28.keep Kq2 (ninS (ne_exa P29 P14 (by decide)) (ninS (ne_exa P29 P25 (by decide)) nin0)))
    refine own_gF X2 hx hZ hown (own_w hw 62 rfl) Via.refl rfl f3 (hb hby own_d8_31) rfl rfl fun T4 X4 e4 => ?_
    refine own_st (fun t k => XS.lconst X4.here hx rfl (hb hby own_d8_34) k) ?_
    show own_Go _ _ _ _ T4 (mkF m 35 #[.val (.ref b5032), .val (.ref b5022), .val .null] [(.long (1 : Int64)), (.long (((0 : Int64) + (1 : Int64)) + (1 : Int64))), (.ref b5032)])
    refine own_st (fun t k => XS.ladd X4.here hx rfl (hb hby own_d8_35) rfl k) ?_
    have f5 := (P29.keep Kq2)
    refine own_pF X4 hx hZ hown (own_w hw 62 rfl) Via.refl e4 f3 f5 (Or.inl (own_w hw 63 rfl)) (own_w hw 29 rfl) (ty := .long) (by decide) (hb hby own_d8_36) rfl rfl rfl rfl fun T6 h6 X6 e6 W6 => ?_
    have K6 : Keep h0 h6 [b2x5_18c4c5034, b2x4_14c5034, b5032] := K2.wr W6 (Or.inl (List.mem_of_getElem? (i := 2) rfl))
    have Z6 := Nat.le_trans Z2 (Keep.of_wr W6).1
    have N6 := Fr.snoc X6 N2 g_b5032
    have F6 := f3.same W6
    have f7 := (Fc2_0_4.other W6 (ne_exa P25 P29 (by decide)))
    have f8 := (Fc2_0_0.other W6 (Or.inl (ne_exa P14 P29 (by decide))))
    have f9 := (Fc2_0_1.other W6 (Or.inl (ne_exa P14 P29 (by decide))))
    have f10 := (Fc2_0_2.other W6 (Or.inl (ne_exa P14 P29 (by decide))))
    have f11 := (Fc2_0_3.other W6 (Or.inl (ne_exa P14 P29 (by decide))))
    have f12 := ((P0.keep Kq2 (ninS (ne_exa P29 P14 (by decide)) (ninS (ne_exa P29 P25 (by decide)) nin0))).other W6 (Or.inr (slot_ne (Or.inl (own_w hw 56 rfl)) (Or.inl (own_w hw 63 rfl)) (by decide) (t := (.object own_s0)) (t' := .long) (by decide) (by decide))))
    exact own_retV X6 hx hlk hret (hb hby own_d8_39) (by decide) (by decide) e6 ⟨N6, K6, (Or.inl ⟨_, rfl, hq2_0_0, f7, OFc2_0_4, f8, f9, f10, f11, f12, F6, trivial⟩)⟩
  · skip
    refine own_st (fun t k => st2.trans k) ?_
    show own_Go _ _ _ _ T2 (mkF m 8 #[.val (.ref b5032), .val (.ref b5022), .unset] [.null])
    refine own_st (fun t k => XS.astoreN X2.here hx rfl (hb hby own_d8_8) rfl rfl (l' := #[.val (.ref b5032), .val (.ref b5022), .val .null]) rfl (XS.aloadN X2.here hx rfl (hb hby own_d8_9) rfl rfl (XS.ifnullYes X2.here hx rfl (pc0 := 10) (pc' := 29) rfl (hb hby own_d8_10) rfl (by decide) (by decide) k))) ?_
    show own_Go _ _ _ _ T2 (mkF m 29 #[.val (.ref b5032), .val (.ref b5022), .val .null] [])
    refine own_st (fun t k => XS.aloadN X2.here hx rfl (hb hby own_d8_29) rfl rfl (XS.dup X2.here hx rfl (hb hby own_d8_30) rfl rfl k)) ?_
    have f13 := (P28.keep Kq2 (ninS (ne_exa P29 P14 (by decide)) (ninS (ne_exa P29 P25 (by decide)) nin0)))
    refine own_gF X2 hx hZ hown (own_w hw 62 rfl) Via.refl rfl f13 (hb hby own_d8_31) rfl rfl fun T14 X14 e14 => ?_
    show own_Go _ _ _ _ T14 (mkF m 34 #[.val (.ref b5032), .val (.ref b5022), .val .null] [(.long (((0 : Int64) + (1 : Int64)) + (1 : Int64))), (.ref b5032)])
    refine own_st (fun t k => XS.lconst X14.here hx rfl (hb hby own_d8_34) (XS.ladd X14.here hx rfl (hb hby own_d8_35) rfl k)) ?_
    have f15 := (P29.keep Kq2)
    refine own_pF X14 hx hZ hown (own_w hw 62 rfl) Via.refl e14 f13 f15 (Or.inl (own_w hw 63 rfl)) (own_w hw 29 rfl) (ty := .long) (by decide) (hb hby own_d8_36) rfl rfl rfl rfl fun T16 h16 X16 e16 W16 => ?_
    have K16 : Keep h0 h16 [b2x5_18c4c5034, b2x4_14c5034, b5032] := K2.wr W16 (Or.inl (List.mem_of_getElem? (i := 2) rfl))
    have Z16 := Nat.le_trans Z2 (Keep.of_wr W16).1
    have N16 := Fr.snoc X16 N2 g_b5032
    have F16 := f13.same W16
    show own_Go _ _ _ _ T16 (mkF m 39 #[.val (.ref b5032), .val (.ref b5022), .val .null] [])
    have f17 := (Fc2_1_4.other W16 (ne_exa P25 P29 (by decide)))
    have f18 := (Fc2_1_0.other W16 (Or.inl (ne_exa P14 P29 (by decide))))
    have f19 := (Fc2_1_1.other W16 (Or.inl (ne_exa P14 P29 (by decide))))
    have f20 := (Fc2_1_2.other W16 (Or.inl (ne_exa P14 P29 (by decide))))
    have f21 := (Fc2_1_3.other W16 (Or.inl (ne_exa P14 P29 (by decide))))
    have f22 := ((P0.keep Kq2 (ninS (ne_exa P29 P14 (by decide)) (ninS (ne_exa P29 P25 (by decide)) nin0))).other W16 (Or.inr (slot_ne (Or.inl (own_w hw 56 rfl)) (Or.inl (own_w hw 63 rfl)) (by decide) (t := (.object own_s0)) (t' := .long) (by decide) (by decide))))
    exact own_retV X16 hx hlk hret (hb hby own_d8_39) (by decide) (by decide) e16 ⟨N16, K16, (Or.inr (Or.inl ⟨_, rfl, hq2_1_0, hq2_1_1, f17, OFc2_1_4, f18, f19, f20, f21, f22, F16, trivial⟩))⟩
  · skip
    refine own_st (fun t k => st2.trans k) ?_
    refine own_st (fun t k => XS.astoreN X2.here hx rfl (hb hby own_d8_8) rfl rfl (l' := #[.val (.ref b5032), .val (.ref b5022), .val .null]) rfl (XS.aloadN X2.here hx rfl (hb hby own_d8_9) rfl rfl k)) ?_
    show own_Go _ _ _ _ T2 (mkF m 10 #[.val (.ref b5032), .val (.ref b5022), .val .null] [.null])
    refine own_st (fun t k => XS.ifnullYes X2.here hx rfl (pc0 := 10) (pc' := 29) rfl (hb hby own_d8_10) rfl (by decide) (by decide) (XS.aloadN X2.here hx rfl (hb hby own_d8_29) rfl rfl (XS.dup X2.here hx rfl (hb hby own_d8_30) rfl rfl k))) ?_
    show own_Go _ _ _ _ T2 (mkF m 31 #[.val (.ref b5032), .val (.ref b5022), .val .null] [(.ref b5032), (.ref b5032)])
    have f23 := (P28.keep Kq2 (ninS (ne_exa P29 P14 (by decide)) (ninS (ne_exa P29 P25 (by decide)) nin0)))
    refine own_gF X2 hx hZ hown (own_w hw 62 rfl) Via.refl rfl f23 (hb hby own_d8_31) rfl rfl fun T24 X24 e24 => ?_
    refine own_st (fun t k => XS.lconst X24.here hx rfl (hb hby own_d8_34) (XS.ladd X24.here hx rfl (hb hby own_d8_35) rfl k)) ?_
    show own_Go _ _ _ _ T24 (mkF m 36 #[.val (.ref b5032), .val (.ref b5022), .val .null] [(.long ((((0 : Int64) + (1 : Int64)) + (1 : Int64)) + (1 : Int64))), (.ref b5032)])
    have f25 := (P29.keep Kq2)
    refine own_pF X24 hx hZ hown (own_w hw 62 rfl) Via.refl e24 f23 f25 (Or.inl (own_w hw 63 rfl)) (own_w hw 29 rfl) (ty := .long) (by decide) (hb hby own_d8_36) rfl rfl rfl rfl fun T26 h26 X26 e26 W26 => ?_
    have K26 : Keep h0 h26 [b2x5_18c4c5034, b2x4_14c5034, b5032] := K2.wr W26 (Or.inl (List.mem_of_getElem? (i := 2) rfl))
    have Z26 := Nat.le_trans Z2 (Keep.of_wr W26).1
    have N26 := Fr.snoc X26 N2 g_b5032
    have F26 := f23.same W26
    have f27 := (Fc2_2_4.other W26 (ne_exa P25 P29 (by decide)))
    have f28 := (Fc2_2_0.other W26 (Or.inl (ne_exa P14 P29 (by decide))))
    have f29 := (Fc2_2_1.other W26 (Or.inl (ne_exa P14 P29 (by decide))))
    have f30 := (Fc2_2_2.other W26 (Or.inl (ne_exa P14 P29 (by decide))))
    have f31 := (Fc2_2_3.other W26 (Or.inl (ne_exa P14 P29 (by decide))))
    have f32 := ((P0.keep Kq2 (ninS (ne_exa P29 P14 (by decide)) (ninS (ne_exa P29 P25 (by decide)) nin0))).other W26 (Or.inr (slot_ne (Or.inl (own_w hw 56 rfl)) (Or.inl (own_w hw 63 rfl)) (by decide) (t := (.object own_s0)) (t' := .long) (by decide) (by decide))))
    exact own_retV X26 hx hlk hret (hb hby own_d8_39) (by decide) (by decide) e26 ⟨N26, K26, (Or.inr (Or.inr ⟨_, rfl, hq2_2_0, hq2_2_1, f27, OFc2_2_4, f28, f29, f30, f31, f32, F26, trivial⟩))⟩
def own_Q17_129 (Z : State) (b2x4_14c5034 : Addr) (b2x5_18c4c5034 : Addr) (k2x5_18c4c5034c2c5070c2c5144c2c5180 : ClassId) (b5002 : Addr) (b5012 : Addr) (b5022 : Addr) (h0 : Heap) (n0 : Nat) (v : Option Value) (h : Heap) (L : List Loc) : Prop := Fr n0 L ∧ Keep h0 h [] ∧ ((v = some (.ref b5002) ∧ True))
set_option maxRecDepth 65536 in
set_option maxHeartbeats 40000000 in
theorem own_rm17_129 (l : Launch) (Z : State) (a0 : Array Value) (hw : ∀ d ∈ tables_1, d.before a0 Z = true) (ws : List Jvm.Cond) (b2x4_14c5034 : Addr) (b2x5_18c4c5034 : Addr) (k2x5_18c4c5034c2c5070c2c5144c2c5180 : ClassId) (b5002 : Addr) (b5012 : Addr) (b5022 : Addr) (h0 : Heap) (n0 : Nat) (Z0 : n0 ≤ h0.size) (P0 : Fld Z h0 b2x4_14c5034 own_s4 "items" own_s7 (.ref b2x5_18c4c5034)) (P1 : Arv Z h0 b2x5_18c4c5034 k2x5_18c4c5034c2c5070c2c5144c2c5180 (.object own_s1) (64 : Int32) [(.ref b5002), (.ref b5012), (.ref b5022)] .null) (OFc5180_0_0 : Ovr Z k2x5_18c4c5034c2c5070c2c5144c2c5180 own_s1) :
    MetFree l own_y5 (head1 (Jvm.Cond.code own_y5 prog_4_method_3_code 1 (some (.object own_s1)) :: ws) ({ frames := 0, cells := 0, slots := 0, locals := 0 } : Room)) (fun a U => a = #[(.ref b2x4_14c5034)] ∧ Z.Warmed39 U.vm ∧ U.heap = h0) (fun _ _ _ _ _ => True) (fun _ U o U' => ∃ v L, o = .returned v ∧ own_Q17_129 Z b2x4_14c5034 b2x5_18c4c5034 k2x5_18c4c5034c2c5070c2c5144c2c5180 b5002 b5012 b5022 h0 n0 v U'.heap L ∧ FrameEnd U o U' L ({ frames := 0, cells := 0, slots := 0, locals := 0 } : Room).cells ({ frames := 0, cells := 0, slots := 0, locals := 0 } : Room).slots) := by
  refine MetFree.of_bodySF (plainFor_of_name own_pn2) hisR ?_
  intro p e s m args below meth c s₁ Bd hml0 hP hK
  obtain ⟨rfl, hZ, hh⟩ := hP
  have hx := Bd.exec
  have hlk := Bd.notSynchronized
  have hret := Bd.returns
  have hby := Bd.bytes
  have hml : c.maxLocals = 1 := hml0
  have hown : s.vm.findClass own_s4 = some m.cls := findClass_of_methodNamed Bd.named
  have hnm := (name_of_methodNamed Bd.named Bd.method).1
  have X0 : Stand p l e ({ frames := 0, cells := 0, slots := 0, locals := 0 } : Room) s m #[(.ref b2x4_14c5034)] below meth c s₁ [] 0 0 := Stand.of_body Bd
  have e0 : s₁.heap = h0 := by rw [← hh, Bd.state]; rfl
  have N0 := Fr.nil n0
  refine own_open (Q := own_Q17_129 Z b2x4_14c5034 b2x5_18c4c5034 k2x5_18c4c5034c2c5070c2c5144c2c5180 b5002 b5012 b5022 h0 n0) (own_ef17 m b2x4_14c5034) ?_
  refine own_st (fun t k => XS.aloadN X0.here hx rfl (hb hby own_d17_0) rfl rfl k) ?_
  refine own_gF X0 hx hZ hown (own_w hw 53 rfl) Via.refl e0 P0 (hb hby own_d17_1) rfl rfl fun T1 X1 e1 => ?_
  show own_Go _ _ _ _ T1 (mkF m 4 #[.val (.ref b2x4_14c5034)] [(.ref b2x5_18c4c5034)])
  refine own_st (fun t k => XS.iconst X1.here hx rfl (hb hby own_d17_4) k) ?_
  refine own_st (own_aaload X1 hx hZ e1 P1 rfl (j := (0 : Int32)) (v := (.ref b5002)) ⟨by decide, by decide⟩ rfl (g := (mkF m 5 #[.val (.ref b2x4_14c5034)] [(.int (0 : Int32)), (.ref b2x5_18c4c5034)])) rfl rfl (hb hby own_d17_5)) ?_
  exact own_retA X1 hx hlk hret rfl rfl (hb hby own_d17_6) (by decide) (by decide) e1 ⟨N0, (Keep.refl h0 []), ⟨rfl, trivial⟩⟩
def own_Q7_128 (Z : State) (b5032 : Addr) (b2x4_14c5034 : Addr) (b2x5_18c4c5034 : Addr) (k2x5_18c4c5034c2c5070c2c5144c2c5180 : ClassId) (b5002 : Addr) (b5012 : Addr) (b5022 : Addr) (h0 : Heap) (n0 : Nat) (v : Option Value) (h : Heap) (L : List Loc) : Prop := Fr n0 L ∧ Keep h0 h [] ∧ ((v = some (.ref b5002) ∧ True))
set_option maxRecDepth 65536 in
set_option maxHeartbeats 40000000 in
theorem own_rm7_128 (l : Launch) (Z : State) (a0 : Array Value) (hw : ∀ d ∈ tables_1, d.before a0 Z = true) (ws : List Jvm.Cond) (b5032 : Addr) (b2x4_14c5034 : Addr) (b2x5_18c4c5034 : Addr) (k2x5_18c4c5034c2c5070c2c5144c2c5180 : ClassId) (b5002 : Addr) (b5012 : Addr) (b5022 : Addr) (h0 : Heap) (n0 : Nat) (Z0 : n0 ≤ h0.size) (P0 : Fld Z h0 b5032 own_s5 "size" "J" (.long ((((0 : Int64) + (1 : Int64)) + (1 : Int64)) + (1 : Int64)))) (P1 : Fld Z h0 b5032 own_s5 "root" "Lcom/example/lonborg/lonborg/ItemTree$Node;" (.ref b2x4_14c5034)) (P2 : Fld Z h0 b2x4_14c5034 own_s4 "items" own_s7 (.ref b2x5_18c4c5034)) (P3 : Arv Z h0 b2x5_18c4c5034 k2x5_18c4c5034c2c5070c2c5144c2c5180 (.object own_s1) (64 : Int32) [(.ref b5002), (.ref b5012), (.ref b5022)] .null) (OFc5180_0_0 : Ovr Z k2x5_18c4c5034c2c5070c2c5144c2c5180 own_s1) (P5 : Exa Z h0 b2x4_14c5034 own_s4) :
    MetFree l own_y7 (head1 (Jvm.Cond.code own_y7 prog_2_method_3_code 1 (some (.object own_s1)) :: ws) ({ frames := 1, cells := 0, slots := 0, locals := 12 } : Room)) (fun a U => a = #[(.ref b5032)] ∧ Z.Warmed39 U.vm ∧ U.heap = h0) (fun _ _ _ _ _ => True) (fun _ U o U' => ∃ v L, o = .returned v ∧ own_Q7_128 Z b5032 b2x4_14c5034 b2x5_18c4c5034 k2x5_18c4c5034c2c5070c2c5144c2c5180 b5002 b5012 b5022 h0 n0 v U'.heap L ∧ FrameEnd U o U' L ({ frames := 1, cells := 0, slots := 0, locals := 12 } : Room).cells ({ frames := 1, cells := 0, slots := 0, locals := 12 } : Room).slots) := by
  refine MetFree.of_bodySF (plainFor_of_name own_pn3) hisR ?_
  intro p e s m args below meth c s₁ Bd hml0 hP hK
  obtain ⟨rfl, hZ, hh⟩ := hP
  have hx := Bd.exec
  have hlk := Bd.notSynchronized
  have hret := Bd.returns
  have hby := Bd.bytes
  have hml : c.maxLocals = 1 := hml0
  have hown : s.vm.findClass own_s5 = some m.cls := findClass_of_methodNamed Bd.named
  have hnm := (name_of_methodNamed Bd.named Bd.method).1
  have X0 : Stand p l e ({ frames := 1, cells := 0, slots := 0, locals := 12 } : Room) s m #[(.ref b5032)] below meth c s₁ [] 0 0 := Stand.of_body Bd
  have e0 : s₁.heap = h0 := by rw [← hh, Bd.state]; rfl
  have N0 := Fr.nil n0
  refine own_open (Q := own_Q7_128 Z b5032 b2x4_14c5034 b2x5_18c4c5034 k2x5_18c4c5034c2c5070c2c5144c2c5180 b5002 b5012 b5022 h0 n0) (own_ef7 m b5032) ?_
  refine own_st (fun t k => XS.aloadN X0.here hx rfl (hb hby own_d7_0) rfl rfl k) ?_
  refine own_gF X0 hx hZ hown (own_w hw 62 rfl) Via.refl e0 P0 (hb hby own_d7_1) rfl rfl fun T1 X1 e1 => ?_
  show own_Go _ _ _ _ T1 (mkF m 4 #[.val (.ref b5032)] [(.long ((((0 : Int64) + (1 : Int64)) + (1 : Int64)) + (1 : Int64)))])
  refine own_st (fun t k => XS.lconst X1.here hx rfl (hb hby own_d7_4) (XS.lcmp X1.here hx rfl (hb hby own_d7_5) rfl (XS.ifYes X1.here hx rfl (pc0 := 6) (pc' := 13) rfl (hb hby own_d7_6) rfl ((if0 _ _).trans (feq (by decide : ¬ ((lcmpW ((((0 : Int64) + (1 : Int64)) + (1 : Int64)) + (1 : Int64)) (0 : Int64)) = (0 : Int32)))).2) (by decide) (by decide) k))) ?_
  show own_Go _ _ _ _ T1 (mkF m 13 #[.val (.ref b5032)] [])
  refine own_st (fun t k => XS.aloadN X1.here hx rfl (hb hby own_d7_13) rfl rfl k) ?_
  refine own_gF X1 hx hZ hown (own_w hw 55 rfl) Via.refl e1 P1 (hb hby own_d7_14) rfl rfl fun T2 X2 e2 => ?_
  obtain ⟨cq3, kq3, q3a, q3b, q3c⟩ := isOf hZ e2 P5
  obtain ⟨_, _, ⟨T3, L3, k3, n3⟩, -, X3, ⟨Lc3, hQ3, l3, y3, z3⟩, st3⟩ := X2.virtualBack hx (y := (⟨own_s0, "first", own_s11⟩ : MethodName)) (z := own_y5) hown (mvT hZ (own_w hw 123 rfl)) (mvT hZ (own_w hw 124 rfl)) (own_nf (args := #[]) (mvT hZ (own_w hw 90 rfl)) rfl) (mvT hZ (own_w hw 125 rfl)) (mvT hZ (own_w hw 126 rfl)) (by decide) (backOf (W := 0) (own_rm17_129 l Z a0 hw [] b2x4_14c5034 b2x5_18c4c5034 k2x5_18c4c5034c2c5070c2c5144c2c5180 b5002 b5012 b5022 h0 n0 Z0 P2 P3 OFc5180_0_0) hZ (own_w hw 127 rfl) (own_w hw 37 rfl) (by decide) (by decide)) q3a q3c (g := (mkF m 17 #[.val (.ref b5032)] [(.ref b2x4_14c5034)])) rfl (by rw [hml]; rfl) (Steps.refl _) (argsL := []) (rest := []) (lenOf own_pd3 rfl) rfl (by show 2 * 0 + _ ≤ _; exact Nat.le_of_eq rfl) (hb hby own_d7_17) (fun _ _ => ⟨rfl, e2, (by decide : 0 + 0 ≤ _), (by decide : 0 + 0 ≤ _)⟩)
  dsimp only [Pt.U, Pt.locs, Pt.cells, Pt.slots] at X3 l3 y3 z3 st3 hQ3
  subst l3 y3 z3
  obtain ⟨N3q, Kq3, hL3⟩ := hQ3
  have N3 := Fr.app N0 N3q
  have K3 : Keep h0 T3.heap [] := (Keep.refl h0 []).trans Kq3 all0
  have Z3 := Nat.le_trans Z0 Kq3.1
  rcases hL3 with ⟨rfl, -⟩
  · skip
    refine own_st (fun t k => st3.trans k) ?_
    show own_Go _ _ _ _ T3 (mkF m 20 #[.val (.ref b5032)] [(.ref b5002)])
    exact own_retA X3 hx hlk hret rfl rfl (hb hby own_d7_20) (by decide) (by decide) rfl ⟨N3, K3, ⟨rfl, trivial⟩⟩
def own_Q0 (n0 : Nat) (v : Option Value) (h : Heap) (L : List Loc) : Prop := v = some (.int (1 : Int32)) ∧ Fr n0 L
set_option maxRecDepth 65536 in
set_option maxHeartbeats 40000000 in
theorem own_cut168 {p : Program} {l : Launch} {e : Env} {s : State} {m : MethodId} {args : Array Value} {below : List Frame} {meth : Method} {c : Code} {T0 : State} {locs : List Loc} {Z : State} {a0 : Array Value} {h0 : Heap} {n0 : Nat} (jp0 : Int64) (jp1 : Int64) (jp2 : Int64) (jp3 : Int64) (ip4 : Int32) (ip5 : Int32) (n10 : Int32) (n11 : Int32) (b1 : Addr) (b8 : Addr) (b15 : Addr) (b22 : Addr) (b26 : Addr) (w_NONE : Addr) (w_EMPTY : Addr) (w_EMPTY_parts : Addr) (w_NONE_names : Addr) (k_w_EMPTY_parts : ClassId) (k_w_NONE_names : ClassId) (k1 : ClassId) (k8 : ClassId) (k15 : ClassId) (k22 : ClassId) (k26 : ClassId) (d0 : Int64) (d1 : Int64) (d2 : Int64)
    (X0 : Stand p l e room_1 s m args below meth c T0 locs 5 24) (hx : p.tables.exec = Jvm.exec) (hZ : Z.Warmed39 s.vm) (hw : ∀ d ∈ tables_1, d.before a0 Z = true) (hby : c.code = code) (hml : c.maxLocals = 21) (hown : s.vm.findClass "com/example/lonborg/lonborg/ItemTreeFirstPinLaw" = some m.cls) (hlk : meth.locks = false) (hret : meth.sig.returnType = ret) (N0 : Fr n0 locs) (Z0 : n0 ≤ h0.size) (e0 : T0.heap = h0) (P0 : Sta Z h0 own_s3 "NONE" "Lcom/example/lonborg/lonborg/Resources;" (.ref w_NONE)) (P1 : Exa Z h0 w_NONE own_s3) (P2 : Sta Z h0 own_s2 "EMPTY" own_s6 (.ref w_EMPTY)) (P3 : Exa Z h0 w_EMPTY own_s2) (P4 : Fld Z h0 w_EMPTY own_s2 "parts" own_s8 (.ref w_EMPTY_parts)) (P5 : Fld Z h0 w_NONE own_s3 "names" "[Ljava/lang/String;" (.ref w_NONE_names)) (P6 : Arv Z h0 w_EMPTY_parts k_w_EMPTY_parts (.object own_s3) (0 : Int32) [] .null) (P7 : Arv Z h0 w_NONE_names k_w_NONE_names (.object "java/lang/String") (0 : Int32) [] .null) (P8 : Arv Z h0 b1 k1 .int (6 : Int32) [(.int (0 : Int32)), (.int (0 : Int32)), (.int (1 : Int32)), (.int (1 : Int32)), (.int (2 : Int32)), (.int (2 : Int32))] (.int (0 : Int32))) (P9 : Exa Z h0 b1 "[I") (P10 : Arv Z h0 b8 k8 .int (6 : Int32) [(.int (1 : Int32)), (.int (2 : Int32)), (.int (0 : Int32)), (.int (2 : Int32)), (.int (0 : Int32)), (.int (1 : Int32))] (.int (0 : Int32))) (P11 : Exa Z h0 b8 "[I") (P12 : Arv Z h0 b15 k15 .int (6 : Int32) [(.int (2 : Int32)), (.int (1 : Int32)), (.int (2 : Int32)), (.int (0 : Int32)), (.int (1 : Int32)), (.int (0 : Int32))] (.int (0 : Int32))) (P13 : Exa Z h0 b15 "[I") (P14 : Arv Z h0 b22 k22 .long (3 : Int32) [(.long jp0), (.long jp1), (.long jp2)] (.long (0 : Int64))) (P15 : Exa Z h0 b22 "[J") (P16 : Arv Z h0 b26 k26 .long (3 : Int32) [(.long d0), (.long d1), (.long d2)] (.long (0 : Int64))) (P17 : Exa Z h0 b26 "[J") (hn10 : n10 = (0 : Int32) ∨ n10 = (1 : Int32) ∨ n10 = (2 : Int32) ∨ n10 = (3 : Int32)) (hd01 : d0.toInt ≠ d1.toInt) (hd02 : d0.toInt ≠ d2.toInt) (hd12 : d1.toInt ≠ d2.toInt) :
    own_Go p.tables e below (own_End s below (own_Q0 n0) room_1.cells room_1.slots) T0 (mkF m 168 #[.val (.long jp0), .second, .val (.long jp1), .second, .val (.long jp2), .second, .val (.long jp3), .second, .val (.int ip4), .val (.int ip5), .val (.int n10), .val (.int n11), .val (.ref b1), .val (.ref b8), .val (.ref b15), .val (.ref b22), .val (.ref b26), .unset, .unset, .unset, .unset] []) := by
  refine own_st (fun t k => XS.iconst X0.here hx rfl (hb hby at_168) k) ?_
  obtain ⟨T5001, h5001, k5001, X5001, e5001, E5001, A5001, Ex5001, O5001, st5001⟩ := newRE X0 hx hZ hown (own_w hw 3 rfl) (own_w hw 4 rfl) e0 (g := (mkF m 169 #[.val (.long jp0), .second, .val (.long jp1), .second, .val (.long jp2), .second, .val (.long jp3), .second, .val (.int ip4), .val (.int ip5), .val (.int n10), .val (.int n11), .val (.ref b1), .val (.ref b8), .val (.ref b15), .val (.ref b22), .val (.ref b26), .unset, .unset, .unset, .unset] [(.int (3 : Int32))])) rfl (hb hby at_169) rfl (by decide) (cap := 3) (by decide) (by decide) (by decide) (by decide) (ad := own_s7) (by decide +kernel)
  obtain ⟨b5001, g5001⟩ : ∃ z, z = h0.size := ⟨_, rfl⟩
  rw [← g5001] at A5001 Ex5001 st5001
  have g_b5001 : n0 ≤ b5001 := Nat.le_trans Z0 (Nat.le_of_eq g5001.symm)
  have sz_b5001 : h0.size ≤ b5001 := Nat.le_trans (Keep.refl h0 []).1 (Nat.le_of_eq g5001.symm)
  refine own_st st5001 ?_
  have K5001 : Keep h0 h5001 [] := (Keep.refl h0 []).ext E5001
  have Z5001 := Nat.le_trans Z0 E5001.1
  have V5001 : Arv Z h5001 b5001 k5001 (.object own_s1) (3 : Int32) [.null, .null, .null] .null := (Arv.new A5001 (by decide)).pad (pad_rep [] .null 3)
  show own_Go _ _ _ _ T5001 (mkF m 172 #[.val (.long jp0), .second, .val (.long jp1), .second, .val (.long jp2), .second, .val (.long jp3), .second, .val (.int ip4), .val (.int ip5), .val (.int n10), .val (.int n11), .val (.ref b1), .val (.ref b8), .val (.ref b15), .val (.ref b22), .val (.ref b26), .unset, .unset, .unset, .unset] [(.ref b5001)])
  refine own_st (fun t k => XS.dup X5001.here hx rfl (hb hby at_172) rfl rfl (XS.iconst X5001.here hx rfl (hb hby at_173) k)) ?_
  obtain ⟨T5002, h5002, X5002, e5002, E5002, A5002, D5002, -, st5002⟩ := newO X5001 hx hZ hown (own_w hw 3 rfl) (own_w hw 5 rfl) (own_w hw 6 rfl) e5001 (g := (mkF m 174 #[.val (.long jp0), .second, .val (.long jp1), .second, .val (.long jp2), .second, .val (.long jp3), .second, .val (.int ip4), .val (.int ip5), .val (.int n10), .val (.int n11), .val (.ref b1), .val (.ref b8), .val (.ref b15), .val (.ref b22), .val (.ref b26), .unset, .unset, .unset, .unset] [(.int (0 : Int32)), (.ref b5001), (.ref b5001)])) rfl (hb hby at_174) (by decide) (by decide)
  obtain ⟨b5002, g5002⟩ : ∃ z, z = h5001.size := ⟨_, rfl⟩
  rw [← g5002] at A5002 D5002 st5002
  have g_b5002 : n0 ≤ b5002 := Nat.le_trans Z5001 (Nat.le_of_eq g5002.symm)
  have sz_b5002 : h0.size ≤ b5002 := Nat.le_trans K5001.1 (Nat.le_of_eq g5002.symm)
  refine own_st st5002 ?_
  have K5002 : Keep h0 h5002 [] := K5001.ext E5002
  have Z5002 := Nat.le_trans Z5001 E5002.1
  have F5002_20 : Fld Z h5002 b5002 own_s1 "id" "J" (.long (0 : Int64)) := D5002 (Or.inr (own_w hw 20 rfl)) (ty := .long) (by decide)
  have F5002_22 : Fld Z h5002 b5002 own_s1 "priority" "J" (.long (0 : Int64)) := D5002 (Or.inr (own_w hw 22 rfl)) (ty := .long) (by decide)
  have F5002_24 : Fld Z h5002 b5002 own_s1 "payload" "[B" .null := D5002 (Or.inr (own_w hw 24 rfl)) (ty := (.array .byte)) (by decide)
  have F5002_26 : Fld Z h5002 b5002 own_s1 "needs" "Lcom/example/lonborg/lonborg/Resources;" .null := D5002 (Or.inr (own_w hw 26 rfl)) (ty := (.object own_s3)) (by decide)
  show own_Go _ _ _ _ T5002 (mkF m 177 #[.val (.long jp0), .second, .val (.long jp1), .second, .val (.long jp2), .second, .val (.long jp3), .second, .val (.int ip4), .val (.int ip5), .val (.int n10), .val (.int n11), .val (.ref b1), .val (.ref b8), .val (.ref b15), .val (.ref b22), .val (.ref b26), .unset, .unset, .unset, .unset] [(.ref b5002), (.int (0 : Int32)), (.ref b5001), (.ref b5001)])
  refine own_st (fun t k => XS.dup X5002.here hx rfl (hb hby at_177) rfl rfl (XS.aload X5002.here hx rfl (hb hby at_178) rfl rfl (XS.iconst X5002.here hx rfl (hb hby at_180) k))) ?_
  show own_Go _ _ _ _ T5002 (mkF m 181 #[.val (.long jp0), .second, .val (.long jp1), .second, .val (.long jp2), .second, .val (.long jp3), .second, .val (.int ip4), .val (.int ip5), .val (.int n10), .val (.int n11), .val (.ref b1), .val (.ref b8), .val (.ref b15), .val (.ref b22), .val (.ref b26), .unset, .unset, .unset, .unset] [(.int (0 : Int32)), (.ref b26), (.ref b5002), (.ref b5002), (.int (0 : Int32)), (.ref b5001), (.ref b5001)])
  have f5003 := (P16.keep K5002 nin0)
  refine own_st (own_laload X5002 hx hZ e5002 f5003 (j := (0 : Int32)) (v := (.long d0)) ⟨by decide, by decide⟩ rfl (g := (mkF m 181 #[.val (.long jp0), .second, .val (.long jp1), .second, .val (.long jp2), .second, .val (.long jp3), .second, .val (.int ip4), .val (.int ip5), .val (.int n10), .val (.int n11), .val (.ref b1), .val (.ref b8), .val (.ref b15), .val (.ref b22), .val (.ref b26), .unset, .unset, .unset, .unset] [(.int (0 : Int32)), (.ref b26), (.ref b5002), (.ref b5002), (.int (0 : Int32)), (.ref b5001), (.ref b5001)])) rfl rfl (hb hby at_181)) ?_
  refine own_st (fun t k => XS.aload X5002.here hx rfl (hb hby at_182) rfl rfl (XS.iconst X5002.here hx rfl (hb hby at_184) k)) ?_
  show own_Go _ _ _ _ T5002 (mkF m 185 #[.val (.long jp0), .second, .val (.long jp1), .second, .val (.long jp2), .second, .val (.long jp3), .second, .val (.int ip4), .val (.int ip5), .val (.int n10), .val (.int n11), .val (.ref b1), .val (.ref b8), .val (.ref b15), .val (.ref b22), .val (.ref b26), .unset, .unset, .unset, .unset] [(.int (0 : Int32)), (.ref b22), (.long d0), (.ref b5002), (.ref b5002), (.int (0 : Int32)), (.ref b5001), (.ref b5001)])
  have f5004 := (P14.keep K5002 nin0)
  refine own_st (own_laload X5002 hx hZ e5002 f5004 (j := (0 : Int32)) (v := (.long jp0)) ⟨by decide, by decide⟩ rfl (g := (mkF m 185 #[.val (.long jp0), .second, .val (.long jp1), .second, .val (.long jp2), .second, .val (.long jp3), .second, .val (.int ip4), .val (.int ip5), .val (.int n10), .val (.int n11), .val (.ref b1), .val (.ref b8), .val (.ref b15), .val (.ref b22), .val (.ref b26), .unset, .unset, .unset, .unset] [(.int (0 : Int32)), (.ref b22), (.long d0), (.ref b5002), (.ref b5002), (.int (0 : Int32)), (.ref b5001), (.ref b5001)])) rfl rfl (hb hby at_185)) ?_
  have f5005 := (own_stak P0 K5002 all0)
  refine own_gS X5002 hx hZ hown (own_w hw 7 rfl) e5002 f5005 (hb hby at_186) rfl fun T5006 X5006 e5006 => ?_
  refine own_cI (a := b5002) X5006 hx hZ hown (own_w hw 10 rfl) (own_w hw 11 rfl) (own_w hw 6 rfl) (own_w hw 12 rfl) [(.long d0), (.long jp0), (.ref w_NONE)] [(.ref b5002), (.int (0 : Int32)), (.ref b5001), (.ref b5001)] (own_rm1_4 l Z a0 hw [] b5002 d0 jp0 w_NONE h5002 n0 Z5002 A5002 F5002_20 F5002_22 F5002_24 F5002_26 g_b5002) 4 (hb hby at_189) (by rw [hml]; rfl) (lenOf own_pd1 rfl) e5006 rfl rfl (by show 2 * 0 + _ ≤ _; exact Nat.le_of_eq rfl) (by decide) (by decide) (by decide) rfl (by decide) (by decide) fun v5007 T5007 L5007 X5007 hQ5007 => ?_
  obtain ⟨N5007q, Kq5007, hL5007⟩ := hQ5007
  have N5007 := Fr.app N0 N5007q
  have K5007 : Keep h0 T5007.heap [] := K5002.trans Kq5007 (allS (Or.inr sz_b5002) all0)
  have Z5007 := Nat.le_trans Z5002 Kq5007.1
  rcases hL5007 with ⟨rfl, Fc5007_0_0, Fc5007_0_1, Fc5007_0_2, Fc5007_0_3, -⟩
  · skip
    show own_Go _ _ _ _ T5007 (mkF m 192 #[.val (.long jp0), .second, .val (.long jp1), .second, .val (.long jp2), .second, .val (.long jp3), .second, .val (.int ip4), .val (.int ip5), .val (.int n10), .val (.int n11), .val (.ref b1), .val (.ref b8), .val (.ref b15), .val (.ref b22), .val (.ref b26), .unset, .unset, .unset, .unset] [(.ref b5002), (.int (0 : Int32)), (.ref b5001), (.ref b5001)])
    have ne5008 : b5001 ≠ b5002 := Nat.ne_of_lt (Nat.lt_of_lt_of_le V5001.lt (Nat.le_of_eq g5002.symm))
    have f5009 := ((V5001.ext E5002).keep Kq5007 (ninS ne5008 nin0))
    obtain ⟨c5010, A5010, q5010, S5010, M5010, H5010, G5010⟩ := f5009
    have f5011 := (A5002.keep Kq5007)
    obtain ⟨T5010, h5010, X5010, e5010, W5010, st5010⟩ := stR X5007 hx hZ rfl A5010 (j := (0 : Int32)) (inb_of S5010 ⟨by decide, by decide⟩) rfl (Sto.ofV A5010 q5010 O5001 (Ins.self f5011)) (g := (mkF m 192 #[.val (.long jp0), .second, .val (.long jp1), .second, .val (.long jp2), .second, .val (.long jp3), .second, .val (.int ip4), .val (.int ip5), .val (.int n10), .val (.int n11), .val (.ref b1), .val (.ref b8), .val (.ref b15), .val (.ref b22), .val (.ref b26), .unset, .unset, .unset, .unset] [(.ref b5002), (.int (0 : Int32)), (.ref b5001), (.ref b5001)])) rfl rfl (hb hby at_192)
    refine own_st st5010 ?_
    have K5010 : Keep h0 h5010 [] := K5007.wr W5010 (Or.inr sz_b5001)
    have Z5010 := Nat.le_trans Z5007 (Keep.of_wr W5010).1
    have N5010 := Fr.snoc X5010 N5007 g_b5001
    have V5010 : Arv Z h5010 b5001 k5001 (.object own_s1) (3 : Int32) [(.ref b5002), .null, .null] .null := Arv.set A5010 q5010 S5010 M5010 H5010 G5010 rfl W5010 0 rfl (Nat.le_of_ble_eq_true rfl)
    refine own_st (fun t k => XS.dup X5010.here hx rfl (hb hby at_193) rfl rfl (XS.iconst X5010.here hx rfl (hb hby at_194) k)) ?_
    show own_Go _ _ _ _ T5010 (mkF m 195 #[.val (.long jp0), .second, .val (.long jp1), .second, .val (.long jp2), .second, .val (.long jp3), .second, .val (.int ip4), .val (.int ip5), .val (.int n10), .val (.int n11), .val (.ref b1), .val (.ref b8), .val (.ref b15), .val (.ref b22), .val (.ref b26), .unset, .unset, .unset, .unset] [(.int (1 : Int32)), (.ref b5001), (.ref b5001)])
    obtain ⟨T5012, h5012, X5012, e5012, E5012, A5012, D5012, -, st5012⟩ := newO X5010 hx hZ hown (own_w hw 3 rfl) (own_w hw 5 rfl) (own_w hw 6 rfl) e5010 (g := (mkF m 195 #[.val (.long jp0), .second, .val (.long jp1), .second, .val (.long jp2), .second, .val (.long jp3), .second, .val (.int ip4), .val (.int ip5), .val (.int n10), .val (.int n11), .val (.ref b1), .val (.ref b8), .val (.ref b15), .val (.ref b22), .val (.ref b26), .unset, .unset, .unset, .unset] [(.int (1 : Int32)), (.ref b5001), (.ref b5001)])) rfl (hb hby at_195) (by decide) (by decide)
    obtain ⟨b5012, g5012⟩ : ∃ z, z = h5010.size := ⟨_, rfl⟩
    rw [← g5012] at A5012 D5012 st5012
    have g_b5012 : n0 ≤ b5012 := Nat.le_trans Z5010 (Nat.le_of_eq g5012.symm)
    have sz_b5012 : h0.size ≤ b5012 := Nat.le_trans K5010.1 (Nat.le_of_eq g5012.symm)
    refine own_st st5012 ?_
    have K5012 : Keep h0 h5012 [] := K5010.ext E5012
    have Z5012 := Nat.le_trans Z5010 E5012.1
    have F5012_20 : Fld Z h5012 b5012 own_s1 "id" "J" (.long (0 : Int64)) := D5012 (Or.inr (own_w hw 20 rfl)) (ty := .long) (by decide)
    have F5012_22 : Fld Z h5012 b5012 own_s1 "priority" "J" (.long (0 : Int64)) := D5012 (Or.inr (own_w hw 22 rfl)) (ty := .long) (by decide)
    have F5012_24 : Fld Z h5012 b5012 own_s1 "payload" "[B" .null := D5012 (Or.inr (own_w hw 24 rfl)) (ty := (.array .byte)) (by decide)
    have F5012_26 : Fld Z h5012 b5012 own_s1 "needs" "Lcom/example/lonborg/lonborg/Resources;" .null := D5012 (Or.inr (own_w hw 26 rfl)) (ty := (.object own_s3)) (by decide)
    refine own_st (fun t k => XS.dup X5012.here hx rfl (hb hby at_198) rfl rfl (XS.aload X5012.here hx rfl (hb hby at_199) rfl rfl k)) ?_
    show own_Go _ _ _ _ T5012 (mkF m 201 #[.val (.long jp0), .second, .val (.long jp1), .second, .val (.long jp2), .second, .val (.long jp3), .second, .val (.int ip4), .val (.int ip5), .val (.int n10), .val (.int n11), .val (.ref b1), .val (.ref b8), .val (.ref b15), .val (.ref b22), .val (.ref b26), .unset, .unset, .unset, .unset] [(.ref b26), (.ref b5012), (.ref b5012), (.int (1 : Int32)), (.ref b5001), (.ref b5001)])
    refine own_st (fun t k => XS.iconst X5012.here hx rfl (hb hby at_201) k) ?_
    have f5013 := (P16.keep K5012 nin0)
    refine own_st (own_laload X5012 hx hZ e5012 f5013 (j := (1 : Int32)) (v := (.long d1)) ⟨by decide, by decide⟩ rfl (g := (mkF m 202 #[.val (.long jp0), .second, .val (.long jp1), .second, .val (.long jp2), .second, .val (.long jp3), .second, .val (.int ip4), .val (.int ip5), .val (.int n10), .val (.int n11), .val (.ref b1), .val (.ref b8), .val (.ref b15), .val (.ref b22), .val (.ref b26), .unset, .unset, .unset, .unset] [(.int (1 : Int32)), (.ref b26), (.ref b5012), (.ref b5012), (.int (1 : Int32)), (.ref b5001), (.ref b5001)])) rfl rfl (hb hby at_202)) ?_
    refine own_st (fun t k => XS.aload X5012.here hx rfl (hb hby at_203) rfl rfl k) ?_
    show own_Go _ _ _ _ T5012 (mkF m 205 #[.val (.long jp0), .second, .val (.long jp1), .second, .val (.long jp2), .second, .val (.long jp3), .second, .val (.int ip4), .val (.int ip5), .val (.int n10), .val (.int n11), .val (.ref b1), .val (.ref b8), .val (.ref b15), .val (.ref b22), .val (.ref b26), .unset, .unset, .unset, .unset] [(.ref b22), (.long d1), (.ref b5012), (.ref b5012), (.int (1 : Int32)), (.ref b5001), (.ref b5001)])
    refine own_st (fun t k => XS.iconst X5012.here hx rfl (hb hby at_205) k) ?_
    have f5014 := (P14.keep K5012 nin0)
    refine own_st (own_laload X5012 hx hZ e5012 f5014 (j := (1 : Int32)) (v := (.long jp1)) ⟨by decide, by decide⟩ rfl (g := (mkF m 206 #[.val (.long jp0), .second, .val (.long jp1), .second, .val (.long jp2), .second, .val (.long jp3), .second, .val (.int ip4), .val (.int ip5), .val (.int n10), .val (.int n11), .val (.ref b1), .val (.ref b8), .val (.ref b15), .val (.ref b22), .val (.ref b26), .unset, .unset, .unset, .unset] [(.int (1 : Int32)), (.ref b22), (.long d1), (.ref b5012), (.ref b5012), (.int (1 : Int32)), (.ref b5001), (.ref b5001)])) rfl rfl (hb hby at_206)) ?_
    have f5015 := (own_stak P0 K5012 all0)
    refine own_gS X5012 hx hZ hown (own_w hw 7 rfl) e5012 f5015 (hb hby at_207) rfl fun T5016 X5016 e5016 => ?_
    show own_Go _ _ _ _ T5016 (mkF m 210 #[.val (.long jp0), .second, .val (.long jp1), .second, .val (.long jp2), .second, .val (.long jp3), .second, .val (.int ip4), .val (.int ip5), .val (.int n10), .val (.int n11), .val (.ref b1), .val (.ref b8), .val (.ref b15), .val (.ref b22), .val (.ref b26), .unset, .unset, .unset, .unset] [(.ref w_NONE), (.long jp1), (.long d1), (.ref b5012), (.ref b5012), (.int (1 : Int32)), (.ref b5001), (.ref b5001)])
    refine own_cI (a := b5012) X5016 hx hZ hown (own_w hw 10 rfl) (own_w hw 11 rfl) (own_w hw 6 rfl) (own_w hw 12 rfl) [(.long d1), (.long jp1), (.ref w_NONE)] [(.ref b5012), (.int (1 : Int32)), (.ref b5001), (.ref b5001)] (own_rm1_4 l Z a0 hw [] b5012 d1 jp1 w_NONE h5012 n0 Z5012 A5012 F5012_20 F5012_22 F5012_24 F5012_26 g_b5012) 4 (hb hby at_210) (by rw [hml]; rfl) (lenOf own_pd1 rfl) e5016 rfl rfl (by show 2 * 0 + _ ≤ _; exact Nat.le_of_eq rfl) (by decide) (by decide) (by decide) rfl (by decide) (by decide) fun v5017 T5017 L5017 X5017 hQ5017 => ?_
    obtain ⟨N5017q, Kq5017, hL5017⟩ := hQ5017
    have N5017 := Fr.app N5010 N5017q
    have K5017 : Keep h0 T5017.heap [] := K5012.trans Kq5017 (allS (Or.inr sz_b5012) all0)
    have Z5017 := Nat.le_trans Z5012 Kq5017.1
    rcases hL5017 with ⟨rfl, Fc5017_0_0, Fc5017_0_1, Fc5017_0_2, Fc5017_0_3, -⟩
    · skip
      have ne5018 : b5001 ≠ b5012 := Nat.ne_of_lt (Nat.lt_of_lt_of_le V5010.lt (Nat.le_of_eq g5012.symm))
      have f5019 := ((V5010.ext E5012).keep Kq5017 (ninS ne5018 nin0))
      obtain ⟨c5020, A5020, q5020, S5020, M5020, H5020, G5020⟩ := f5019
      have f5021 := (A5012.keep Kq5017)
      obtain ⟨T5020, h5020, X5020, e5020, W5020, st5020⟩ := stR X5017 hx hZ rfl A5020 (j := (1 : Int32)) (inb_of S5020 ⟨by decide, by decide⟩) rfl (Sto.ofV A5020 q5020 O5001 (Ins.self f5021)) (g := (mkF m 213 #[.val (.long jp0), .second, .val (.long jp1), .second, .val (.long jp2), .second, .val (.long jp3), .second, .val (.int ip4), .val (.int ip5), .val (.int n10), .val (.int n11), .val (.ref b1), .val (.ref b8), .val (.ref b15), .val (.ref b22), .val (.ref b26), .unset, .unset, .unset, .unset] [(.ref b5012), (.int (1 : Int32)), (.ref b5001), (.ref b5001)])) rfl rfl (hb hby at_213)
      refine own_st st5020 ?_
      have K5020 : Keep h0 h5020 [] := K5017.wr W5020 (Or.inr sz_b5001)
      have Z5020 := Nat.le_trans Z5017 (Keep.of_wr W5020).1
      have N5020 := Fr.snoc X5020 N5017 g_b5001
      have V5020 : Arv Z h5020 b5001 k5001 (.object own_s1) (3 : Int32) [(.ref b5002), (.ref b5012), .null] .null := Arv.set A5020 q5020 S5020 M5020 H5020 G5020 rfl W5020 1 rfl (Nat.le_of_ble_eq_true rfl)
      refine own_st (fun t k => XS.dup X5020.here hx rfl (hb hby at_214) rfl rfl k) ?_
      show own_Go _ _ _ _ T5020 (mkF m 215 #[.val (.long jp0), .second, .val (.long jp1), .second, .val (.long jp2), .second, .val (.long jp3), .second, .val (.int ip4), .val (.int ip5), .val (.int n10), .val (.int n11), .val (.ref b1), .val (.ref b8), .val (.ref b15), .val (.ref b22), .val (.ref b26), .unset, .unset, .unset, .unset] [(.ref b5001), (.ref b5001)])
      refine own_st (fun t k => XS.iconst X5020.here hx rfl (hb hby at_215) k) ?_
      obtain ⟨T5022, h5022, X5022, e5022, E5022, A5022, D5022, -, st5022⟩ := newO X5020 hx hZ hown (own_w hw 3 rfl) (own_w hw 5 rfl) (own_w hw 6 rfl) e5020 (g := (mkF m 216 #[.val (.long jp0), .second, .val (.long jp1), .second, .val (.long jp2), .second, .val (.long jp3), .second, .val (.int ip4), .val (.int ip5), .val (.int n10), .val (.int n11), .val (.ref b1), .val (.ref b8), .val (.ref b15), .val (.ref b22), .val (.ref b26), .unset, .unset, .unset, .unset] [(.int (2 : Int32)), (.ref b5001), (.ref b5001)])) rfl (hb hby at_216) (by decide) (by decide)
      obtain ⟨b5022, g5022⟩ : ∃ z, z = h5020.size := ⟨_, rfl⟩
      rw [← g5022] at A5022 D5022 st5022
      have g_b5022 : n0 ≤ b5022 := Nat.le_trans Z5020 (Nat.le_of_eq g5022.symm)
      have sz_b5022 : h0.size ≤ b5022 := Nat.le_trans K5020.1 (Nat.le_of_eq g5022.symm)
      refine own_st st5022 ?_
      have K5022 : Keep h0 h5022 [] := K5020.ext E5022
      have Z5022 := Nat.le_trans Z5020 E5022.1
      have F5022_20 : Fld Z h5022 b5022 own_s1 "id" "J" (.long (0 : Int64)) := D5022 (Or.inr (own_w hw 20 rfl)) (ty := .long) (by decide)
      have F5022_22 : Fld Z h5022 b5022 own_s1 "priority" "J" (.long (0 : Int64)) := D5022 (Or.inr (own_w hw 22 rfl)) (ty := .long) (by decide)
      have F5022_24 : Fld Z h5022 b5022 own_s1 "payload" "[B" .null := D5022 (Or.inr (own_w hw 24 rfl)) (ty := (.array .byte)) (by decide)
      have F5022_26 : Fld Z h5022 b5022 own_s1 "needs" "Lcom/example/lonborg/lonborg/Resources;" .null := D5022 (Or.inr (own_w hw 26 rfl)) (ty := (.object own_s3)) (by decide)
      refine own_st (fun t k => XS.dup X5022.here hx rfl (hb hby at_219) rfl rfl k) ?_
      show own_Go _ _ _ _ T5022 (mkF m 220 #[.val (.long jp0), .second, .val (.long jp1), .second, .val (.long jp2), .second, .val (.long jp3), .second, .val (.int ip4), .val (.int ip5), .val (.int n10), .val (.int n11), .val (.ref b1), .val (.ref b8), .val (.ref b15), .val (.ref b22), .val (.ref b26), .unset, .unset, .unset, .unset] [(.ref b5022), (.ref b5022), (.int (2 : Int32)), (.ref b5001), (.ref b5001)])
      refine own_st (fun t k => XS.aload X5022.here hx rfl (hb hby at_220) rfl rfl (XS.iconst X5022.here hx rfl (hb hby at_222) k)) ?_
      have f5023 := (P16.keep K5022 nin0)
      refine own_st (own_laload X5022 hx hZ e5022 f5023 (j := (2 : Int32)) (v := (.long d2)) ⟨by decide, by decide⟩ rfl (g := (mkF m 223 #[.val (.long jp0), .second, .val (.long jp1), .second, .val (.long jp2), .second, .val (.long jp3), .second, .val (.int ip4), .val (.int ip5), .val (.int n10), .val (.int n11), .val (.ref b1), .val (.ref b8), .val (.ref b15), .val (.ref b22), .val (.ref b26), .unset, .unset, .unset, .unset] [(.int (2 : Int32)), (.ref b26), (.ref b5022), (.ref b5022), (.int (2 : Int32)), (.ref b5001), (.ref b5001)])) rfl rfl (hb hby at_223)) ?_
      show own_Go _ _ _ _ T5022 (mkF m 224 #[.val (.long jp0), .second, .val (.long jp1), .second, .val (.long jp2), .second, .val (.long jp3), .second, .val (.int ip4), .val (.int ip5), .val (.int n10), .val (.int n11), .val (.ref b1), .val (.ref b8), .val (.ref b15), .val (.ref b22), .val (.ref b26), .unset, .unset, .unset, .unset] [(.long d2), (.ref b5022), (.ref b5022), (.int (2 : Int32)), (.ref b5001), (.ref b5001)])
      refine own_st (fun t k => XS.aload X5022.here hx rfl (hb hby at_224) rfl rfl (XS.iconst X5022.here hx rfl (hb hby at_226) k)) ?_
      have f5024 := (P14.keep K5022 nin0)
      refine own_st (own_laload X5022 hx hZ e5022 f5024 (j := (2 : Int32)) (v := (.long jp2)) ⟨by decide, by decide⟩ rfl (g := (mkF m 227 #[.val (.long jp0), .second, .val (.long jp1), .second, .val (.long jp2), .second, .val (.long jp3), .second, .val (.int ip4), .val (.int ip5), .val (.int n10), .val (.int n11), .val (.ref b1), .val (.ref b8), .val (.ref b15), .val (.ref b22), .val (.ref b26), .unset, .unset, .unset, .unset] [(.int (2 : Int32)), (.ref b22), (.long d2), (.ref b5022), (.ref b5022), (.int (2 : Int32)), (.ref b5001), (.ref b5001)])) rfl rfl (hb hby at_227)) ?_
      show own_Go _ _ _ _ T5022 (mkF m 228 #[.val (.long jp0), .second, .val (.long jp1), .second, .val (.long jp2), .second, .val (.long jp3), .second, .val (.int ip4), .val (.int ip5), .val (.int n10), .val (.int n11), .val (.ref b1), .val (.ref b8), .val (.ref b15), .val (.ref b22), .val (.ref b26), .unset, .unset, .unset, .unset] [(.long jp2), (.long d2), (.ref b5022), (.ref b5022), (.int (2 : Int32)), (.ref b5001), (.ref b5001)])
      have f5025 := (own_stak P0 K5022 all0)
      refine own_gS X5022 hx hZ hown (own_w hw 7 rfl) e5022 f5025 (hb hby at_228) rfl fun T5026 X5026 e5026 => ?_
      refine own_cI (a := b5022) X5026 hx hZ hown (own_w hw 10 rfl) (own_w hw 11 rfl) (own_w hw 6 rfl) (own_w hw 12 rfl) [(.long d2), (.long jp2), (.ref w_NONE)] [(.ref b5022), (.int (2 : Int32)), (.ref b5001), (.ref b5001)] (own_rm1_4 l Z a0 hw [] b5022 d2 jp2 w_NONE h5022 n0 Z5022 A5022 F5022_20 F5022_22 F5022_24 F5022_26 g_b5022) 4 (hb hby at_231) (by rw [hml]; rfl) (lenOf own_pd1 rfl) e5026 rfl rfl (by show 2 * 0 + _ ≤ _; exact Nat.le_of_eq rfl) (by decide) (by decide) (by decide) rfl (by decide) (by decide) fun v5027 T5027 L5027 X5027 hQ5027 => ?_
      obtain ⟨N5027q, Kq5027, hL5027⟩ := hQ5027
      have N5027 := Fr.app N5020 N5027q
      have K5027 : Keep h0 T5027.heap [] := K5022.trans Kq5027 (allS (Or.inr sz_b5022) all0)
      have Z5027 := Nat.le_trans Z5022 Kq5027.1
      rcases hL5027 with ⟨rfl, Fc5027_0_0, Fc5027_0_1, Fc5027_0_2, Fc5027_0_3, -⟩
      · skip
        have ne5028 : b5001 ≠ b5022 := Nat.ne_of_lt (Nat.lt_of_lt_of_le V5020.lt (Nat.le_of_eq g5022.symm))
        have f5029 := ((V5020.ext E5022).keep Kq5027 (ninS ne5028 nin0))
        obtain ⟨c5030, A5030, q5030, S5030, M5030, H5030, G5030⟩ := f5029
        have f5031 := (A5022.keep Kq5027)
        obtain ⟨T5030, h5030, X5030, e5030, W5030, st5030⟩ := stR X5027 hx hZ rfl A5030 (j := (2 : Int32)) (inb_of S5030 ⟨by decide, by decide⟩) rfl (Sto.ofV A5030 q5030 O5001 (Ins.self f5031)) (g := (mkF m 234 #[.val (.long jp0), .second, .val (.long jp1), .second, .val (.long jp2), .second, .val (.long jp3), .second, .val (.int ip4), .val (.int ip5), .val (.int n10), .val (.int n11), .val (.ref b1), .val (.ref b8), .val (.ref b15), .val (.ref b22), .val (.ref b26), .unset, .unset, .unset, .unset] [(.ref b5022), (.int (2 : Int32)), (.ref b5001), (.ref b5001)])) rfl rfl (hb hby at_234)
        refine own_st st5030 ?_
        have K5030 : Keep h0 h5030 [] := K5027.wr W5030 (Or.inr sz_b5001)
        have Z5030 := Nat.le_trans Z5027 (Keep.of_wr W5030).1
        have N5030 := Fr.snoc X5030 N5027 g_b5001
        have V5030 : Arv Z h5030 b5001 k5001 (.object own_s1) (3 : Int32) [(.ref b5002), (.ref b5012), (.ref b5022)] .null := Arv.set A5030 q5030 S5030 M5030 H5030 G5030 rfl W5030 2 rfl (Nat.le_of_ble_eq_true rfl)
        show own_Go _ _ _ _ T5030 (mkF m 235 #[.val (.long jp0), .second, .val (.long jp1), .second, .val (.long jp2), .second, .val (.long jp3), .second, .val (.int ip4), .val (.int ip5), .val (.int n10), .val (.int n11), .val (.ref b1), .val (.ref b8), .val (.ref b15), .val (.ref b22), .val (.ref b26), .unset, .unset, .unset, .unset] [(.ref b5001)])
        refine own_st (fun t k => XS.astore X5030.here hx rfl (hb hby at_235) rfl rfl (l' := #[.val (.long jp0), .second, .val (.long jp1), .second, .val (.long jp2), .second, .val (.long jp3), .second, .val (.int ip4), .val (.int ip5), .val (.int n10), .val (.int n11), .val (.ref b1), .val (.ref b8), .val (.ref b15), .val (.ref b22), .val (.ref b26), .val (.ref b5001), .unset, .unset, .unset]) rfl k) ?_
        obtain ⟨T5032, h5032, X5032, e5032, E5032, A5032, D5032, -, st5032⟩ := newO X5030 hx hZ hown (own_w hw 28 rfl) (own_w hw 29 rfl) (own_w hw 30 rfl) e5030 (g := (mkF m 237 #[.val (.long jp0), .second, .val (.long jp1), .second, .val (.long jp2), .second, .val (.long jp3), .second, .val (.int ip4), .val (.int ip5), .val (.int n10), .val (.int n11), .val (.ref b1), .val (.ref b8), .val (.ref b15), .val (.ref b22), .val (.ref b26), .val (.ref b5001), .unset, .unset, .unset] [])) rfl (hb hby at_237) (by decide) (by decide)
        obtain ⟨b5032, g5032⟩ : ∃ z, z = h5030.size := ⟨_, rfl⟩
        rw [← g5032] at A5032 D5032 st5032
        have g_b5032 : n0 ≤ b5032 := Nat.le_trans Z5030 (Nat.le_of_eq g5032.symm)
        have sz_b5032 : h0.size ≤ b5032 := Nat.le_trans K5030.1 (Nat.le_of_eq g5032.symm)
        refine own_st st5032 ?_
        have K5032 : Keep h0 h5032 [] := K5030.ext E5032
        have Z5032 := Nat.le_trans Z5030 E5032.1
        have F5032_56 : Fld Z h5032 b5032 own_s5 "root" "Lcom/example/lonborg/lonborg/ItemTree$Node;" .null := D5032 (Or.inl (own_w hw 56 rfl)) (ty := (.object own_s0)) (by decide)
        have F5032_63 : Fld Z h5032 b5032 own_s5 "size" "J" (.long (0 : Int64)) := D5032 (Or.inl (own_w hw 63 rfl)) (ty := .long) (by decide)
        refine own_st (fun t k => XS.dup X5032.here hx rfl (hb hby at_240) rfl rfl k) ?_
        show own_Go _ _ _ _ T5032 (mkF m 241 #[.val (.long jp0), .second, .val (.long jp1), .second, .val (.long jp2), .second, .val (.long jp3), .second, .val (.int ip4), .val (.int ip5), .val (.int n10), .val (.int n11), .val (.ref b1), .val (.ref b8), .val (.ref b15), .val (.ref b22), .val (.ref b26), .val (.ref b5001), .unset, .unset, .unset] [(.ref b5032), (.ref b5032)])
        have f5033 := (own_stak P2 K5032 all0)
        refine own_cI (a := b5032) X5032 hx hZ hown (own_w hw 31 rfl) (own_w hw 32 rfl) (own_w hw 30 rfl) (own_w hw 33 rfl) [] [(.ref b5032)] (own_rm4_14 l Z a0 hw [] b5032 w_EMPTY h5032 n0 Z5032 f5033 A5032 F5032_56 g_b5032 F5032_63) 1 (hb hby at_241) (by rw [hml]; rfl) (lenOf own_pd2 rfl) e5032 rfl rfl (by show 2 * 0 + _ ≤ _; exact Nat.le_of_eq rfl) (by decide) (by decide) (by decide) rfl (by decide) (by decide) fun v5034 T5034 L5034 X5034 hQ5034 => ?_
        obtain ⟨N5034q, Kq5034, hL5034⟩ := hQ5034
        have N5034 := Fr.app N5030 N5034q
        have K5034 : Keep h0 T5034.heap [] := K5032.trans Kq5034 (allS (Or.inr sz_b5032) all0)
        have Z5034 := Nat.le_trans Z5032 Kq5034.1
        rcases hL5034 with ⟨b2x4_14c5034, b2x5_18c4c5034, k2x5_18c4c5034, rfl, sq_b2x4_14c5034, sq_b2x5_18c4c5034, Fc5034_0_0, Fc5034_0_1, Fc5034_0_2, Fc5034_0_3, Fc5034_0_4, Fc5034_0_5, Fc5034_0_6, Fc5034_0_7, OFc5034_0_7, Fc5034_0_8, -⟩
        · skip
          have g_b2x4_14c5034 : n0 ≤ b2x4_14c5034 := Nat.le_trans Z5032 sq_b2x4_14c5034
          have sz_b2x4_14c5034 : h0.size ≤ b2x4_14c5034 := Nat.le_trans K5032.1 sq_b2x4_14c5034
          have g_b2x5_18c4c5034 : n0 ≤ b2x5_18c4c5034 := Nat.le_trans Z5032 sq_b2x5_18c4c5034
          have sz_b2x5_18c4c5034 : h0.size ≤ b2x5_18c4c5034 := Nat.le_trans K5032.1 sq_b2x5_18c4c5034
          refine own_st (fun t k => XS.astore X5034.here hx rfl (hb hby at_244) rfl rfl (l' := #[.val (.long jp0), .second, .val (.long jp1), .second, .val (.long jp2), .second, .val (.long jp3), .second, .val (.int ip4), .val (.int ip5), .val (.int n10), .val (.int n11), .val (.ref b1), .val (.ref b8), .val (.ref b15), .val (.ref b22), .val (.ref b26), .val (.ref b5001), .val (.ref b5032), .unset, .unset]) rfl k) ?_
          show own_Go _ _ _ _ T5034 (mkF m 246 #[.val (.long jp0), .second, .val (.long jp1), .second, .val (.long jp2), .second, .val (.long jp3), .second, .val (.int ip4), .val (.int ip5), .val (.int n10), .val (.int n11), .val (.ref b1), .val (.ref b8), .val (.ref b15), .val (.ref b22), .val (.ref b26), .val (.ref b5001), .val (.ref b5032), .unset, .unset] [])
          rcases hn10 with rfl | rfl | rfl | rfl
          · skip
            show own_Go _ _ _ _ T5034 (mkF m 246 #[.val (.long jp0), .second, .val (.long jp1), .second, .val (.long jp2), .second, .val (.long jp3), .second, .val (.int ip4), .val (.int ip5), .val (.int (0 : Int32)), .val (.int n11), .val (.ref b1), .val (.ref b8), .val (.ref b15), .val (.ref b22), .val (.ref b26), .val (.ref b5001), .val (.ref b5032), .unset, .unset] [])
            refine own_st (fun t k => XS.iload X5034.here hx rfl (hb hby at_246) rfl (XS.ifYes X5034.here hx rfl (pc0 := 248) (pc' := 260) rfl (hb hby at_248) rfl ((if0 _ _).trans (flt (by decide : ¬ ((0 : Int32) < (0 : Int32)))).2.2.2) (by decide) (by decide) (XS.iload X5034.here hx rfl (hb hby at_260) rfl k))) ?_
            show own_Go _ _ _ _ T5034 (mkF m 262 #[.val (.long jp0), .second, .val (.long jp1), .second, .val (.long jp2), .second, .val (.long jp3), .second, .val (.int ip4), .val (.int ip5), .val (.int (0 : Int32)), .val (.int n11), .val (.ref b1), .val (.ref b8), .val (.ref b15), .val (.ref b22), .val (.ref b26), .val (.ref b5001), .val (.ref b5032), .unset, .unset] [(.int (0 : Int32))])
            refine own_st (fun t k => XS.iconst X5034.here hx rfl (hb hby at_262) (XS.icmpYes X5034.here hx rfl (pc0 := 263) (pc' := 275) rfl (hb hby at_263) rfl (flt (by decide : ¬ ((1 : Int32) < (0 : Int32)))).2.2.2 (by decide) (by decide) (XS.iload X5034.here hx rfl (hb hby at_275) rfl k))) ?_
            show own_Go _ _ _ _ T5034 (mkF m 277 #[.val (.long jp0), .second, .val (.long jp1), .second, .val (.long jp2), .second, .val (.long jp3), .second, .val (.int ip4), .val (.int ip5), .val (.int (0 : Int32)), .val (.int n11), .val (.ref b1), .val (.ref b8), .val (.ref b15), .val (.ref b22), .val (.ref b26), .val (.ref b5001), .val (.ref b5032), .unset, .unset] [(.int (0 : Int32))])
            refine own_st (fun t k => XS.iconst X5034.here hx rfl (hb hby at_277) (XS.icmpYes X5034.here hx rfl (pc0 := 278) (pc' := 290) rfl (hb hby at_278) rfl (flt (by decide : ¬ ((2 : Int32) < (0 : Int32)))).2.2.2 (by decide) (by decide) (XS.aload X5034.here hx rfl (hb hby at_290) rfl rfl k))) ?_
            show own_Go _ _ _ _ T5034 (mkF m 292 #[.val (.long jp0), .second, .val (.long jp1), .second, .val (.long jp2), .second, .val (.long jp3), .second, .val (.int ip4), .val (.int ip5), .val (.int (0 : Int32)), .val (.int n11), .val (.ref b1), .val (.ref b8), .val (.ref b15), .val (.ref b22), .val (.ref b26), .val (.ref b5001), .val (.ref b5032), .unset, .unset] [(.ref b5032)])
            have f5036 := (A5032.keep Kq5034)
            refine own_cV (a := b5032) X5034 hx hZ hown (own_w hw 57 rfl) (own_w hw 58 rfl) (own_w hw 60 rfl) (own_w hw 59 rfl) (own_w hw 30 rfl) (own_w hw 61 rfl) [] [] f5036 (own_rm7_21 l Z a0 hw [] b5032 T5034.heap n0 Z5034 Fc5034_0_1) 0 (hb hby at_292) (by rw [hml]; rfl) (lenOf own_pd3 rfl) rfl rfl rfl (by show 2 * 0 + _ ≤ _; exact Nat.le_of_eq rfl) (by decide) (by decide) (by decide) (by decide) (by decide) fun v5035 T5035 L5035 X5035 hQ5035 => ?_
            obtain ⟨N5035q, Kq5035, hL5035⟩ := hQ5035
            have N5035 := Fr.app N5034 N5035q
            have K5035 : Keep h0 T5035.heap [] := K5034.trans Kq5035 all0
            have Z5035 := Nat.le_trans Z5034 Kq5035.1
            rcases hL5035 with ⟨rfl, -⟩
            · skip
              refine own_st (fun t k => XS.astore X5035.here hx rfl (hb hby at_295) rfl rfl (l' := #[.val (.long jp0), .second, .val (.long jp1), .second, .val (.long jp2), .second, .val (.long jp3), .second, .val (.int ip4), .val (.int ip5), .val (.int (0 : Int32)), .val (.int n11), .val (.ref b1), .val (.ref b8), .val (.ref b15), .val (.ref b22), .val (.ref b26), .val (.ref b5001), .val (.ref b5032), .val .null, .unset]) rfl (XS.iload X5035.here hx rfl (hb hby at_297) rfl k)) ?_
              show own_Go _ _ _ _ T5035 (mkF m 299 #[.val (.long jp0), .second, .val (.long jp1), .second, .val (.long jp2), .second, .val (.long jp3), .second, .val (.int ip4), .val (.int ip5), .val (.int (0 : Int32)), .val (.int n11), .val (.ref b1), .val (.ref b8), .val (.ref b15), .val (.ref b22), .val (.ref b26), .val (.ref b5001), .val (.ref b5032), .val .null, .unset] [(.int (0 : Int32))])
              refine own_st (fun t k => XS.ifNo X5035.here hx rfl (hb hby at_299) rfl ((if0 _ _).trans (teq (by decide : (0 : Int32) = (0 : Int32))).2) (XS.aload X5035.here hx rfl (hb hby at_302) rfl rfl (XS.ifnonnullNo X5035.here hx rfl (hb hby at_304) rfl k))) ?_
              show own_Go _ _ _ _ T5035 (mkF m 307 #[.val (.long jp0), .second, .val (.long jp1), .second, .val (.long jp2), .second, .val (.long jp3), .second, .val (.int ip4), .val (.int ip5), .val (.int (0 : Int32)), .val (.int n11), .val (.ref b1), .val (.ref b8), .val (.ref b15), .val (.ref b22), .val (.ref b26), .val (.ref b5001), .val (.ref b5032), .val .null, .unset] [])
              refine own_st (fun t k => XS.iconst X5035.here hx rfl (hb hby at_307) (XS.goto X5035.here hx rfl (pc0 := 308) (pc' := 312) rfl (hb hby at_308) (by decide) (by decide) k)) ?_
              exact own_retZ X5035 hx hlk (t := .boolean) hret (by simp) (hb hby at_312) (by decide) (by decide) rfl ⟨rfl, N5035⟩
          · skip
            show own_Go _ _ _ _ T5034 (mkF m 246 #[.val (.long jp0), .second, .val (.long jp1), .second, .val (.long jp2), .second, .val (.long jp3), .second, .val (.int ip4), .val (.int ip5), .val (.int (1 : Int32)), .val (.int n11), .val (.ref b1), .val (.ref b8), .val (.ref b15), .val (.ref b22), .val (.ref b26), .val (.ref b5001), .val (.ref b5032), .unset, .unset] [])
            refine own_st (fun t k => XS.iload X5034.here hx rfl (hb hby at_246) rfl (XS.ifNo X5034.here hx rfl (hb hby at_248) rfl ((if0 _ _).trans (tlt (by decide : (0 : Int32) < (1 : Int32))).2.2.2) (XS.aload X5034.here hx rfl (hb hby at_251) rfl rfl k))) ?_
            show own_Go _ _ _ _ T5034 (mkF m 253 #[.val (.long jp0), .second, .val (.long jp1), .second, .val (.long jp2), .second, .val (.long jp3), .second, .val (.int ip4), .val (.int ip5), .val (.int (1 : Int32)), .val (.int n11), .val (.ref b1), .val (.ref b8), .val (.ref b15), .val (.ref b22), .val (.ref b26), .val (.ref b5001), .val (.ref b5032), .unset, .unset] [(.ref b5032)])
            refine own_st (fun t k => XS.aload X5034.here hx rfl (hb hby at_253) rfl rfl (XS.iconst X5034.here hx rfl (hb hby at_255) k)) ?_
            have ne5037 : b5001 ≠ b5032 := Nat.ne_of_lt (Nat.lt_of_lt_of_le V5030.lt (Nat.le_of_eq g5032.symm))
            have f5038 := ((V5030.ext E5032).keep Kq5034 (ninS ne5037 nin0))
            refine own_st (own_aaload X5034 hx hZ rfl f5038 rfl (j := (0 : Int32)) (v := (.ref b5002)) ⟨by decide, by decide⟩ rfl (g := (mkF m 256 #[.val (.long jp0), .second, .val (.long jp1), .second, .val (.long jp2), .second, .val (.long jp3), .second, .val (.int ip4), .val (.int ip5), .val (.int (1 : Int32)), .val (.int n11), .val (.ref b1), .val (.ref b8), .val (.ref b15), .val (.ref b22), .val (.ref b26), .val (.ref b5001), .val (.ref b5032), .unset, .unset] [(.int (0 : Int32)), (.ref b5001), (.ref b5032)])) rfl rfl (hb hby at_256)) ?_
            show own_Go _ _ _ _ T5034 (mkF m 257 #[.val (.long jp0), .second, .val (.long jp1), .second, .val (.long jp2), .second, .val (.long jp3), .second, .val (.int ip4), .val (.int ip5), .val (.int (1 : Int32)), .val (.int n11), .val (.ref b1), .val (.ref b8), .val (.ref b15), .val (.ref b22), .val (.ref b26), .val (.ref b5001), .val (.ref b5032), .unset, .unset] [(.ref b5002), (.ref b5032)])
            have ne5039 : b5002 ≠ b5012 := Nat.ne_of_lt (Nat.lt_of_lt_of_le (f5011.wr W5010).lt (Nat.le_of_eq g5012.symm))
            have ne5040 : b5002 ≠ b5022 := Nat.ne_of_lt (Nat.lt_of_lt_of_le ((((f5011.wr W5010).ext E5012).keep Kq5017).wr W5020).lt (Nat.le_of_eq g5022.symm))
            have ne5041 : b5002 ≠ b5032 := Nat.ne_of_lt (Nat.lt_of_lt_of_le (((((((f5011.wr W5010).ext E5012).keep Kq5017).wr W5020).ext E5022).keep Kq5027).wr W5030).lt (Nat.le_of_eq g5032.symm))
            have f5042 := (((((((((Fc5007_0_3.other W5010 (Or.inl (Ne.symm ne5008))).ext E5012).keep Kq5017 (ninS ne5039 nin0)).other W5020 (Or.inl (Ne.symm ne5008))).ext E5022).keep Kq5027 (ninS ne5040 nin0)).other W5030 (Or.inl (Ne.symm ne5008))).ext E5032).keep Kq5034 (ninS ne5041 nin0))
            have f5043 := (((((((((f5011.wr W5010).ext E5012).keep Kq5017).wr W5020).ext E5022).keep Kq5027).wr W5030).ext E5032).keep Kq5034)
            have f5044 := (own_stak f5033 Kq5034 (allS (own_plE A5032) all0))
            have f5045 := (P4.keep K5034 nin0)
            have f5046 := (P6.keep K5034 nin0)
            have f5047 := (P1.keep K5034)
            have f5048 := (P3.keep K5034)
            have f5049 := (A5032.keep Kq5034)
            refine own_cV (a := b5032) X5034 hx hZ hown (own_w hw 64 rfl) (own_w hw 65 rfl) (own_w hw 67 rfl) (own_w hw 66 rfl) (own_w hw 30 rfl) (own_w hw 68 rfl) [(.ref b5002)] [] f5049 (own_rm8_47 l Z a0 hw [] b5032 b5002 b2x4_14c5034 w_NONE w_EMPTY w_EMPTY_parts k_w_EMPTY_parts b2x5_18c4c5034 k2x5_18c4c5034 T5034.heap n0 Z5034 Fc5034_0_0 Fc5034_0_5 Fc5034_0_2 f5042 f5043 f5044 Fc5034_0_3 Fc5034_0_6 f5045 f5046 f5047 f5048 Fc5034_0_4 Fc5034_0_7 OFc5034_0_7 Fc5034_0_8 g_b2x4_14c5034 g_b2x5_18c4c5034 Fc5034_0_1 f5049 g_b5032) 0 (hb hby at_257) (by rw [hml]; rfl) (lenOf own_pd12 rfl) rfl rfl rfl (by show 2 * 0 + _ ≤ _; exact Nat.le_of_eq rfl) (by decide) (by decide) (by decide) (by decide) (by decide) fun v5050 T5050 L5050 X5050 hQ5050 => ?_
            obtain ⟨N5050q, Kq5050, hL5050⟩ := hQ5050
            have N5050 := Fr.app N5034 N5050q
            have K5050 : Keep h0 T5050.heap [] := K5034.trans Kq5050 (allS (Or.inr sz_b2x5_18c4c5034) (allS (Or.inr sz_b2x4_14c5034) (allS (Or.inr sz_b5032) all0)))
            have Z5050 := Nat.le_trans Z5034 Kq5050.1
            rcases hL5050 with ⟨b6x14_69c4c13c16c2c5050, b3x14_69c4c13c16c2c5050, k2x5_18c4c5034c2c5050, k3x14_69c4c13c16c2c5050, rfl, hq5050_0_0, sq_b6x14_69c4c13c16c2c5050, sq_b3x14_69c4c13c16c2c5050, Fc5050_0_0, OFc5050_0_0, Fc5050_0_1, Fc5050_0_2, Fc5050_0_3, Fc5050_0_4, Fc5050_0_5, Fc5050_0_6, Fc5050_0_7, Fc5050_0_8, Fc5050_0_9, OFc5050_0_9, Fc5050_0_10, -⟩
            · skip
              have g_b6x14_69c4c13c16c2c5050 : n0 ≤ b6x14_69c4c13c16c2c5050 := Nat.le_trans Z5034 sq_b6x14_69c4c13c16c2c5050
              have sz_b6x14_69c4c13c16c2c5050 : h0.size ≤ b6x14_69c4c13c16c2c5050 := Nat.le_trans K5034.1 sq_b6x14_69c4c13c16c2c5050
              have g_b3x14_69c4c13c16c2c5050 : n0 ≤ b3x14_69c4c13c16c2c5050 := Nat.le_trans Z5034 sq_b3x14_69c4c13c16c2c5050
              have sz_b3x14_69c4c13c16c2c5050 : h0.size ≤ b3x14_69c4c13c16c2c5050 := Nat.le_trans K5034.1 sq_b3x14_69c4c13c16c2c5050
              refine own_st (fun t k => XS.iload X5050.here hx rfl (hb hby at_260) rfl (XS.iconst X5050.here hx rfl (hb hby at_262) k)) ?_
              show own_Go _ _ _ _ T5050 (mkF m 263 #[.val (.long jp0), .second, .val (.long jp1), .second, .val (.long jp2), .second, .val (.long jp3), .second, .val (.int ip4), .val (.int ip5), .val (.int (1 : Int32)), .val (.int n11), .val (.ref b1), .val (.ref b8), .val (.ref b15), .val (.ref b22), .val (.ref b26), .val (.ref b5001), .val (.ref b5032), .unset, .unset] [(.int (1 : Int32)), (.int (1 : Int32))])
              refine own_st (fun t k => XS.icmpYes X5050.here hx rfl (pc0 := 263) (pc' := 275) rfl (hb hby at_263) rfl (flt (by decide : ¬ ((1 : Int32) < (1 : Int32)))).2.2.2 (by decide) (by decide) (XS.iload X5050.here hx rfl (hb hby at_275) rfl (XS.iconst X5050.here hx rfl (hb hby at_277) k))) ?_
              show own_Go _ _ _ _ T5050 (mkF m 278 #[.val (.long jp0), .second, .val (.long jp1), .second, .val (.long jp2), .second, .val (.long jp3), .second, .val (.int ip4), .val (.int ip5), .val (.int (1 : Int32)), .val (.int n11), .val (.ref b1), .val (.ref b8), .val (.ref b15), .val (.ref b22), .val (.ref b26), .val (.ref b5001), .val (.ref b5032), .unset, .unset] [(.int (2 : Int32)), (.int (1 : Int32))])
              refine own_st (fun t k => XS.icmpYes X5050.here hx rfl (pc0 := 278) (pc' := 290) rfl (hb hby at_278) rfl (flt (by decide : ¬ ((2 : Int32) < (1 : Int32)))).2.2.2 (by decide) (by decide) (XS.aload X5050.here hx rfl (hb hby at_290) rfl rfl k)) ?_
              have f5051 := (Fc5034_0_2.keep Kq5050)
              have f5053 := (f5049.keep Kq5050)
              refine own_cV (a := b5032) X5050 hx hZ hown (own_w hw 57 rfl) (own_w hw 58 rfl) (own_w hw 60 rfl) (own_w hw 59 rfl) (own_w hw 30 rfl) (own_w hw 61 rfl) [] [] f5053 (own_rm7_72 l Z a0 hw [] b5032 b2x4_14c5034 b2x5_18c4c5034 k2x5_18c4c5034c2c5050 b5002 T5050.heap n0 Z5050 Fc5050_0_6 Fc5050_0_5 Fc5050_0_4 Fc5050_0_0 OFc5050_0_0 f5051) 0 (hb hby at_292) (by rw [hml]; rfl) (lenOf own_pd3 rfl) rfl rfl rfl (by show 2 * 0 + _ ≤ _; exact Nat.le_of_eq rfl) (by decide) (by decide) (by decide) (by decide) (by decide) fun v5052 T5052 L5052 X5052 hQ5052 => ?_
              obtain ⟨N5052q, Kq5052, hL5052⟩ := hQ5052
              have N5052 := Fr.app N5050 N5052q
              have K5052 : Keep h0 T5052.heap [] := K5050.trans Kq5052 all0
              have Z5052 := Nat.le_trans Z5050 Kq5052.1
              rcases hL5052 with ⟨rfl, -⟩
              · skip
                show own_Go _ _ _ _ T5052 (mkF m 295 #[.val (.long jp0), .second, .val (.long jp1), .second, .val (.long jp2), .second, .val (.long jp3), .second, .val (.int ip4), .val (.int ip5), .val (.int (1 : Int32)), .val (.int n11), .val (.ref b1), .val (.ref b8), .val (.ref b15), .val (.ref b22), .val (.ref b26), .val (.ref b5001), .val (.ref b5032), .unset, .unset] [(.ref b5002)])
                refine own_st (fun t k => XS.astore X5052.here hx rfl (hb hby at_295) rfl rfl (l' := #[.val (.long jp0), .second, .val (.long jp1), .second, .val (.long jp2), .second, .val (.long jp3), .second, .val (.int ip4), .val (.int ip5), .val (.int (1 : Int32)), .val (.int n11), .val (.ref b1), .val (.ref b8), .val (.ref b15), .val (.ref b22), .val (.ref b26), .val (.ref b5001), .val (.ref b5032), .val (.ref b5002), .unset]) rfl (XS.iload X5052.here hx rfl (hb hby at_297) rfl (XS.ifYes X5052.here hx rfl (pc0 := 299) (pc' := 313) rfl (hb hby at_299) rfl ((if0 _ _).trans (feq (by decide : ¬ ((1 : Int32) = (0 : Int32)))).2) (by decide) (by decide) k))) ?_
                show own_Go _ _ _ _ T5052 (mkF m 313 #[.val (.long jp0), .second, .val (.long jp1), .second, .val (.long jp2), .second, .val (.long jp3), .second, .val (.int ip4), .val (.int ip5), .val (.int (1 : Int32)), .val (.int n11), .val (.ref b1), .val (.ref b8), .val (.ref b15), .val (.ref b22), .val (.ref b26), .val (.ref b5001), .val (.ref b5032), .val (.ref b5002), .unset] [])
                refine own_st (fun t k => XS.iconst X5052.here hx rfl (hb hby at_313) (XS.istore X5052.here hx rfl (hb hby at_314) rfl (l' := #[.val (.long jp0), .second, .val (.long jp1), .second, .val (.long jp2), .second, .val (.long jp3), .second, .val (.int ip4), .val (.int ip5), .val (.int (1 : Int32)), .val (.int n11), .val (.ref b1), .val (.ref b8), .val (.ref b15), .val (.ref b22), .val (.ref b26), .val (.ref b5001), .val (.ref b5032), .val (.ref b5002), .val (.int (0 : Int32))]) rfl (XS.iload X5052.here hx rfl (hb hby at_316) rfl k))) ?_
                show own_Go _ _ _ _ T5052 (mkF m 318 #[.val (.long jp0), .second, .val (.long jp1), .second, .val (.long jp2), .second, .val (.long jp3), .second, .val (.int ip4), .val (.int ip5), .val (.int (1 : Int32)), .val (.int n11), .val (.ref b1), .val (.ref b8), .val (.ref b15), .val (.ref b22), .val (.ref b26), .val (.ref b5001), .val (.ref b5032), .val (.ref b5002), .val (.int (0 : Int32))] [(.int (1 : Int32))])
                refine own_st (fun t k => XS.iconst X5052.here hx rfl (hb hby at_318) (XS.icmpYes X5052.here hx rfl (pc0 := 319) (pc' := 349) rfl (hb hby at_319) rfl (flt (by decide : ¬ ((1 : Int32) < (1 : Int32)))).2.2.2 (by decide) (by decide) (XS.iload X5052.here hx rfl (hb hby at_349) rfl k))) ?_
                show own_Go _ _ _ _ T5052 (mkF m 351 #[.val (.long jp0), .second, .val (.long jp1), .second, .val (.long jp2), .second, .val (.long jp3), .second, .val (.int ip4), .val (.int ip5), .val (.int (1 : Int32)), .val (.int n11), .val (.ref b1), .val (.ref b8), .val (.ref b15), .val (.ref b22), .val (.ref b26), .val (.ref b5001), .val (.ref b5032), .val (.ref b5002), .val (.int (0 : Int32))] [(.int (1 : Int32))])
                refine own_st (fun t k => XS.iconst X5052.here hx rfl (hb hby at_351) (XS.icmpYes X5052.here hx rfl (pc0 := 352) (pc' := 382) rfl (hb hby at_352) rfl (flt (by decide : ¬ ((2 : Int32) < (1 : Int32)))).2.2.2 (by decide) (by decide) (XS.aload X5052.here hx rfl (hb hby at_382) rfl rfl k))) ?_
                show own_Go _ _ _ _ T5052 (mkF m 384 #[.val (.long jp0), .second, .val (.long jp1), .second, .val (.long jp2), .second, .val (.long jp3), .second, .val (.int ip4), .val (.int ip5), .val (.int (1 : Int32)), .val (.int n11), .val (.ref b1), .val (.ref b8), .val (.ref b15), .val (.ref b22), .val (.ref b26), .val (.ref b5001), .val (.ref b5032), .val (.ref b5002), .val (.int (0 : Int32))] [(.ref b5002)])
                refine own_st (fun t k => XS.aload X5052.here hx rfl (hb hby at_384) rfl rfl (XS.iload X5052.here hx rfl (hb hby at_386) rfl k)) ?_
                have ne5054 : b5001 ≠ b2x4_14c5034 := Nat.ne_of_lt (Nat.lt_of_lt_of_le (V5030.ext E5032).lt sq_b2x4_14c5034)
                have ne5055 : b5001 ≠ b2x5_18c4c5034 := Nat.ne_of_lt (Nat.lt_of_lt_of_le (V5030.ext E5032).lt sq_b2x5_18c4c5034)
                have f5056 := ((f5038.keep Kq5050 (ninS ne5055 (ninS ne5054 (ninS ne5037 nin0)))).keep Kq5052 nin0)
                refine own_st (own_aaload X5052 hx hZ rfl f5056 rfl (j := (0 : Int32)) (v := (.ref b5002)) ⟨by decide, by decide⟩ rfl (g := (mkF m 388 #[.val (.long jp0), .second, .val (.long jp1), .second, .val (.long jp2), .second, .val (.long jp3), .second, .val (.int ip4), .val (.int ip5), .val (.int (1 : Int32)), .val (.int n11), .val (.ref b1), .val (.ref b8), .val (.ref b15), .val (.ref b22), .val (.ref b26), .val (.ref b5001), .val (.ref b5032), .val (.ref b5002), .val (.int (0 : Int32))] [(.int (0 : Int32)), (.ref b5001), (.ref b5002)])) rfl rfl (hb hby at_388)) ?_
                show own_Go _ _ _ _ T5052 (mkF m 389 #[.val (.long jp0), .second, .val (.long jp1), .second, .val (.long jp2), .second, .val (.long jp3), .second, .val (.int ip4), .val (.int ip5), .val (.int (1 : Int32)), .val (.int n11), .val (.ref b1), .val (.ref b8), .val (.ref b15), .val (.ref b22), .val (.ref b26), .val (.ref b5001), .val (.ref b5032), .val (.ref b5002), .val (.int (0 : Int32))] [(.ref b5002), (.ref b5002)])
                refine own_st (fun t k => Jvm.RoadKit.acmp (g := (mkF m 389 #[.val (.long jp0), .second, .val (.long jp1), .second, .val (.long jp2), .second, .val (.long jp3), .second, .val (.int ip4), .val (.int ip5), .val (.int (1 : Int32)), .val (.int n11), .val (.ref b1), .val (.ref b8), .val (.ref b15), .val (.ref b22), .val (.ref b26), .val (.ref b5001), .val (.ref b5032), .val (.ref b5002), .val (.int (0 : Int32))] [(.ref b5002), (.ref b5002)])) X5052 hx rfl rfl rfl (pc0 := 389) (pc' := 392) (same := true) rfl (hb hby at_389) rfl (decide_eq_true (congrArg Value.ref (rfl : b5002 = b5002))) (by decide) (by decide) (XS.iconst X5052.here hx rfl (hb hby at_392) (XS.goto X5052.here hx rfl (pc0 := 393) (pc' := 397) rfl (hb hby at_393) (by decide) (by decide) k))) ?_
                show own_Go _ _ _ _ T5052 (mkF m 397 #[.val (.long jp0), .second, .val (.long jp1), .second, .val (.long jp2), .second, .val (.long jp3), .second, .val (.int ip4), .val (.int ip5), .val (.int (1 : Int32)), .val (.int n11), .val (.ref b1), .val (.ref b8), .val (.ref b15), .val (.ref b22), .val (.ref b26), .val (.ref b5001), .val (.ref b5032), .val (.ref b5002), .val (.int (0 : Int32))] [(.int (1 : Int32))])
                exact own_retZ X5052 hx hlk (t := .boolean) hret (by simp) (hb hby at_397) (by decide) (by decide) rfl ⟨rfl, N5052⟩
          · skip
            refine own_st (fun t k => XS.iload X5034.here hx rfl (hb hby at_246) rfl (XS.ifNo X5034.here hx rfl (hb hby at_248) rfl ((if0 _ _).trans (tlt (by decide : (0 : Int32) < (2 : Int32))).2.2.2) k)) ?_
            show own_Go _ _ _ _ T5034 (mkF m 251 #[.val (.long jp0), .second, .val (.long jp1), .second, .val (.long jp2), .second, .val (.long jp3), .second, .val (.int ip4), .val (.int ip5), .val (.int (2 : Int32)), .val (.int n11), .val (.ref b1), .val (.ref b8), .val (.ref b15), .val (.ref b22), .val (.ref b26), .val (.ref b5001), .val (.ref b5032), .unset, .unset] [])
            refine own_st (fun t k => XS.aload X5034.here hx rfl (hb hby at_251) rfl rfl (XS.aload X5034.here hx rfl (hb hby at_253) rfl rfl (XS.iconst X5034.here hx rfl (hb hby at_255) k))) ?_
            show own_Go _ _ _ _ T5034 (mkF m 256 #[.val (.long jp0), .second, .val (.long jp1), .second, .val (.long jp2), .second, .val (.long jp3), .second, .val (.int ip4), .val (.int ip5), .val (.int (2 : Int32)), .val (.int n11), .val (.ref b1), .val (.ref b8), .val (.ref b15), .val (.ref b22), .val (.ref b26), .val (.ref b5001), .val (.ref b5032), .unset, .unset] [(.int (0 : Int32)), (.ref b5001), (.ref b5032)])
            have ne5057 : b5001 ≠ b5032 := Nat.ne_of_lt (Nat.lt_of_lt_of_le V5030.lt (Nat.le_of_eq g5032.symm))
            have f5058 := ((V5030.ext E5032).keep Kq5034 (ninS ne5057 nin0))
            refine own_st (own_aaload X5034 hx hZ rfl f5058 rfl (j := (0 : Int32)) (v := (.ref b5002)) ⟨by decide, by decide⟩ rfl (g := (mkF m 256 #[.val (.long jp0), .second, .val (.long jp1), .second, .val (.long jp2), .second, .val (.long jp3), .second, .val (.int ip4), .val (.int ip5), .val (.int (2 : Int32)), .val (.int n11), .val (.ref b1), .val (.ref b8), .val (.ref b15), .val (.ref b22), .val (.ref b26), .val (.ref b5001), .val (.ref b5032), .unset, .unset] [(.int (0 : Int32)), (.ref b5001), (.ref b5032)])) rfl rfl (hb hby at_256)) ?_
            have ne5059 : b5002 ≠ b5012 := Nat.ne_of_lt (Nat.lt_of_lt_of_le (f5011.wr W5010).lt (Nat.le_of_eq g5012.symm))
            have ne5060 : b5002 ≠ b5022 := Nat.ne_of_lt (Nat.lt_of_lt_of_le ((((f5011.wr W5010).ext E5012).keep Kq5017).wr W5020).lt (Nat.le_of_eq g5022.symm))
            have ne5061 : b5002 ≠ b5032 := Nat.ne_of_lt (Nat.lt_of_lt_of_le (((((((f5011.wr W5010).ext E5012).keep Kq5017).wr W5020).ext E5022).keep Kq5027).wr W5030).lt (Nat.le_of_eq g5032.symm))
            have f5062 := (((((((((Fc5007_0_3.other W5010 (Or.inl (Ne.symm ne5008))).ext E5012).keep Kq5017 (ninS ne5059 nin0)).other W5020 (Or.inl (Ne.symm ne5008))).ext E5022).keep Kq5027 (ninS ne5060 nin0)).other W5030 (Or.inl (Ne.symm ne5008))).ext E5032).keep Kq5034 (ninS ne5061 nin0))
            have f5063 := (((((((((f5011.wr W5010).ext E5012).keep Kq5017).wr W5020).ext E5022).keep Kq5027).wr W5030).ext E5032).keep Kq5034)
            have f5064 := (own_stak f5033 Kq5034 (allS (own_plE A5032) all0))
            have f5065 := (P4.keep K5034 nin0)
            have f5066 := (P6.keep K5034 nin0)
            have f5067 := (P1.keep K5034)
            have f5068 := (P3.keep K5034)
            have f5069 := (A5032.keep Kq5034)
            refine own_cV (a := b5032) X5034 hx hZ hown (own_w hw 64 rfl) (own_w hw 65 rfl) (own_w hw 67 rfl) (own_w hw 66 rfl) (own_w hw 30 rfl) (own_w hw 68 rfl) [(.ref b5002)] [] f5069 (own_rm8_47 l Z a0 hw [] b5032 b5002 b2x4_14c5034 w_NONE w_EMPTY w_EMPTY_parts k_w_EMPTY_parts b2x5_18c4c5034 k2x5_18c4c5034 T5034.heap n0 Z5034 Fc5034_0_0 Fc5034_0_5 Fc5034_0_2 f5062 f5063 f5064 Fc5034_0_3 Fc5034_0_6 f5065 f5066 f5067 f5068 Fc5034_0_4 Fc5034_0_7 OFc5034_0_7 Fc5034_0_8 g_b2x4_14c5034 g_b2x5_18c4c5034 Fc5034_0_1 f5069 g_b5032) 0 (hb hby at_257) (by rw [hml]; rfl) (lenOf own_pd12 rfl) rfl rfl rfl (by show 2 * 0 + _ ≤ _; exact Nat.le_of_eq rfl) (by decide) (by decide) (by decide) (by decide) (by decide) fun v5070 T5070 L5070 X5070 hQ5070 => ?_
            obtain ⟨N5070q, Kq5070, hL5070⟩ := hQ5070
            have N5070 := Fr.app N5034 N5070q
            have K5070 : Keep h0 T5070.heap [] := K5034.trans Kq5070 (allS (Or.inr sz_b2x5_18c4c5034) (allS (Or.inr sz_b2x4_14c5034) (allS (Or.inr sz_b5032) all0)))
            have Z5070 := Nat.le_trans Z5034 Kq5070.1
            rcases hL5070 with ⟨b6x14_69c4c13c16c2c5070, b3x14_69c4c13c16c2c5070, k2x5_18c4c5034c2c5070, k3x14_69c4c13c16c2c5070, rfl, hq5070_0_0, sq_b6x14_69c4c13c16c2c5070, sq_b3x14_69c4c13c16c2c5070, Fc5070_0_0, OFc5070_0_0, Fc5070_0_1, Fc5070_0_2, Fc5070_0_3, Fc5070_0_4, Fc5070_0_5, Fc5070_0_6, Fc5070_0_7, Fc5070_0_8, Fc5070_0_9, OFc5070_0_9, Fc5070_0_10, -⟩
            · skip
              have g_b6x14_69c4c13c16c2c5070 : n0 ≤ b6x14_69c4c13c16c2c5070 := Nat.le_trans Z5034 sq_b6x14_69c4c13c16c2c5070
              have sz_b6x14_69c4c13c16c2c5070 : h0.size ≤ b6x14_69c4c13c16c2c5070 := Nat.le_trans K5034.1 sq_b6x14_69c4c13c16c2c5070
              have g_b3x14_69c4c13c16c2c5070 : n0 ≤ b3x14_69c4c13c16c2c5070 := Nat.le_trans Z5034 sq_b3x14_69c4c13c16c2c5070
              have sz_b3x14_69c4c13c16c2c5070 : h0.size ≤ b3x14_69c4c13c16c2c5070 := Nat.le_trans K5034.1 sq_b3x14_69c4c13c16c2c5070
              refine own_st (fun t k => XS.iload X5070.here hx rfl (hb hby at_260) rfl k) ?_
              show own_Go _ _ _ _ T5070 (mkF m 262 #[.val (.long jp0), .second, .val (.long jp1), .second, .val (.long jp2), .second, .val (.long jp3), .second, .val (.int ip4), .val (.int ip5), .val (.int (2 : Int32)), .val (.int n11), .val (.ref b1), .val (.ref b8), .val (.ref b15), .val (.ref b22), .val (.ref b26), .val (.ref b5001), .val (.ref b5032), .unset, .unset] [(.int (2 : Int32))])
              refine own_st (fun t k => XS.iconst X5070.here hx rfl (hb hby at_262) (XS.icmpNo X5070.here hx rfl (hb hby at_263) rfl (tlt (by decide : (1 : Int32) < (2 : Int32))).2.2.2 (XS.aload X5070.here hx rfl (hb hby at_266) rfl rfl k))) ?_
              show own_Go _ _ _ _ T5070 (mkF m 268 #[.val (.long jp0), .second, .val (.long jp1), .second, .val (.long jp2), .second, .val (.long jp3), .second, .val (.int ip4), .val (.int ip5), .val (.int (2 : Int32)), .val (.int n11), .val (.ref b1), .val (.ref b8), .val (.ref b15), .val (.ref b22), .val (.ref b26), .val (.ref b5001), .val (.ref b5032), .unset, .unset] [(.ref b5032)])
              refine own_st (fun t k => XS.aload X5070.here hx rfl (hb hby at_268) rfl rfl (XS.iconst X5070.here hx rfl (hb hby at_270) k)) ?_
              have ne5071 : b5001 ≠ b2x4_14c5034 := Nat.ne_of_lt (Nat.lt_of_lt_of_le (V5030.ext E5032).lt sq_b2x4_14c5034)
              have ne5072 : b5001 ≠ b2x5_18c4c5034 := Nat.ne_of_lt (Nat.lt_of_lt_of_le (V5030.ext E5032).lt sq_b2x5_18c4c5034)
              have f5073 := (f5058.keep Kq5070 (ninS ne5072 (ninS ne5071 (ninS ne5057 nin0))))
              refine own_st (own_aaload X5070 hx hZ rfl f5073 rfl (j := (1 : Int32)) (v := (.ref b5012)) ⟨by decide, by decide⟩ rfl (g := (mkF m 271 #[.val (.long jp0), .second, .val (.long jp1), .second, .val (.long jp2), .second, .val (.long jp3), .second, .val (.int ip4), .val (.int ip5), .val (.int (2 : Int32)), .val (.int n11), .val (.ref b1), .val (.ref b8), .val (.ref b15), .val (.ref b22), .val (.ref b26), .val (.ref b5001), .val (.ref b5032), .unset, .unset] [(.int (1 : Int32)), (.ref b5001), (.ref b5032)])) rfl rfl (hb hby at_271)) ?_
              show own_Go _ _ _ _ T5070 (mkF m 272 #[.val (.long jp0), .second, .val (.long jp1), .second, .val (.long jp2), .second, .val (.long jp3), .second, .val (.int ip4), .val (.int ip5), .val (.int (2 : Int32)), .val (.int n11), .val (.ref b1), .val (.ref b8), .val (.ref b15), .val (.ref b22), .val (.ref b26), .val (.ref b5001), .val (.ref b5032), .unset, .unset] [(.ref b5012), (.ref b5032)])
              have ne5074 : b5012 ≠ b5022 := Nat.ne_of_lt (Nat.lt_of_lt_of_le (f5021.wr W5020).lt (Nat.le_of_eq g5022.symm))
              have ne5075 : b5012 ≠ b5032 := Nat.ne_of_lt (Nat.lt_of_lt_of_le ((((f5021.wr W5020).ext E5022).keep Kq5027).wr W5030).lt (Nat.le_of_eq g5032.symm))
              have ne5076 : b5012 ≠ b2x4_14c5034 := Nat.ne_of_lt (Nat.lt_of_lt_of_le (((((f5021.wr W5020).ext E5022).keep Kq5027).wr W5030).ext E5032).lt sq_b2x4_14c5034)
              have ne5077 : b5012 ≠ b2x5_18c4c5034 := Nat.ne_of_lt (Nat.lt_of_lt_of_le (((((f5021.wr W5020).ext E5022).keep Kq5027).wr W5030).ext E5032).lt sq_b2x5_18c4c5034)
              have f5078 := (((((((Fc5017_0_1.other W5020 (Or.inl (Ne.symm ne5018))).ext E5022).keep Kq5027 (ninS ne5074 nin0)).other W5030 (Or.inl (Ne.symm ne5018))).ext E5032).keep Kq5034 (ninS ne5075 nin0)).keep Kq5070 (ninS ne5077 (ninS ne5076 (ninS ne5075 nin0))))
              have f5079 := (((((((f5021.wr W5020).ext E5022).keep Kq5027).wr W5030).ext E5032).keep Kq5034).keep Kq5070)
              have f5080 := (((((((Fc5017_0_0.other W5020 (Or.inl (Ne.symm ne5018))).ext E5022).keep Kq5027 (ninS ne5074 nin0)).other W5030 (Or.inl (Ne.symm ne5018))).ext E5032).keep Kq5034 (ninS ne5075 nin0)).keep Kq5070 (ninS ne5077 (ninS ne5076 (ninS ne5075 nin0))))
              have ne5081 : b5002 ≠ b2x4_14c5034 := Nat.ne_of_lt (Nat.lt_of_lt_of_le ((((((((f5011.wr W5010).ext E5012).keep Kq5017).wr W5020).ext E5022).keep Kq5027).wr W5030).ext E5032).lt sq_b2x4_14c5034)
              have ne5082 : b5002 ≠ b2x5_18c4c5034 := Nat.ne_of_lt (Nat.lt_of_lt_of_le ((((((((f5011.wr W5010).ext E5012).keep Kq5017).wr W5020).ext E5022).keep Kq5027).wr W5030).ext E5032).lt sq_b2x5_18c4c5034)
              have f5083 := ((((((((((Fc5007_0_1.other W5010 (Or.inl (Ne.symm ne5008))).ext E5012).keep Kq5017 (ninS ne5059 nin0)).other W5020 (Or.inl (Ne.symm ne5008))).ext E5022).keep Kq5027 (ninS ne5060 nin0)).other W5030 (Or.inl (Ne.symm ne5008))).ext E5032).keep Kq5034 (ninS ne5061 nin0)).keep Kq5070 (ninS ne5082 (ninS ne5081 (ninS ne5061 nin0))))
              have f5084 := ((((((((((Fc5007_0_0.other W5010 (Or.inl (Ne.symm ne5008))).ext E5012).keep Kq5017 (ninS ne5059 nin0)).other W5020 (Or.inl (Ne.symm ne5008))).ext E5022).keep Kq5027 (ninS ne5060 nin0)).other W5030 (Or.inl (Ne.symm ne5008))).ext E5032).keep Kq5034 (ninS ne5061 nin0)).keep Kq5070 (ninS ne5082 (ninS ne5081 (ninS ne5061 nin0))))
              have f5085 := (f5063.keep Kq5070)
              have f5086 := (Fc5034_0_2.keep Kq5070)
              have f5087 := (((((((Fc5017_0_3.other W5020 (Or.inl (Ne.symm ne5018))).ext E5022).keep Kq5027 (ninS ne5074 nin0)).other W5030 (Or.inl (Ne.symm ne5018))).ext E5032).keep Kq5034 (ninS ne5075 nin0)).keep Kq5070 (ninS ne5077 (ninS ne5076 (ninS ne5075 nin0))))
              have f5088 := (P5.keep K5070 nin0)
              have f5089 := (P7.keep K5070 nin0)
              have f5090 := (f5067.keep Kq5070)
              have f5091 := (Fc5034_0_8.keep Kq5070)
              have f5092 := (f5069.keep Kq5070)
              refine own_cV (a := b5032) X5070 hx hZ hown (own_w hw 64 rfl) (own_w hw 65 rfl) (own_w hw 67 rfl) (own_w hw 66 rfl) (own_w hw 30 rfl) (own_w hw 68 rfl) [(.ref b5012)] [] f5092 (own_rm8_91 l Z a0 hw [] b5032 b5012 b2x4_14c5034 b2x5_18c4c5034 k2x5_18c4c5034c2c5070 b5002 jp1 d1 jp0 d0 w_NONE b6x14_69c4c13c16c2c5070 b3x14_69c4c13c16c2c5070 k3x14_69c4c13c16c2c5070 w_NONE_names k_w_NONE_names T5070.heap n0 Z5070 Fc5070_0_5 Fc5070_0_1 Fc5070_0_4 Fc5070_0_0 OFc5070_0_0 f5078 f5079 f5080 f5083 f5084 f5085 f5086 f5087 Fc5070_0_2 Fc5070_0_8 Fc5070_0_9 OFc5070_0_9 f5088 f5089 f5090 Fc5070_0_7 Fc5070_0_3 f5091 g_b2x4_14c5034 g_b2x5_18c4c5034 Fc5070_0_6 f5092 g_b5032) 0 (hb hby at_272) (by rw [hml]; rfl) (lenOf own_pd12 rfl) rfl rfl rfl (by show 2 * 0 + _ ≤ _; exact Nat.le_of_eq rfl) (by decide) (by decide) (by decide) (by decide) (by decide) fun v5093 T5093 L5093 X5093 hQ5093 => ?_
              obtain ⟨N5093q, Kq5093, hL5093⟩ := hQ5093
              have N5093 := Fr.app N5070 N5093q
              have K5093 : Keep h0 T5093.heap [] := K5070.trans Kq5093 (allS (Or.inr sz_b2x5_18c4c5034) (allS (Or.inr sz_b2x4_14c5034) (allS (Or.inr sz_b5032) all0)))
              have Z5093 := Nat.le_trans Z5070 Kq5093.1
              rcases hL5093 with ⟨k2x5_18c4c5034c2c5070c2c5093, rfl, hq5093_0_0, Fc5093_0_0, OFc5093_0_0, Fc5093_0_1, Fc5093_0_2, Fc5093_0_3, Fc5093_0_4, Fc5093_0_5, Fc5093_0_6, -⟩ | ⟨k2x5_18c4c5034c2c5070c2c5093, rfl, hq5093_1_0, Fc5093_1_0, OFc5093_1_0, Fc5093_1_1, Fc5093_1_2, Fc5093_1_3, Fc5093_1_4, Fc5093_1_5, Fc5093_1_6, -⟩
              · skip
                refine own_st (fun t k => XS.iload X5093.here hx rfl (hb hby at_275) rfl (XS.iconst X5093.here hx rfl (hb hby at_277) k)) ?_
                show own_Go _ _ _ _ T5093 (mkF m 278 #[.val (.long jp0), .second, .val (.long jp1), .second, .val (.long jp2), .second, .val (.long jp3), .second, .val (.int ip4), .val (.int ip5), .val (.int (2 : Int32)), .val (.int n11), .val (.ref b1), .val (.ref b8), .val (.ref b15), .val (.ref b22), .val (.ref b26), .val (.ref b5001), .val (.ref b5032), .unset, .unset] [(.int (2 : Int32)), (.int (2 : Int32))])
                refine own_st (fun t k => XS.icmpYes X5093.here hx rfl (pc0 := 278) (pc' := 290) rfl (hb hby at_278) rfl (flt (by decide : ¬ ((2 : Int32) < (2 : Int32)))).2.2.2 (by decide) (by decide) (XS.aload X5093.here hx rfl (hb hby at_290) rfl rfl k)) ?_
                have f5094 := (f5086.keep Kq5093)
                have f5096 := (f5092.keep Kq5093)
                refine own_cV (a := b5032) X5093 hx hZ hown (own_w hw 57 rfl) (own_w hw 58 rfl) (own_w hw 60 rfl) (own_w hw 59 rfl) (own_w hw 30 rfl) (own_w hw 61 rfl) [] [] f5096 (own_rm7_108 l Z a0 hw [] b5032 b2x4_14c5034 b2x5_18c4c5034 k2x5_18c4c5034c2c5070c2c5093 b5002 b5012 T5093.heap n0 Z5093 Fc5093_0_6 Fc5093_0_5 Fc5093_0_2 Fc5093_0_0 OFc5093_0_0 f5094) 0 (hb hby at_292) (by rw [hml]; rfl) (lenOf own_pd3 rfl) rfl rfl rfl (by show 2 * 0 + _ ≤ _; exact Nat.le_of_eq rfl) (by decide) (by decide) (by decide) (by decide) (by decide) fun v5095 T5095 L5095 X5095 hQ5095 => ?_
                obtain ⟨N5095q, Kq5095, hL5095⟩ := hQ5095
                have N5095 := Fr.app N5093 N5095q
                have K5095 : Keep h0 T5095.heap [] := K5093.trans Kq5095 all0
                have Z5095 := Nat.le_trans Z5093 Kq5095.1
                rcases hL5095 with ⟨rfl, -⟩
                · skip
                  show own_Go _ _ _ _ T5095 (mkF m 295 #[.val (.long jp0), .second, .val (.long jp1), .second, .val (.long jp2), .second, .val (.long jp3), .second, .val (.int ip4), .val (.int ip5), .val (.int (2 : Int32)), .val (.int n11), .val (.ref b1), .val (.ref b8), .val (.ref b15), .val (.ref b22), .val (.ref b26), .val (.ref b5001), .val (.ref b5032), .unset, .unset] [(.ref b5002)])
                  refine own_st (fun t k => XS.astore X5095.here hx rfl (hb hby at_295) rfl rfl (l' := #[.val (.long jp0), .second, .val (.long jp1), .second, .val (.long jp2), .second, .val (.long jp3), .second, .val (.int ip4), .val (.int ip5), .val (.int (2 : Int32)), .val (.int n11), .val (.ref b1), .val (.ref b8), .val (.ref b15), .val (.ref b22), .val (.ref b26), .val (.ref b5001), .val (.ref b5032), .val (.ref b5002), .unset]) rfl (XS.iload X5095.here hx rfl (hb hby at_297) rfl (XS.ifYes X5095.here hx rfl (pc0 := 299) (pc' := 313) rfl (hb hby at_299) rfl ((if0 _ _).trans (feq (by decide : ¬ ((2 : Int32) = (0 : Int32)))).2) (by decide) (by decide) k))) ?_
                  show own_Go _ _ _ _ T5095 (mkF m 313 #[.val (.long jp0), .second, .val (.long jp1), .second, .val (.long jp2), .second, .val (.long jp3), .second, .val (.int ip4), .val (.int ip5), .val (.int (2 : Int32)), .val (.int n11), .val (.ref b1), .val (.ref b8), .val (.ref b15), .val (.ref b22), .val (.ref b26), .val (.ref b5001), .val (.ref b5032), .val (.ref b5002), .unset] [])
                  refine own_st (fun t k => XS.iconst X5095.here hx rfl (hb hby at_313) (XS.istore X5095.here hx rfl (hb hby at_314) rfl (l' := #[.val (.long jp0), .second, .val (.long jp1), .second, .val (.long jp2), .second, .val (.long jp3), .second, .val (.int ip4), .val (.int ip5), .val (.int (2 : Int32)), .val (.int n11), .val (.ref b1), .val (.ref b8), .val (.ref b15), .val (.ref b22), .val (.ref b26), .val (.ref b5001), .val (.ref b5032), .val (.ref b5002), .val (.int (0 : Int32))]) rfl (XS.iload X5095.here hx rfl (hb hby at_316) rfl k))) ?_
                  show own_Go _ _ _ _ T5095 (mkF m 318 #[.val (.long jp0), .second, .val (.long jp1), .second, .val (.long jp2), .second, .val (.long jp3), .second, .val (.int ip4), .val (.int ip5), .val (.int (2 : Int32)), .val (.int n11), .val (.ref b1), .val (.ref b8), .val (.ref b15), .val (.ref b22), .val (.ref b26), .val (.ref b5001), .val (.ref b5032), .val (.ref b5002), .val (.int (0 : Int32))] [(.int (2 : Int32))])
                  refine own_st (fun t k => XS.iconst X5095.here hx rfl (hb hby at_318) (XS.icmpNo X5095.here hx rfl (hb hby at_319) rfl (tlt (by decide : (1 : Int32) < (2 : Int32))).2.2.2 (XS.aload X5095.here hx rfl (hb hby at_322) rfl rfl k))) ?_
                  show own_Go _ _ _ _ T5095 (mkF m 324 #[.val (.long jp0), .second, .val (.long jp1), .second, .val (.long jp2), .second, .val (.long jp3), .second, .val (.int ip4), .val (.int ip5), .val (.int (2 : Int32)), .val (.int n11), .val (.ref b1), .val (.ref b8), .val (.ref b15), .val (.ref b22), .val (.ref b26), .val (.ref b5001), .val (.ref b5032), .val (.ref b5002), .val (.int (0 : Int32))] [(.ref b22)])
                  refine own_st (fun t k => XS.iconst X5095.here hx rfl (hb hby at_324) k) ?_
                  have f5097 := (P14.keep K5095 nin0)
                  refine own_st (own_laload X5095 hx hZ rfl f5097 (j := (1 : Int32)) (v := (.long jp1)) ⟨by decide, by decide⟩ rfl (g := (mkF m 325 #[.val (.long jp0), .second, .val (.long jp1), .second, .val (.long jp2), .second, .val (.long jp3), .second, .val (.int ip4), .val (.int ip5), .val (.int (2 : Int32)), .val (.int n11), .val (.ref b1), .val (.ref b8), .val (.ref b15), .val (.ref b22), .val (.ref b26), .val (.ref b5001), .val (.ref b5032), .val (.ref b5002), .val (.int (0 : Int32))] [(.int (1 : Int32)), (.ref b22)])) rfl rfl (hb hby at_325)) ?_
                  refine own_st (fun t k => XS.aload X5095.here hx rfl (hb hby at_326) rfl rfl k) ?_
                  show own_Go _ _ _ _ T5095 (mkF m 328 #[.val (.long jp0), .second, .val (.long jp1), .second, .val (.long jp2), .second, .val (.long jp3), .second, .val (.int ip4), .val (.int ip5), .val (.int (2 : Int32)), .val (.int n11), .val (.ref b1), .val (.ref b8), .val (.ref b15), .val (.ref b22), .val (.ref b26), .val (.ref b5001), .val (.ref b5032), .val (.ref b5002), .val (.int (0 : Int32))] [(.ref b26), (.long jp1)])
                  refine own_st (fun t k => XS.iconst X5095.here hx rfl (hb hby at_328) k) ?_
                  have f5098 := (P16.keep K5095 nin0)
                  refine own_st (own_laload X5095 hx hZ rfl f5098 (j := (1 : Int32)) (v := (.long d1)) ⟨by decide, by decide⟩ rfl (g := (mkF m 329 #[.val (.long jp0), .second, .val (.long jp1), .second, .val (.long jp2), .second, .val (.long jp3), .second, .val (.int ip4), .val (.int ip5), .val (.int (2 : Int32)), .val (.int n11), .val (.ref b1), .val (.ref b8), .val (.ref b15), .val (.ref b22), .val (.ref b26), .val (.ref b5001), .val (.ref b5032), .val (.ref b5002), .val (.int (0 : Int32))] [(.int (1 : Int32)), (.ref b26), (.long jp1)])) rfl rfl (hb hby at_329)) ?_
                  refine own_st (fun t k => XS.aload X5095.here hx rfl (hb hby at_330) rfl rfl k) ?_
                  show own_Go _ _ _ _ T5095 (mkF m 332 #[.val (.long jp0), .second, .val (.long jp1), .second, .val (.long jp2), .second, .val (.long jp3), .second, .val (.int ip4), .val (.int ip5), .val (.int (2 : Int32)), .val (.int n11), .val (.ref b1), .val (.ref b8), .val (.ref b15), .val (.ref b22), .val (.ref b26), .val (.ref b5001), .val (.ref b5032), .val (.ref b5002), .val (.int (0 : Int32))] [(.ref b22), (.long d1), (.long jp1)])
                  refine own_st (fun t k => XS.iload X5095.here hx rfl (hb hby at_332) rfl k) ?_
                  refine own_st (own_laload X5095 hx hZ rfl f5097 (j := (0 : Int32)) (v := (.long jp0)) ⟨by decide, by decide⟩ rfl (g := (mkF m 334 #[.val (.long jp0), .second, .val (.long jp1), .second, .val (.long jp2), .second, .val (.long jp3), .second, .val (.int ip4), .val (.int ip5), .val (.int (2 : Int32)), .val (.int n11), .val (.ref b1), .val (.ref b8), .val (.ref b15), .val (.ref b22), .val (.ref b26), .val (.ref b5001), .val (.ref b5032), .val (.ref b5002), .val (.int (0 : Int32))] [(.int (0 : Int32)), (.ref b22), (.long d1), (.long jp1)])) rfl rfl (hb hby at_334)) ?_
                  refine own_st (fun t k => XS.aload X5095.here hx rfl (hb hby at_335) rfl rfl k) ?_
                  show own_Go _ _ _ _ T5095 (mkF m 337 #[.val (.long jp0), .second, .val (.long jp1), .second, .val (.long jp2), .second, .val (.long jp3), .second, .val (.int ip4), .val (.int ip5), .val (.int (2 : Int32)), .val (.int n11), .val (.ref b1), .val (.ref b8), .val (.ref b15), .val (.ref b22), .val (.ref b26), .val (.ref b5001), .val (.ref b5032), .val (.ref b5002), .val (.int (0 : Int32))] [(.ref b26), (.long jp0), (.long d1), (.long jp1)])
                  refine own_st (fun t k => XS.iload X5095.here hx rfl (hb hby at_337) rfl k) ?_
                  refine own_st (own_laload X5095 hx hZ rfl f5098 (j := (0 : Int32)) (v := (.long d0)) ⟨by decide, by decide⟩ rfl (g := (mkF m 339 #[.val (.long jp0), .second, .val (.long jp1), .second, .val (.long jp2), .second, .val (.long jp3), .second, .val (.int ip4), .val (.int ip5), .val (.int (2 : Int32)), .val (.int n11), .val (.ref b1), .val (.ref b8), .val (.ref b15), .val (.ref b22), .val (.ref b26), .val (.ref b5001), .val (.ref b5032), .val (.ref b5002), .val (.int (0 : Int32))] [(.int (0 : Int32)), (.ref b26), (.long jp0), (.long d1), (.long jp1)])) rfl rfl (hb hby at_339)) ?_
                  refine own_cS X5095 hx hZ hown (own_w hw 149 rfl) (own_w hw 150 rfl) (own_w hw 151 rfl) (own_w hw 152 rfl) [(.long jp1), (.long d1), (.long jp0), (.long d0)] [] (own_rm22 l Z a0 hw [] jp1 d1 jp0 d0 T5095.heap n0 Z5095 ) 0 (hb hby at_340) (by rw [hml]; rfl) (lenOf own_pd16 rfl) rfl rfl rfl (by show 2 * 0 + _ ≤ _; exact Nat.le_of_eq rfl) (by decide) (by decide) (by decide) (by decide) (by decide) fun v5099 T5099 L5099 X5099 hQ5099 => ?_
                  obtain ⟨N5099q, e5099, hL5099⟩ := hQ5099
                  have N5099 := Fr.app N5095 N5099q
                  rcases hL5099 with ⟨rfl, hq5099_0_0, -⟩ | ⟨rfl, hq5099_1_0, -⟩
                  · skip
                    exact absurd hq5099_0_0 (own_o0 hq5093_0_0 hd01 hd02 hd12)
                  · skip
                    show own_Go _ _ _ _ T5099 (mkF m 343 #[.val (.long jp0), .second, .val (.long jp1), .second, .val (.long jp2), .second, .val (.long jp3), .second, .val (.int ip4), .val (.int ip5), .val (.int (2 : Int32)), .val (.int n11), .val (.ref b1), .val (.ref b8), .val (.ref b15), .val (.ref b22), .val (.ref b26), .val (.ref b5001), .val (.ref b5032), .val (.ref b5002), .val (.int (0 : Int32))] [(.int (0 : Int32))])
                    refine own_st (fun t k => XS.ifYes X5099.here hx rfl (pc0 := 343) (pc' := 349) rfl (hb hby at_343) rfl ((if0 _ _).trans (teq (by decide : (0 : Int32) = (0 : Int32))).1) (by decide) (by decide) (XS.iload X5099.here hx rfl (hb hby at_349) rfl (XS.iconst X5099.here hx rfl (hb hby at_351) k))) ?_
                    show own_Go _ _ _ _ T5099 (mkF m 352 #[.val (.long jp0), .second, .val (.long jp1), .second, .val (.long jp2), .second, .val (.long jp3), .second, .val (.int ip4), .val (.int ip5), .val (.int (2 : Int32)), .val (.int n11), .val (.ref b1), .val (.ref b8), .val (.ref b15), .val (.ref b22), .val (.ref b26), .val (.ref b5001), .val (.ref b5032), .val (.ref b5002), .val (.int (0 : Int32))] [(.int (2 : Int32)), (.int (2 : Int32))])
                    refine own_st (fun t k => XS.icmpYes X5099.here hx rfl (pc0 := 352) (pc' := 382) rfl (hb hby at_352) rfl (flt (by decide : ¬ ((2 : Int32) < (2 : Int32)))).2.2.2 (by decide) (by decide) (XS.aload X5099.here hx rfl (hb hby at_382) rfl rfl (XS.aload X5099.here hx rfl (hb hby at_384) rfl rfl k))) ?_
                    show own_Go _ _ _ _ T5099 (mkF m 386 #[.val (.long jp0), .second, .val (.long jp1), .second, .val (.long jp2), .second, .val (.long jp3), .second, .val (.int ip4), .val (.int ip5), .val (.int (2 : Int32)), .val (.int n11), .val (.ref b1), .val (.ref b8), .val (.ref b15), .val (.ref b22), .val (.ref b26), .val (.ref b5001), .val (.ref b5032), .val (.ref b5002), .val (.int (0 : Int32))] [(.ref b5001), (.ref b5002)])
                    refine own_st (fun t k => XS.iload X5099.here hx rfl (hb hby at_386) rfl k) ?_
                    have f5100 := ((f5073.keep Kq5093 (ninS ne5072 (ninS ne5071 (ninS ne5057 nin0)))).keep Kq5095 nin0)
                    refine own_st (own_aaload X5099 hx hZ e5099 f5100 rfl (j := (0 : Int32)) (v := (.ref b5002)) ⟨by decide, by decide⟩ rfl (g := (mkF m 388 #[.val (.long jp0), .second, .val (.long jp1), .second, .val (.long jp2), .second, .val (.long jp3), .second, .val (.int ip4), .val (.int ip5), .val (.int (2 : Int32)), .val (.int n11), .val (.ref b1), .val (.ref b8), .val (.ref b15), .val (.ref b22), .val (.ref b26), .val (.ref b5001), .val (.ref b5032), .val (.ref b5002), .val (.int (0 : Int32))] [(.int (0 : Int32)), (.ref b5001), (.ref b5002)])) rfl rfl (hb hby at_388)) ?_
                    refine own_st (fun t k => Jvm.RoadKit.acmp (g := (mkF m 389 #[.val (.long jp0), .second, .val (.long jp1), .second, .val (.long jp2), .second, .val (.long jp3), .second, .val (.int ip4), .val (.int ip5), .val (.int (2 : Int32)), .val (.int n11), .val (.ref b1), .val (.ref b8), .val (.ref b15), .val (.ref b22), .val (.ref b26), .val (.ref b5001), .val (.ref b5032), .val (.ref b5002), .val (.int (0 : Int32))] [(.ref b5002), (.ref b5002)])) X5099 hx rfl rfl rfl (pc0 := 389) (pc' := 392) (same := true) rfl (hb hby at_389) rfl (decide_eq_true (congrArg Value.ref (rfl : b5002 = b5002))) (by decide) (by decide) k) ?_
                    show own_Go _ _ _ _ T5099 (mkF m 392 #[.val (.long jp0), .second, .val (.long jp1), .second, .val (.long jp2), .second, .val (.long jp3), .second, .val (.int ip4), .val (.int ip5), .val (.int (2 : Int32)), .val (.int n11), .val (.ref b1), .val (.ref b8), .val (.ref b15), .val (.ref b22), .val (.ref b26), .val (.ref b5001), .val (.ref b5032), .val (.ref b5002), .val (.int (0 : Int32))] [])
                    refine own_st (fun t k => XS.iconst X5099.here hx rfl (hb hby at_392) (XS.goto X5099.here hx rfl (pc0 := 393) (pc' := 397) rfl (hb hby at_393) (by decide) (by decide) k)) ?_
                    exact own_retZ X5099 hx hlk (t := .boolean) hret (by simp) (hb hby at_397) (by decide) (by decide) e5099 ⟨rfl, N5099⟩
              · skip
                show own_Go _ _ _ _ T5093 (mkF m 275 #[.val (.long jp0), .second, .val (.long jp1), .second, .val (.long jp2), .second, .val (.long jp3), .second, .val (.int ip4), .val (.int ip5), .val (.int (2 : Int32)), .val (.int n11), .val (.ref b1), .val (.ref b8), .val (.ref b15), .val (.ref b22), .val (.ref b26), .val (.ref b5001), .val (.ref b5032), .unset, .unset] [])
                refine own_st (fun t k => XS.iload X5093.here hx rfl (hb hby at_275) rfl (XS.iconst X5093.here hx rfl (hb hby at_277) (XS.icmpYes X5093.here hx rfl (pc0 := 278) (pc' := 290) rfl (hb hby at_278) rfl (flt (by decide : ¬ ((2 : Int32) < (2 : Int32)))).2.2.2 (by decide) (by decide) k))) ?_
                show own_Go _ _ _ _ T5093 (mkF m 290 #[.val (.long jp0), .second, .val (.long jp1), .second, .val (.long jp2), .second, .val (.long jp3), .second, .val (.int ip4), .val (.int ip5), .val (.int (2 : Int32)), .val (.int n11), .val (.ref b1), .val (.ref b8), .val (.ref b15), .val (.ref b22), .val (.ref b26), .val (.ref b5001), .val (.ref b5032), .unset, .unset] [])
                refine own_st (fun t k => XS.aload X5093.here hx rfl (hb hby at_290) rfl rfl k) ?_
                have f5101 := (f5086.keep Kq5093)
                have f5103 := (f5092.keep Kq5093)
                refine own_cV (a := b5032) X5093 hx hZ hown (own_w hw 57 rfl) (own_w hw 58 rfl) (own_w hw 60 rfl) (own_w hw 59 rfl) (own_w hw 30 rfl) (own_w hw 61 rfl) [] [] f5103 (own_rm7_108 l Z a0 hw [] b5032 b2x4_14c5034 b2x5_18c4c5034 k2x5_18c4c5034c2c5070c2c5093 b5012 b5002 T5093.heap n0 Z5093 Fc5093_1_6 Fc5093_1_5 Fc5093_1_2 Fc5093_1_0 OFc5093_1_0 f5101) 0 (hb hby at_292) (by rw [hml]; rfl) (lenOf own_pd3 rfl) rfl rfl rfl (by show 2 * 0 + _ ≤ _; exact Nat.le_of_eq rfl) (by decide) (by decide) (by decide) (by decide) (by decide) fun v5102 T5102 L5102 X5102 hQ5102 => ?_
                obtain ⟨N5102q, Kq5102, hL5102⟩ := hQ5102
                have N5102 := Fr.app N5093 N5102q
                have K5102 : Keep h0 T5102.heap [] := K5093.trans Kq5102 all0
                have Z5102 := Nat.le_trans Z5093 Kq5102.1
                rcases hL5102 with ⟨rfl, -⟩
                · skip
                  refine own_st (fun t k => XS.astore X5102.here hx rfl (hb hby at_295) rfl rfl (l' := #[.val (.long jp0), .second, .val (.long jp1), .second, .val (.long jp2), .second, .val (.long jp3), .second, .val (.int ip4), .val (.int ip5), .val (.int (2 : Int32)), .val (.int n11), .val (.ref b1), .val (.ref b8), .val (.ref b15), .val (.ref b22), .val (.ref b26), .val (.ref b5001), .val (.ref b5032), .val (.ref b5012), .unset]) rfl k) ?_
                  show own_Go _ _ _ _ T5102 (mkF m 297 #[.val (.long jp0), .second, .val (.long jp1), .second, .val (.long jp2), .second, .val (.long jp3), .second, .val (.int ip4), .val (.int ip5), .val (.int (2 : Int32)), .val (.int n11), .val (.ref b1), .val (.ref b8), .val (.ref b15), .val (.ref b22), .val (.ref b26), .val (.ref b5001), .val (.ref b5032), .val (.ref b5012), .unset] [])
                  refine own_st (fun t k => XS.iload X5102.here hx rfl (hb hby at_297) rfl (XS.ifYes X5102.here hx rfl (pc0 := 299) (pc' := 313) rfl (hb hby at_299) rfl ((if0 _ _).trans (feq (by decide : ¬ ((2 : Int32) = (0 : Int32)))).2) (by decide) (by decide) (XS.iconst X5102.here hx rfl (hb hby at_313) k))) ?_
                  show own_Go _ _ _ _ T5102 (mkF m 314 #[.val (.long jp0), .second, .val (.long jp1), .second, .val (.long jp2), .second, .val (.long jp3), .second, .val (.int ip4), .val (.int ip5), .val (.int (2 : Int32)), .val (.int n11), .val (.ref b1), .val (.ref b8), .val (.ref b15), .val (.ref b22), .val (.ref b26), .val (.ref b5001), .val (.ref b5032), .val (.ref b5012), .unset] [(.int (0 : Int32))])
                  refine own_st (fun t k => XS.istore X5102.here hx rfl (hb hby at_314) rfl (l' := #[.val (.long jp0), .second, .val (.long jp1), .second, .val (.long jp2), .second, .val (.long jp3), .second, .val (.int ip4), .val (.int ip5), .val (.int (2 : Int32)), .val (.int n11), .val (.ref b1), .val (.ref b8), .val (.ref b15), .val (.ref b22), .val (.ref b26), .val (.ref b5001), .val (.ref b5032), .val (.ref b5012), .val (.int (0 : Int32))]) rfl (XS.iload X5102.here hx rfl (hb hby at_316) rfl (XS.iconst X5102.here hx rfl (hb hby at_318) k))) ?_
                  show own_Go _ _ _ _ T5102 (mkF m 319 #[.val (.long jp0), .second, .val (.long jp1), .second, .val (.long jp2), .second, .val (.long jp3), .second, .val (.int ip4), .val (.int ip5), .val (.int (2 : Int32)), .val (.int n11), .val (.ref b1), .val (.ref b8), .val (.ref b15), .val (.ref b22), .val (.ref b26), .val (.ref b5001), .val (.ref b5032), .val (.ref b5012), .val (.int (0 : Int32))] [(.int (1 : Int32)), (.int (2 : Int32))])
                  refine own_st (fun t k => XS.icmpNo X5102.here hx rfl (hb hby at_319) rfl (tlt (by decide : (1 : Int32) < (2 : Int32))).2.2.2 (XS.aload X5102.here hx rfl (hb hby at_322) rfl rfl (XS.iconst X5102.here hx rfl (hb hby at_324) k))) ?_
                  show own_Go _ _ _ _ T5102 (mkF m 325 #[.val (.long jp0), .second, .val (.long jp1), .second, .val (.long jp2), .second, .val (.long jp3), .second, .val (.int ip4), .val (.int ip5), .val (.int (2 : Int32)), .val (.int n11), .val (.ref b1), .val (.ref b8), .val (.ref b15), .val (.ref b22), .val (.ref b26), .val (.ref b5001), .val (.ref b5032), .val (.ref b5012), .val (.int (0 : Int32))] [(.int (1 : Int32)), (.ref b22)])
                  have f5104 := (P14.keep K5102 nin0)
                  refine own_st (own_laload X5102 hx hZ rfl f5104 (j := (1 : Int32)) (v := (.long jp1)) ⟨by decide, by decide⟩ rfl (g := (mkF m 325 #[.val (.long jp0), .second, .val (.long jp1), .second, .val (.long jp2), .second, .val (.long jp3), .second, .val (.int ip4), .val (.int ip5), .val (.int (2 : Int32)), .val (.int n11), .val (.ref b1), .val (.ref b8), .val (.ref b15), .val (.ref b22), .val (.ref b26), .val (.ref b5001), .val (.ref b5032), .val (.ref b5012), .val (.int (0 : Int32))] [(.int (1 : Int32)), (.ref b22)])) rfl rfl (hb hby at_325)) ?_
                  refine own_st (fun t k => XS.aload X5102.here hx rfl (hb hby at_326) rfl rfl (XS.iconst X5102.here hx rfl (hb hby at_328) k)) ?_
                  show own_Go _ _ _ _ T5102 (mkF m 329 #[.val (.long jp0), .second, .val (.long jp1), .second, .val (.long jp2), .second, .val (.long jp3), .second, .val (.int ip4), .val (.int ip5), .val (.int (2 : Int32)), .val (.int n11), .val (.ref b1), .val (.ref b8), .val (.ref b15), .val (.ref b22), .val (.ref b26), .val (.ref b5001), .val (.ref b5032), .val (.ref b5012), .val (.int (0 : Int32))] [(.int (1 : Int32)), (.ref b26), (.long jp1)])
                  have f5105 := (P16.keep K5102 nin0)
                  refine own_st (own_laload X5102 hx hZ rfl f5105 (j := (1 : Int32)) (v := (.long d1)) ⟨by decide, by decide⟩ rfl (g := (mkF m 329 #[.val (.long jp0), .second, .val (.long jp1), .second, .val (.long jp2), .second, .val (.long jp3), .second, .val (.int ip4), .val (.int ip5), .val (.int (2 : Int32)), .val (.int n11), .val (.ref b1), .val (.ref b8), .val (.ref b15), .val (.ref b22), .val (.ref b26), .val (.ref b5001), .val (.ref b5032), .val (.ref b5012), .val (.int (0 : Int32))] [(.int (1 : Int32)), (.ref b26), (.long jp1)])) rfl rfl (hb hby at_329)) ?_
                  refine own_st (fun t k => XS.aload X5102.here hx rfl (hb hby at_330) rfl rfl (XS.iload X5102.here hx rfl (hb hby at_332) rfl k)) ?_
                  show own_Go _ _ _ _ T5102 (mkF m 334 #[.val (.long jp0), .second, .val (.long jp1), .second, .val (.long jp2), .second, .val (.long jp3), .second, .val (.int ip4), .val (.int ip5), .val (.int (2 : Int32)), .val (.int n11), .val (.ref b1), .val (.ref b8), .val (.ref b15), .val (.ref b22), .val (.ref b26), .val (.ref b5001), .val (.ref b5032), .val (.ref b5012), .val (.int (0 : Int32))] [(.int (0 : Int32)), (.ref b22), (.long d1), (.long jp1)])
                  refine own_st (own_laload X5102 hx hZ rfl f5104 (j := (0 : Int32)) (v := (.long jp0)) ⟨by decide, by decide⟩ rfl (g := (mkF m 334 #[.val (.long jp0), .second, .val (.long jp1), .second, .val (.long jp2), .second, .val (.long jp3), .second, .val (.int ip4), .val (.int ip5), .val (.int (2 : Int32)), .val (.int n11), .val (.ref b1), .val (.ref b8), .val (.ref b15), .val (.ref b22), .val (.ref b26), .val (.ref b5001), .val (.ref b5032), .val (.ref b5012), .val (.int (0 : Int32))] [(.int (0 : Int32)), (.ref b22), (.long d1), (.long jp1)])) rfl rfl (hb hby at_334)) ?_
                  refine own_st (fun t k => XS.aload X5102.here hx rfl (hb hby at_335) rfl rfl (XS.iload X5102.here hx rfl (hb hby at_337) rfl k)) ?_
                  show own_Go _ _ _ _ T5102 (mkF m 339 #[.val (.long jp0), .second, .val (.long jp1), .second, .val (.long jp2), .second, .val (.long jp3), .second, .val (.int ip4), .val (.int ip5), .val (.int (2 : Int32)), .val (.int n11), .val (.ref b1), .val (.ref b8), .val (.ref b15), .val (.ref b22), .val (.ref b26), .val (.ref b5001), .val (.ref b5032), .val (.ref b5012), .val (.int (0 : Int32))] [(.int (0 : Int32)), (.ref b26), (.long jp0), (.long d1), (.long jp1)])
                  refine own_st (own_laload X5102 hx hZ rfl f5105 (j := (0 : Int32)) (v := (.long d0)) ⟨by decide, by decide⟩ rfl (g := (mkF m 339 #[.val (.long jp0), .second, .val (.long jp1), .second, .val (.long jp2), .second, .val (.long jp3), .second, .val (.int ip4), .val (.int ip5), .val (.int (2 : Int32)), .val (.int n11), .val (.ref b1), .val (.ref b8), .val (.ref b15), .val (.ref b22), .val (.ref b26), .val (.ref b5001), .val (.ref b5032), .val (.ref b5012), .val (.int (0 : Int32))] [(.int (0 : Int32)), (.ref b26), (.long jp0), (.long d1), (.long jp1)])) rfl rfl (hb hby at_339)) ?_
                  refine own_cS X5102 hx hZ hown (own_w hw 149 rfl) (own_w hw 150 rfl) (own_w hw 151 rfl) (own_w hw 152 rfl) [(.long jp1), (.long d1), (.long jp0), (.long d0)] [] (own_rm22 l Z a0 hw [] jp1 d1 jp0 d0 T5102.heap n0 Z5102 ) 0 (hb hby at_340) (by rw [hml]; rfl) (lenOf own_pd16 rfl) rfl rfl rfl (by show 2 * 0 + _ ≤ _; exact Nat.le_of_eq rfl) (by decide) (by decide) (by decide) (by decide) (by decide) fun v5106 T5106 L5106 X5106 hQ5106 => ?_
                  obtain ⟨N5106q, e5106, hL5106⟩ := hQ5106
                  have N5106 := Fr.app N5102 N5106q
                  rcases hL5106 with ⟨rfl, hq5106_0_0, -⟩ | ⟨rfl, hq5106_1_0, -⟩
                  · skip
                    refine own_st (fun t k => XS.ifNo X5106.here hx rfl (hb hby at_343) rfl ((if0 _ _).trans (feq (by decide : ¬ ((1 : Int32) = (0 : Int32)))).1) k) ?_
                    show own_Go _ _ _ _ T5106 (mkF m 346 #[.val (.long jp0), .second, .val (.long jp1), .second, .val (.long jp2), .second, .val (.long jp3), .second, .val (.int ip4), .val (.int ip5), .val (.int (2 : Int32)), .val (.int n11), .val (.ref b1), .val (.ref b8), .val (.ref b15), .val (.ref b22), .val (.ref b26), .val (.ref b5001), .val (.ref b5032), .val (.ref b5012), .val (.int (0 : Int32))] [])
                    refine own_st (fun t k => XS.iconst X5106.here hx rfl (hb hby at_346) (XS.istore X5106.here hx rfl (hb hby at_347) rfl (l' := #[.val (.long jp0), .second, .val (.long jp1), .second, .val (.long jp2), .second, .val (.long jp3), .second, .val (.int ip4), .val (.int ip5), .val (.int (2 : Int32)), .val (.int n11), .val (.ref b1), .val (.ref b8), .val (.ref b15), .val (.ref b22), .val (.ref b26), .val (.ref b5001), .val (.ref b5032), .val (.ref b5012), .val (.int (1 : Int32))]) rfl (XS.iload X5106.here hx rfl (hb hby at_349) rfl k))) ?_
                    show own_Go _ _ _ _ T5106 (mkF m 351 #[.val (.long jp0), .second, .val (.long jp1), .second, .val (.long jp2), .second, .val (.long jp3), .second, .val (.int ip4), .val (.int ip5), .val (.int (2 : Int32)), .val (.int n11), .val (.ref b1), .val (.ref b8), .val (.ref b15), .val (.ref b22), .val (.ref b26), .val (.ref b5001), .val (.ref b5032), .val (.ref b5012), .val (.int (1 : Int32))] [(.int (2 : Int32))])
                    refine own_st (fun t k => XS.iconst X5106.here hx rfl (hb hby at_351) (XS.icmpYes X5106.here hx rfl (pc0 := 352) (pc' := 382) rfl (hb hby at_352) rfl (flt (by decide : ¬ ((2 : Int32) < (2 : Int32)))).2.2.2 (by decide) (by decide) (XS.aload X5106.here hx rfl (hb hby at_382) rfl rfl k))) ?_
                    show own_Go _ _ _ _ T5106 (mkF m 384 #[.val (.long jp0), .second, .val (.long jp1), .second, .val (.long jp2), .second, .val (.long jp3), .second, .val (.int ip4), .val (.int ip5), .val (.int (2 : Int32)), .val (.int n11), .val (.ref b1), .val (.ref b8), .val (.ref b15), .val (.ref b22), .val (.ref b26), .val (.ref b5001), .val (.ref b5032), .val (.ref b5012), .val (.int (1 : Int32))] [(.ref b5012)])
                    refine own_st (fun t k => XS.aload X5106.here hx rfl (hb hby at_384) rfl rfl (XS.iload X5106.here hx rfl (hb hby at_386) rfl k)) ?_
                    have f5107 := ((f5073.keep Kq5093 (ninS ne5072 (ninS ne5071 (ninS ne5057 nin0)))).keep Kq5102 nin0)
                    refine own_st (own_aaload X5106 hx hZ e5106 f5107 rfl (j := (1 : Int32)) (v := (.ref b5012)) ⟨by decide, by decide⟩ rfl (g := (mkF m 388 #[.val (.long jp0), .second, .val (.long jp1), .second, .val (.long jp2), .second, .val (.long jp3), .second, .val (.int ip4), .val (.int ip5), .val (.int (2 : Int32)), .val (.int n11), .val (.ref b1), .val (.ref b8), .val (.ref b15), .val (.ref b22), .val (.ref b26), .val (.ref b5001), .val (.ref b5032), .val (.ref b5012), .val (.int (1 : Int32))] [(.int (1 : Int32)), (.ref b5001), (.ref b5012)])) rfl rfl (hb hby at_388)) ?_
                    show own_Go _ _ _ _ T5106 (mkF m 389 #[.val (.long jp0), .second, .val (.long jp1), .second, .val (.long jp2), .second, .val (.long jp3), .second, .val (.int ip4), .val (.int ip5), .val (.int (2 : Int32)), .val (.int n11), .val (.ref b1), .val (.ref b8), .val (.ref b15), .val (.ref b22), .val (.ref b26), .val (.ref b5001), .val (.ref b5032), .val (.ref b5012), .val (.int (1 : Int32))] [(.ref b5012), (.ref b5012)])
                    refine own_st (fun t k => Jvm.RoadKit.acmp (g := (mkF m 389 #[.val (.long jp0), .second, .val (.long jp1), .second, .val (.long jp2), .second, .val (.long jp3), .second, .val (.int ip4), .val (.int ip5), .val (.int (2 : Int32)), .val (.int n11), .val (.ref b1), .val (.ref b8), .val (.ref b15), .val (.ref b22), .val (.ref b26), .val (.ref b5001), .val (.ref b5032), .val (.ref b5012), .val (.int (1 : Int32))] [(.ref b5012), (.ref b5012)])) X5106 hx rfl rfl rfl (pc0 := 389) (pc' := 392) (same := true) rfl (hb hby at_389) rfl (decide_eq_true (congrArg Value.ref (rfl : b5012 = b5012))) (by decide) (by decide) (XS.iconst X5106.here hx rfl (hb hby at_392) (XS.goto X5106.here hx rfl (pc0 := 393) (pc' := 397) rfl (hb hby at_393) (by decide) (by decide) k))) ?_
                    show own_Go _ _ _ _ T5106 (mkF m 397 #[.val (.long jp0), .second, .val (.long jp1), .second, .val (.long jp2), .second, .val (.long jp3), .second, .val (.int ip4), .val (.int ip5), .val (.int (2 : Int32)), .val (.int n11), .val (.ref b1), .val (.ref b8), .val (.ref b15), .val (.ref b22), .val (.ref b26), .val (.ref b5001), .val (.ref b5032), .val (.ref b5012), .val (.int (1 : Int32))] [(.int (1 : Int32))])
                    exact own_retZ X5106 hx hlk (t := .boolean) hret (by simp) (hb hby at_397) (by decide) (by decide) e5106 ⟨rfl, N5106⟩
                  · skip
                    exact absurd (own_o1 hq5093_1_0 hd01 hd02 hd12) hq5106_1_0
          · skip
            refine own_st (fun t k => XS.iload X5034.here hx rfl (hb hby at_246) rfl (XS.ifNo X5034.here hx rfl (hb hby at_248) rfl ((if0 _ _).trans (tlt (by decide : (0 : Int32) < (3 : Int32))).2.2.2) k)) ?_
            show own_Go _ _ _ _ T5034 (mkF m 251 #[.val (.long jp0), .second, .val (.long jp1), .second, .val (.long jp2), .second, .val (.long jp3), .second, .val (.int ip4), .val (.int ip5), .val (.int (3 : Int32)), .val (.int n11), .val (.ref b1), .val (.ref b8), .val (.ref b15), .val (.ref b22), .val (.ref b26), .val (.ref b5001), .val (.ref b5032), .unset, .unset] [])
            refine own_st (fun t k => XS.aload X5034.here hx rfl (hb hby at_251) rfl rfl (XS.aload X5034.here hx rfl (hb hby at_253) rfl rfl (XS.iconst X5034.here hx rfl (hb hby at_255) k))) ?_
            show own_Go _ _ _ _ T5034 (mkF m 256 #[.val (.long jp0), .second, .val (.long jp1), .second, .val (.long jp2), .second, .val (.long jp3), .second, .val (.int ip4), .val (.int ip5), .val (.int (3 : Int32)), .val (.int n11), .val (.ref b1), .val (.ref b8), .val (.ref b15), .val (.ref b22), .val (.ref b26), .val (.ref b5001), .val (.ref b5032), .unset, .unset] [(.int (0 : Int32)), (.ref b5001), (.ref b5032)])
            have ne5108 : b5001 ≠ b5032 := Nat.ne_of_lt (Nat.lt_of_lt_of_le V5030.lt (Nat.le_of_eq g5032.symm))
            have f5109 := ((V5030.ext E5032).keep Kq5034 (ninS ne5108 nin0))
            refine own_st (own_aaload X5034 hx hZ rfl f5109 rfl (j := (0 : Int32)) (v := (.ref b5002)) ⟨by decide, by decide⟩ rfl (g := (mkF m 256 #[.val (.long jp0), .second, .val (.long jp1), .second, .val (.long jp2), .second, .val (.long jp3), .second, .val (.int ip4), .val (.int ip5), .val (.int (3 : Int32)), .val (.int n11), .val (.ref b1), .val (.ref b8), .val (.ref b15), .val (.ref b22), .val (.ref b26), .val (.ref b5001), .val (.ref b5032), .unset, .unset] [(.int (0 : Int32)), (.ref b5001), (.ref b5032)])) rfl rfl (hb hby at_256)) ?_
            have ne5110 : b5002 ≠ b5012 := Nat.ne_of_lt (Nat.lt_of_lt_of_le (f5011.wr W5010).lt (Nat.le_of_eq g5012.symm))
            have ne5111 : b5002 ≠ b5022 := Nat.ne_of_lt (Nat.lt_of_lt_of_le ((((f5011.wr W5010).ext E5012).keep Kq5017).wr W5020).lt (Nat.le_of_eq g5022.symm))
            have ne5112 : b5002 ≠ b5032 := Nat.ne_of_lt (Nat.lt_of_lt_of_le (((((((f5011.wr W5010).ext E5012).keep Kq5017).wr W5020).ext E5022).keep Kq5027).wr W5030).lt (Nat.le_of_eq g5032.symm))
            have f5113 := (((((((((Fc5007_0_3.other W5010 (Or.inl (Ne.symm ne5008))).ext E5012).keep Kq5017 (ninS ne5110 nin0)).other W5020 (Or.inl (Ne.symm ne5008))).ext E5022).keep Kq5027 (ninS ne5111 nin0)).other W5030 (Or.inl (Ne.symm ne5008))).ext E5032).keep Kq5034 (ninS ne5112 nin0))
            have f5114 := (((((((((f5011.wr W5010).ext E5012).keep Kq5017).wr W5020).ext E5022).keep Kq5027).wr W5030).ext E5032).keep Kq5034)
            have f5115 := (own_stak f5033 Kq5034 (allS (own_plE A5032) all0))
            have f5116 := (P4.keep K5034 nin0)
            have f5117 := (P6.keep K5034 nin0)
            have f5118 := (P1.keep K5034)
            have f5119 := (P3.keep K5034)
            have f5120 := (A5032.keep Kq5034)
            refine own_cV (a := b5032) X5034 hx hZ hown (own_w hw 64 rfl) (own_w hw 65 rfl) (own_w hw 67 rfl) (own_w hw 66 rfl) (own_w hw 30 rfl) (own_w hw 68 rfl) [(.ref b5002)] [] f5120 (own_rm8_47 l Z a0 hw [] b5032 b5002 b2x4_14c5034 w_NONE w_EMPTY w_EMPTY_parts k_w_EMPTY_parts b2x5_18c4c5034 k2x5_18c4c5034 T5034.heap n0 Z5034 Fc5034_0_0 Fc5034_0_5 Fc5034_0_2 f5113 f5114 f5115 Fc5034_0_3 Fc5034_0_6 f5116 f5117 f5118 f5119 Fc5034_0_4 Fc5034_0_7 OFc5034_0_7 Fc5034_0_8 g_b2x4_14c5034 g_b2x5_18c4c5034 Fc5034_0_1 f5120 g_b5032) 0 (hb hby at_257) (by rw [hml]; rfl) (lenOf own_pd12 rfl) rfl rfl rfl (by show 2 * 0 + _ ≤ _; exact Nat.le_of_eq rfl) (by decide) (by decide) (by decide) (by decide) (by decide) fun v5121 T5121 L5121 X5121 hQ5121 => ?_
            obtain ⟨N5121q, Kq5121, hL5121⟩ := hQ5121
            have N5121 := Fr.app N5034 N5121q
            have K5121 : Keep h0 T5121.heap [] := K5034.trans Kq5121 (allS (Or.inr sz_b2x5_18c4c5034) (allS (Or.inr sz_b2x4_14c5034) (allS (Or.inr sz_b5032) all0)))
            have Z5121 := Nat.le_trans Z5034 Kq5121.1
            rcases hL5121 with ⟨b6x14_69c4c13c16c2c5121, b3x14_69c4c13c16c2c5121, k2x5_18c4c5034c2c5121, k3x14_69c4c13c16c2c5121, rfl, hq5121_0_0, sq_b6x14_69c4c13c16c2c5121, sq_b3x14_69c4c13c16c2c5121, Fc5121_0_0, OFc5121_0_0, Fc5121_0_1, Fc5121_0_2, Fc5121_0_3, Fc5121_0_4, Fc5121_0_5, Fc5121_0_6, Fc5121_0_7, Fc5121_0_8, Fc5121_0_9, OFc5121_0_9, Fc5121_0_10, -⟩
            · skip
              have g_b6x14_69c4c13c16c2c5121 : n0 ≤ b6x14_69c4c13c16c2c5121 := Nat.le_trans Z5034 sq_b6x14_69c4c13c16c2c5121
              have sz_b6x14_69c4c13c16c2c5121 : h0.size ≤ b6x14_69c4c13c16c2c5121 := Nat.le_trans K5034.1 sq_b6x14_69c4c13c16c2c5121
              have g_b3x14_69c4c13c16c2c5121 : n0 ≤ b3x14_69c4c13c16c2c5121 := Nat.le_trans Z5034 sq_b3x14_69c4c13c16c2c5121
              have sz_b3x14_69c4c13c16c2c5121 : h0.size ≤ b3x14_69c4c13c16c2c5121 := Nat.le_trans K5034.1 sq_b3x14_69c4c13c16c2c5121
              refine own_st (fun t k => XS.iload X5121.here hx rfl (hb hby at_260) rfl k) ?_
              show own_Go _ _ _ _ T5121 (mkF m 262 #[.val (.long jp0), .second, .val (.long jp1), .second, .val (.long jp2), .second, .val (.long jp3), .second, .val (.int ip4), .val (.int ip5), .val (.int (3 : Int32)), .val (.int n11), .val (.ref b1), .val (.ref b8), .val (.ref b15), .val (.ref b22), .val (.ref b26), .val (.ref b5001), .val (.ref b5032), .unset, .unset] [(.int (3 : Int32))])
              refine own_st (fun t k => XS.iconst X5121.here hx rfl (hb hby at_262) (XS.icmpNo X5121.here hx rfl (hb hby at_263) rfl (tlt (by decide : (1 : Int32) < (3 : Int32))).2.2.2 (XS.aload X5121.here hx rfl (hb hby at_266) rfl rfl k))) ?_
              show own_Go _ _ _ _ T5121 (mkF m 268 #[.val (.long jp0), .second, .val (.long jp1), .second, .val (.long jp2), .second, .val (.long jp3), .second, .val (.int ip4), .val (.int ip5), .val (.int (3 : Int32)), .val (.int n11), .val (.ref b1), .val (.ref b8), .val (.ref b15), .val (.ref b22), .val (.ref b26), .val (.ref b5001), .val (.ref b5032), .unset, .unset] [(.ref b5032)])
              refine own_st (fun t k => XS.aload X5121.here hx rfl (hb hby at_268) rfl rfl (XS.iconst X5121.here hx rfl (hb hby at_270) k)) ?_
              have ne5122 : b5001 ≠ b2x4_14c5034 := Nat.ne_of_lt (Nat.lt_of_lt_of_le (V5030.ext E5032).lt sq_b2x4_14c5034)
              have ne5123 : b5001 ≠ b2x5_18c4c5034 := Nat.ne_of_lt (Nat.lt_of_lt_of_le (V5030.ext E5032).lt sq_b2x5_18c4c5034)
              have f5124 := (f5109.keep Kq5121 (ninS ne5123 (ninS ne5122 (ninS ne5108 nin0))))
              refine own_st (own_aaload X5121 hx hZ rfl f5124 rfl (j := (1 : Int32)) (v := (.ref b5012)) ⟨by decide, by decide⟩ rfl (g := (mkF m 271 #[.val (.long jp0), .second, .val (.long jp1), .second, .val (.long jp2), .second, .val (.long jp3), .second, .val (.int ip4), .val (.int ip5), .val (.int (3 : Int32)), .val (.int n11), .val (.ref b1), .val (.ref b8), .val (.ref b15), .val (.ref b22), .val (.ref b26), .val (.ref b5001), .val (.ref b5032), .unset, .unset] [(.int (1 : Int32)), (.ref b5001), (.ref b5032)])) rfl rfl (hb hby at_271)) ?_
              show own_Go _ _ _ _ T5121 (mkF m 272 #[.val (.long jp0), .second, .val (.long jp1), .second, .val (.long jp2), .second, .val (.long jp3), .second, .val (.int ip4), .val (.int ip5), .val (.int (3 : Int32)), .val (.int n11), .val (.ref b1), .val (.ref b8), .val (.ref b15), .val (.ref b22), .val (.ref b26), .val (.ref b5001), .val (.ref b5032), .unset, .unset] [(.ref b5012), (.ref b5032)])
              have ne5125 : b5012 ≠ b5022 := Nat.ne_of_lt (Nat.lt_of_lt_of_le (f5021.wr W5020).lt (Nat.le_of_eq g5022.symm))
              have ne5126 : b5012 ≠ b5032 := Nat.ne_of_lt (Nat.lt_of_lt_of_le ((((f5021.wr W5020).ext E5022).keep Kq5027).wr W5030).lt (Nat.le_of_eq g5032.symm))
              have ne5127 : b5012 ≠ b2x4_14c5034 := Nat.ne_of_lt (Nat.lt_of_lt_of_le (((((f5021.wr W5020).ext E5022).keep Kq5027).wr W5030).ext E5032).lt sq_b2x4_14c5034)
              have ne5128 : b5012 ≠ b2x5_18c4c5034 := Nat.ne_of_lt (Nat.lt_of_lt_of_le (((((f5021.wr W5020).ext E5022).keep Kq5027).wr W5030).ext E5032).lt sq_b2x5_18c4c5034)
              have f5129 := (((((((Fc5017_0_1.other W5020 (Or.inl (Ne.symm ne5018))).ext E5022).keep Kq5027 (ninS ne5125 nin0)).other W5030 (Or.inl (Ne.symm ne5018))).ext E5032).keep Kq5034 (ninS ne5126 nin0)).keep Kq5121 (ninS ne5128 (ninS ne5127 (ninS ne5126 nin0))))
              have f5130 := (((((((f5021.wr W5020).ext E5022).keep Kq5027).wr W5030).ext E5032).keep Kq5034).keep Kq5121)
              have f5131 := (((((((Fc5017_0_0.other W5020 (Or.inl (Ne.symm ne5018))).ext E5022).keep Kq5027 (ninS ne5125 nin0)).other W5030 (Or.inl (Ne.symm ne5018))).ext E5032).keep Kq5034 (ninS ne5126 nin0)).keep Kq5121 (ninS ne5128 (ninS ne5127 (ninS ne5126 nin0))))
              have ne5132 : b5002 ≠ b2x4_14c5034 := Nat.ne_of_lt (Nat.lt_of_lt_of_le ((((((((f5011.wr W5010).ext E5012).keep Kq5017).wr W5020).ext E5022).keep Kq5027).wr W5030).ext E5032).lt sq_b2x4_14c5034)
              have ne5133 : b5002 ≠ b2x5_18c4c5034 := Nat.ne_of_lt (Nat.lt_of_lt_of_le ((((((((f5011.wr W5010).ext E5012).keep Kq5017).wr W5020).ext E5022).keep Kq5027).wr W5030).ext E5032).lt sq_b2x5_18c4c5034)
              have f5134 := ((((((((((Fc5007_0_1.other W5010 (Or.inl (Ne.symm ne5008))).ext E5012).keep Kq5017 (ninS ne5110 nin0)).other W5020 (Or.inl (Ne.symm ne5008))).ext E5022).keep Kq5027 (ninS ne5111 nin0)).other W5030 (Or.inl (Ne.symm ne5008))).ext E5032).keep Kq5034 (ninS ne5112 nin0)).keep Kq5121 (ninS ne5133 (ninS ne5132 (ninS ne5112 nin0))))
              have f5135 := ((((((((((Fc5007_0_0.other W5010 (Or.inl (Ne.symm ne5008))).ext E5012).keep Kq5017 (ninS ne5110 nin0)).other W5020 (Or.inl (Ne.symm ne5008))).ext E5022).keep Kq5027 (ninS ne5111 nin0)).other W5030 (Or.inl (Ne.symm ne5008))).ext E5032).keep Kq5034 (ninS ne5112 nin0)).keep Kq5121 (ninS ne5133 (ninS ne5132 (ninS ne5112 nin0))))
              have f5136 := (f5114.keep Kq5121)
              have f5137 := (Fc5034_0_2.keep Kq5121)
              have f5138 := (((((((Fc5017_0_3.other W5020 (Or.inl (Ne.symm ne5018))).ext E5022).keep Kq5027 (ninS ne5125 nin0)).other W5030 (Or.inl (Ne.symm ne5018))).ext E5032).keep Kq5034 (ninS ne5126 nin0)).keep Kq5121 (ninS ne5128 (ninS ne5127 (ninS ne5126 nin0))))
              have f5139 := (P5.keep K5121 nin0)
              have f5140 := (P7.keep K5121 nin0)
              have f5141 := (f5118.keep Kq5121)
              have f5142 := (Fc5034_0_8.keep Kq5121)
              have f5143 := (f5120.keep Kq5121)
              refine own_cV (a := b5032) X5121 hx hZ hown (own_w hw 64 rfl) (own_w hw 65 rfl) (own_w hw 67 rfl) (own_w hw 66 rfl) (own_w hw 30 rfl) (own_w hw 68 rfl) [(.ref b5012)] [] f5143 (own_rm8_91 l Z a0 hw [] b5032 b5012 b2x4_14c5034 b2x5_18c4c5034 k2x5_18c4c5034c2c5121 b5002 jp1 d1 jp0 d0 w_NONE b6x14_69c4c13c16c2c5121 b3x14_69c4c13c16c2c5121 k3x14_69c4c13c16c2c5121 w_NONE_names k_w_NONE_names T5121.heap n0 Z5121 Fc5121_0_5 Fc5121_0_1 Fc5121_0_4 Fc5121_0_0 OFc5121_0_0 f5129 f5130 f5131 f5134 f5135 f5136 f5137 f5138 Fc5121_0_2 Fc5121_0_8 Fc5121_0_9 OFc5121_0_9 f5139 f5140 f5141 Fc5121_0_7 Fc5121_0_3 f5142 g_b2x4_14c5034 g_b2x5_18c4c5034 Fc5121_0_6 f5143 g_b5032) 0 (hb hby at_272) (by rw [hml]; rfl) (lenOf own_pd12 rfl) rfl rfl rfl (by show 2 * 0 + _ ≤ _; exact Nat.le_of_eq rfl) (by decide) (by decide) (by decide) (by decide) (by decide) fun v5144 T5144 L5144 X5144 hQ5144 => ?_
              obtain ⟨N5144q, Kq5144, hL5144⟩ := hQ5144
              have N5144 := Fr.app N5121 N5144q
              have K5144 : Keep h0 T5144.heap [] := K5121.trans Kq5144 (allS (Or.inr sz_b2x5_18c4c5034) (allS (Or.inr sz_b2x4_14c5034) (allS (Or.inr sz_b5032) all0)))
              have Z5144 := Nat.le_trans Z5121 Kq5144.1
              rcases hL5144 with ⟨k2x5_18c4c5034c2c5070c2c5144, rfl, hq5144_0_0, Fc5144_0_0, OFc5144_0_0, Fc5144_0_1, Fc5144_0_2, Fc5144_0_3, Fc5144_0_4, Fc5144_0_5, Fc5144_0_6, -⟩ | ⟨k2x5_18c4c5034c2c5070c2c5144, rfl, hq5144_1_0, Fc5144_1_0, OFc5144_1_0, Fc5144_1_1, Fc5144_1_2, Fc5144_1_3, Fc5144_1_4, Fc5144_1_5, Fc5144_1_6, -⟩
              · skip
                refine own_st (fun t k => XS.iload X5144.here hx rfl (hb hby at_275) rfl (XS.iconst X5144.here hx rfl (hb hby at_277) k)) ?_
                show own_Go _ _ _ _ T5144 (mkF m 278 #[.val (.long jp0), .second, .val (.long jp1), .second, .val (.long jp2), .second, .val (.long jp3), .second, .val (.int ip4), .val (.int ip5), .val (.int (3 : Int32)), .val (.int n11), .val (.ref b1), .val (.ref b8), .val (.ref b15), .val (.ref b22), .val (.ref b26), .val (.ref b5001), .val (.ref b5032), .unset, .unset] [(.int (2 : Int32)), (.int (3 : Int32))])
                refine own_st (fun t k => XS.icmpNo X5144.here hx rfl (hb hby at_278) rfl (tlt (by decide : (2 : Int32) < (3 : Int32))).2.2.2 (XS.aload X5144.here hx rfl (hb hby at_281) rfl rfl (XS.aload X5144.here hx rfl (hb hby at_283) rfl rfl k))) ?_
                show own_Go _ _ _ _ T5144 (mkF m 285 #[.val (.long jp0), .second, .val (.long jp1), .second, .val (.long jp2), .second, .val (.long jp3), .second, .val (.int ip4), .val (.int ip5), .val (.int (3 : Int32)), .val (.int n11), .val (.ref b1), .val (.ref b8), .val (.ref b15), .val (.ref b22), .val (.ref b26), .val (.ref b5001), .val (.ref b5032), .unset, .unset] [(.ref b5001), (.ref b5032)])
                refine own_st (fun t k => XS.iconst X5144.here hx rfl (hb hby at_285) k) ?_
                have f5145 := (f5124.keep Kq5144 (ninS ne5123 (ninS ne5122 (ninS ne5108 nin0))))
                refine own_st (own_aaload X5144 hx hZ rfl f5145 rfl (j := (2 : Int32)) (v := (.ref b5022)) ⟨by decide, by decide⟩ rfl (g := (mkF m 286 #[.val (.long jp0), .second, .val (.long jp1), .second, .val (.long jp2), .second, .val (.long jp3), .second, .val (.int ip4), .val (.int ip5), .val (.int (3 : Int32)), .val (.int n11), .val (.ref b1), .val (.ref b8), .val (.ref b15), .val (.ref b22), .val (.ref b26), .val (.ref b5001), .val (.ref b5032), .unset, .unset] [(.int (2 : Int32)), (.ref b5001), (.ref b5032)])) rfl rfl (hb hby at_286)) ?_
                have ne5146 : b5022 ≠ b5032 := Nat.ne_of_lt (Nat.lt_of_lt_of_le (f5031.wr W5030).lt (Nat.le_of_eq g5032.symm))
                have ne5147 : b5022 ≠ b2x4_14c5034 := Nat.ne_of_lt (Nat.lt_of_lt_of_le ((f5031.wr W5030).ext E5032).lt sq_b2x4_14c5034)
                have ne5148 : b5022 ≠ b2x5_18c4c5034 := Nat.ne_of_lt (Nat.lt_of_lt_of_le ((f5031.wr W5030).ext E5032).lt sq_b2x5_18c4c5034)
                have f5149 := (((((Fc5027_0_1.other W5030 (Or.inl (Ne.symm ne5028))).ext E5032).keep Kq5034 (ninS ne5146 nin0)).keep Kq5121 (ninS ne5148 (ninS ne5147 (ninS ne5146 nin0)))).keep Kq5144 (ninS ne5148 (ninS ne5147 (ninS ne5146 nin0))))
                have f5150 := (((((f5031.wr W5030).ext E5032).keep Kq5034).keep Kq5121).keep Kq5144)
                have f5151 := (((((Fc5027_0_0.other W5030 (Or.inl (Ne.symm ne5028))).ext E5032).keep Kq5034 (ninS ne5146 nin0)).keep Kq5121 (ninS ne5148 (ninS ne5147 (ninS ne5146 nin0)))).keep Kq5144 (ninS ne5148 (ninS ne5147 (ninS ne5146 nin0))))
                have f5152 := (f5129.keep Kq5144 (ninS ne5128 (ninS ne5127 (ninS ne5126 nin0))))
                have f5153 := (f5131.keep Kq5144 (ninS ne5128 (ninS ne5127 (ninS ne5126 nin0))))
                have f5154 := (f5130.keep Kq5144)
                have f5155 := (f5134.keep Kq5144 (ninS ne5133 (ninS ne5132 (ninS ne5112 nin0))))
                have f5156 := (f5135.keep Kq5144 (ninS ne5133 (ninS ne5132 (ninS ne5112 nin0))))
                have f5157 := (f5136.keep Kq5144)
                have f5158 := (f5137.keep Kq5144)
                have f5159 := (((((Fc5027_0_3.other W5030 (Or.inl (Ne.symm ne5028))).ext E5032).keep Kq5034 (ninS ne5146 nin0)).keep Kq5121 (ninS ne5148 (ninS ne5147 (ninS ne5146 nin0)))).keep Kq5144 (ninS ne5148 (ninS ne5147 (ninS ne5146 nin0))))
                have ne5160 : b5032 ≠ b6x14_69c4c13c16c2c5121 := Nat.ne_of_lt (Nat.lt_of_lt_of_le f5120.lt sq_b6x14_69c4c13c16c2c5121)
                have ne5161 : b2x4_14c5034 ≠ b6x14_69c4c13c16c2c5121 := Nat.ne_of_lt (Nat.lt_of_lt_of_le Fc5034_0_2.lt sq_b6x14_69c4c13c16c2c5121)
                have ne5162 : b2x5_18c4c5034 ≠ b6x14_69c4c13c16c2c5121 := Nat.ne_of_lt (Nat.lt_of_lt_of_le Fc5034_0_7.lt sq_b6x14_69c4c13c16c2c5121)
                have f5163 := (Fc5121_0_8.keep Kq5144 (ninS (Ne.symm ne5162) (ninS (Ne.symm ne5161) (ninS (Ne.symm ne5160) nin0))))
                have ne5164 : b5032 ≠ b3x14_69c4c13c16c2c5121 := Nat.ne_of_lt (Nat.lt_of_lt_of_le f5120.lt sq_b3x14_69c4c13c16c2c5121)
                have ne5165 : b2x4_14c5034 ≠ b3x14_69c4c13c16c2c5121 := Nat.ne_of_lt (Nat.lt_of_lt_of_le Fc5034_0_2.lt sq_b3x14_69c4c13c16c2c5121)
                have ne5166 : b2x5_18c4c5034 ≠ b3x14_69c4c13c16c2c5121 := Nat.ne_of_lt (Nat.lt_of_lt_of_le Fc5034_0_7.lt sq_b3x14_69c4c13c16c2c5121)
                have f5167 := (Fc5121_0_9.keep Kq5144 (ninS (Ne.symm ne5166) (ninS (Ne.symm ne5165) (ninS (Ne.symm ne5164) nin0))))
                have ne5168 : w_NONE ≠ b5032 := Nat.ne_of_lt (Nat.lt_of_lt_of_le P1.lt sz_b5032)
                have ne5169 : w_NONE ≠ b2x4_14c5034 := Nat.ne_of_lt (Nat.lt_of_lt_of_le P1.lt sz_b2x4_14c5034)
                have ne5170 : w_NONE ≠ b2x5_18c4c5034 := Nat.ne_of_lt (Nat.lt_of_lt_of_le P1.lt sz_b2x5_18c4c5034)
                have f5171 := (f5139.keep Kq5144 (ninS ne5170 (ninS ne5169 (ninS ne5168 nin0))))
                have ne5172 : w_NONE_names ≠ b5032 := Nat.ne_of_lt (Nat.lt_of_lt_of_le P7.lt sz_b5032)
                have ne5173 : w_NONE_names ≠ b2x4_14c5034 := Nat.ne_of_lt (Nat.lt_of_lt_of_le P7.lt sz_b2x4_14c5034)
                have ne5174 : w_NONE_names ≠ b2x5_18c4c5034 := Nat.ne_of_lt (Nat.lt_of_lt_of_le P7.lt sz_b2x5_18c4c5034)
                have f5175 := (f5140.keep Kq5144 (ninS ne5174 (ninS ne5173 (ninS ne5172 nin0))))
                have f5176 := (f5141.keep Kq5144)
                have f5177 := (Fc5121_0_7.keep Kq5144)
                have f5178 := (f5142.keep Kq5144)
                have f5179 := (f5143.keep Kq5144)
                refine own_cV (a := b5032) X5144 hx hZ hown (own_w hw 64 rfl) (own_w hw 65 rfl) (own_w hw 67 rfl) (own_w hw 66 rfl) (own_w hw 30 rfl) (own_w hw 68 rfl) [(.ref b5022)] [] f5179 (own_rm8_119 l Z a0 hw [] b5032 b5022 b2x4_14c5034 b2x5_18c4c5034 k2x5_18c4c5034c2c5070c2c5144 b5002 b5012 jp2 d2 jp1 d1 jp0 d0 w_NONE b6x14_69c4c13c16c2c5121 b3x14_69c4c13c16c2c5121 k3x14_69c4c13c16c2c5121 w_NONE_names k_w_NONE_names T5144.heap n0 Z5144 Fc5144_0_5 Fc5144_0_1 Fc5144_0_2 Fc5144_0_0 OFc5144_0_0 f5149 f5150 f5151 f5152 f5153 f5154 f5155 f5156 f5157 f5158 f5159 Fc5144_0_3 f5163 f5167 OFc5121_0_9 f5171 f5175 f5176 f5177 Fc5144_0_4 f5178 g_b2x4_14c5034 g_b2x5_18c4c5034 Fc5144_0_6 f5179 g_b5032) 0 (hb hby at_287) (by rw [hml]; rfl) (lenOf own_pd12 rfl) rfl rfl rfl (by show 2 * 0 + _ ≤ _; exact Nat.le_of_eq rfl) (by decide) (by decide) (by decide) (by decide) (by decide) fun v5180 T5180 L5180 X5180 hQ5180 => ?_
                obtain ⟨N5180q, Kq5180, hL5180⟩ := hQ5180
                have N5180 := Fr.app N5144 N5180q
                have K5180 : Keep h0 T5180.heap [] := K5144.trans Kq5180 (allS (Or.inr sz_b2x5_18c4c5034) (allS (Or.inr sz_b2x4_14c5034) (allS (Or.inr sz_b5032) all0)))
                have Z5180 := Nat.le_trans Z5144 Kq5180.1
                rcases hL5180 with ⟨k2x5_18c4c5034c2c5070c2c5144c2c5180, rfl, hq5180_0_0, Fc5180_0_0, OFc5180_0_0, Fc5180_0_1, Fc5180_0_2, Fc5180_0_3, Fc5180_0_4, Fc5180_0_5, Fc5180_0_6, -⟩ | ⟨k2x5_18c4c5034c2c5070c2c5144c2c5180, rfl, hq5180_1_0, hq5180_1_1, Fc5180_1_0, OFc5180_1_0, Fc5180_1_1, Fc5180_1_2, Fc5180_1_3, Fc5180_1_4, Fc5180_1_5, Fc5180_1_6, -⟩ | ⟨k2x5_18c4c5034c2c5070c2c5144c2c5180, rfl, hq5180_2_0, hq5180_2_1, Fc5180_2_0, OFc5180_2_0, Fc5180_2_1, Fc5180_2_2, Fc5180_2_3, Fc5180_2_4, Fc5180_2_5, Fc5180_2_6, -⟩
                · skip
                  show own_Go _ _ _ _ T5180 (mkF m 290 #[.val (.long jp0), .second, .val (.long jp1), .second, .val (.long jp2), .second, .val (.long jp3), .second, .val (.int ip4), .val (.int ip5), .val (.int (3 : Int32)), .val (.int n11), .val (.ref b1), .val (.ref b8), .val (.ref b15), .val (.ref b22), .val (.ref b26), .val (.ref b5001), .val (.ref b5032), .unset, .unset] [])
                  refine own_st (fun t k => XS.aload X5180.here hx rfl (hb hby at_290) rfl rfl k) ?_
                  have f5181 := (f5158.keep Kq5180)
                  have f5183 := (f5179.keep Kq5180)
                  refine own_cV (a := b5032) X5180 hx hZ hown (own_w hw 57 rfl) (own_w hw 58 rfl) (own_w hw 60 rfl) (own_w hw 59 rfl) (own_w hw 30 rfl) (own_w hw 61 rfl) [] [] f5183 (own_rm7_128 l Z a0 hw [] b5032 b2x4_14c5034 b2x5_18c4c5034 k2x5_18c4c5034c2c5070c2c5144c2c5180 b5002 b5012 b5022 T5180.heap n0 Z5180 Fc5180_0_6 Fc5180_0_5 Fc5180_0_2 Fc5180_0_0 OFc5180_0_0 f5181) 0 (hb hby at_292) (by rw [hml]; rfl) (lenOf own_pd3 rfl) rfl rfl rfl (by show 2 * 0 + _ ≤ _; exact Nat.le_of_eq rfl) (by decide) (by decide) (by decide) (by decide) (by decide) fun v5182 T5182 L5182 X5182 hQ5182 => ?_
                  obtain ⟨N5182q, Kq5182, hL5182⟩ := hQ5182
                  have N5182 := Fr.app N5180 N5182q
                  have K5182 : Keep h0 T5182.heap [] := K5180.trans Kq5182 all0
                  have Z5182 := Nat.le_trans Z5180 Kq5182.1
                  rcases hL5182 with ⟨rfl, -⟩
                  · skip
                    refine own_st (fun t k => XS.astore X5182.here hx rfl (hb hby at_295) rfl rfl (l' := #[.val (.long jp0), .second, .val (.long jp1), .second, .val (.long jp2), .second, .val (.long jp3), .second, .val (.int ip4), .val (.int ip5), .val (.int (3 : Int32)), .val (.int n11), .val (.ref b1), .val (.ref b8), .val (.ref b15), .val (.ref b22), .val (.ref b26), .val (.ref b5001), .val (.ref b5032), .val (.ref b5002), .unset]) rfl k) ?_
                    show own_Go _ _ _ _ T5182 (mkF m 297 #[.val (.long jp0), .second, .val (.long jp1), .second, .val (.long jp2), .second, .val (.long jp3), .second, .val (.int ip4), .val (.int ip5), .val (.int (3 : Int32)), .val (.int n11), .val (.ref b1), .val (.ref b8), .val (.ref b15), .val (.ref b22), .val (.ref b26), .val (.ref b5001), .val (.ref b5032), .val (.ref b5002), .unset] [])
                    refine own_st (fun t k => XS.iload X5182.here hx rfl (hb hby at_297) rfl (XS.ifYes X5182.here hx rfl (pc0 := 299) (pc' := 313) rfl (hb hby at_299) rfl ((if0 _ _).trans (feq (by decide : ¬ ((3 : Int32) = (0 : Int32)))).2) (by decide) (by decide) (XS.iconst X5182.here hx rfl (hb hby at_313) k))) ?_
                    show own_Go _ _ _ _ T5182 (mkF m 314 #[.val (.long jp0), .second, .val (.long jp1), .second, .val (.long jp2), .second, .val (.long jp3), .second, .val (.int ip4), .val (.int ip5), .val (.int (3 : Int32)), .val (.int n11), .val (.ref b1), .val (.ref b8), .val (.ref b15), .val (.ref b22), .val (.ref b26), .val (.ref b5001), .val (.ref b5032), .val (.ref b5002), .unset] [(.int (0 : Int32))])
                    refine own_st (fun t k => XS.istore X5182.here hx rfl (hb hby at_314) rfl (l' := #[.val (.long jp0), .second, .val (.long jp1), .second, .val (.long jp2), .second, .val (.long jp3), .second, .val (.int ip4), .val (.int ip5), .val (.int (3 : Int32)), .val (.int n11), .val (.ref b1), .val (.ref b8), .val (.ref b15), .val (.ref b22), .val (.ref b26), .val (.ref b5001), .val (.ref b5032), .val (.ref b5002), .val (.int (0 : Int32))]) rfl (XS.iload X5182.here hx rfl (hb hby at_316) rfl (XS.iconst X5182.here hx rfl (hb hby at_318) k))) ?_
                    show own_Go _ _ _ _ T5182 (mkF m 319 #[.val (.long jp0), .second, .val (.long jp1), .second, .val (.long jp2), .second, .val (.long jp3), .second, .val (.int ip4), .val (.int ip5), .val (.int (3 : Int32)), .val (.int n11), .val (.ref b1), .val (.ref b8), .val (.ref b15), .val (.ref b22), .val (.ref b26), .val (.ref b5001), .val (.ref b5032), .val (.ref b5002), .val (.int (0 : Int32))] [(.int (1 : Int32)), (.int (3 : Int32))])
                    refine own_st (fun t k => XS.icmpNo X5182.here hx rfl (hb hby at_319) rfl (tlt (by decide : (1 : Int32) < (3 : Int32))).2.2.2 (XS.aload X5182.here hx rfl (hb hby at_322) rfl rfl (XS.iconst X5182.here hx rfl (hb hby at_324) k))) ?_
                    show own_Go _ _ _ _ T5182 (mkF m 325 #[.val (.long jp0), .second, .val (.long jp1), .second, .val (.long jp2), .second, .val (.long jp3), .second, .val (.int ip4), .val (.int ip5), .val (.int (3 : Int32)), .val (.int n11), .val (.ref b1), .val (.ref b8), .val (.ref b15), .val (.ref b22), .val (.ref b26), .val (.ref b5001), .val (.ref b5032), .val (.ref b5002), .val (.int (0 : Int32))] [(.int (1 : Int32)), (.ref b22)])
                    have f5184 := (P14.keep K5182 nin0)
                    refine own_st (own_laload X5182 hx hZ rfl f5184 (j := (1 : Int32)) (v := (.long jp1)) ⟨by decide, by decide⟩ rfl (g := (mkF m 325 #[.val (.long jp0), .second, .val (.long jp1), .second, .val (.long jp2), .second, .val (.long jp3), .second, .val (.int ip4), .val (.int ip5), .val (.int (3 : Int32)), .val (.int n11), .val (.ref b1), .val (.ref b8), .val (.ref b15), .val (.ref b22), .val (.ref b26), .val (.ref b5001), .val (.ref b5032), .val (.ref b5002), .val (.int (0 : Int32))] [(.int (1 : Int32)), (.ref b22)])) rfl rfl (hb hby at_325)) ?_
                    refine own_st (fun t k => XS.aload X5182.here hx rfl (hb hby at_326) rfl rfl (XS.iconst X5182.here hx rfl (hb hby at_328) k)) ?_
                    show own_Go _ _ _ _ T5182 (mkF m 329 #[.val (.long jp0), .second, .val (.long jp1), .second, .val (.long jp2), .second, .val (.long jp3), .second, .val (.int ip4), .val (.int ip5), .val (.int (3 : Int32)), .val (.int n11), .val (.ref b1), .val (.ref b8), .val (.ref b15), .val (.ref b22), .val (.ref b26), .val (.ref b5001), .val (.ref b5032), .val (.ref b5002), .val (.int (0 : Int32))] [(.int (1 : Int32)), (.ref b26), (.long jp1)])
                    have f5185 := (P16.keep K5182 nin0)
                    refine own_st (own_laload X5182 hx hZ rfl f5185 (j := (1 : Int32)) (v := (.long d1)) ⟨by decide, by decide⟩ rfl (g := (mkF m 329 #[.val (.long jp0), .second, .val (.long jp1), .second, .val (.long jp2), .second, .val (.long jp3), .second, .val (.int ip4), .val (.int ip5), .val (.int (3 : Int32)), .val (.int n11), .val (.ref b1), .val (.ref b8), .val (.ref b15), .val (.ref b22), .val (.ref b26), .val (.ref b5001), .val (.ref b5032), .val (.ref b5002), .val (.int (0 : Int32))] [(.int (1 : Int32)), (.ref b26), (.long jp1)])) rfl rfl (hb hby at_329)) ?_
                    refine own_st (fun t k => XS.aload X5182.here hx rfl (hb hby at_330) rfl rfl (XS.iload X5182.here hx rfl (hb hby at_332) rfl k)) ?_
                    show own_Go _ _ _ _ T5182 (mkF m 334 #[.val (.long jp0), .second, .val (.long jp1), .second, .val (.long jp2), .second, .val (.long jp3), .second, .val (.int ip4), .val (.int ip5), .val (.int (3 : Int32)), .val (.int n11), .val (.ref b1), .val (.ref b8), .val (.ref b15), .val (.ref b22), .val (.ref b26), .val (.ref b5001), .val (.ref b5032), .val (.ref b5002), .val (.int (0 : Int32))] [(.int (0 : Int32)), (.ref b22), (.long d1), (.long jp1)])
                    refine own_st (own_laload X5182 hx hZ rfl f5184 (j := (0 : Int32)) (v := (.long jp0)) ⟨by decide, by decide⟩ rfl (g := (mkF m 334 #[.val (.long jp0), .second, .val (.long jp1), .second, .val (.long jp2), .second, .val (.long jp3), .second, .val (.int ip4), .val (.int ip5), .val (.int (3 : Int32)), .val (.int n11), .val (.ref b1), .val (.ref b8), .val (.ref b15), .val (.ref b22), .val (.ref b26), .val (.ref b5001), .val (.ref b5032), .val (.ref b5002), .val (.int (0 : Int32))] [(.int (0 : Int32)), (.ref b22), (.long d1), (.long jp1)])) rfl rfl (hb hby at_334)) ?_
                    refine own_st (fun t k => XS.aload X5182.here hx rfl (hb hby at_335) rfl rfl (XS.iload X5182.here hx rfl (hb hby at_337) rfl k)) ?_
                    show own_Go _ _ _ _ T5182 (mkF m 339 #[.val (.long jp0), .second, .val (.long jp1), .second, .val (.long jp2), .second, .val (.long jp3), .second, .val (.int ip4), .val (.int ip5), .val (.int (3 : Int32)), .val (.int n11), .val (.ref b1), .val (.ref b8), .val (.ref b15), .val (.ref b22), .val (.ref b26), .val (.ref b5001), .val (.ref b5032), .val (.ref b5002), .val (.int (0 : Int32))] [(.int (0 : Int32)), (.ref b26), (.long jp0), (.long d1), (.long jp1)])
                    refine own_st (own_laload X5182 hx hZ rfl f5185 (j := (0 : Int32)) (v := (.long d0)) ⟨by decide, by decide⟩ rfl (g := (mkF m 339 #[.val (.long jp0), .second, .val (.long jp1), .second, .val (.long jp2), .second, .val (.long jp3), .second, .val (.int ip4), .val (.int ip5), .val (.int (3 : Int32)), .val (.int n11), .val (.ref b1), .val (.ref b8), .val (.ref b15), .val (.ref b22), .val (.ref b26), .val (.ref b5001), .val (.ref b5032), .val (.ref b5002), .val (.int (0 : Int32))] [(.int (0 : Int32)), (.ref b26), (.long jp0), (.long d1), (.long jp1)])) rfl rfl (hb hby at_339)) ?_
                    refine own_cS X5182 hx hZ hown (own_w hw 149 rfl) (own_w hw 150 rfl) (own_w hw 151 rfl) (own_w hw 152 rfl) [(.long jp1), (.long d1), (.long jp0), (.long d0)] [] (own_rm22 l Z a0 hw [] jp1 d1 jp0 d0 T5182.heap n0 Z5182 ) 0 (hb hby at_340) (by rw [hml]; rfl) (lenOf own_pd16 rfl) rfl rfl rfl (by show 2 * 0 + _ ≤ _; exact Nat.le_of_eq rfl) (by decide) (by decide) (by decide) (by decide) (by decide) fun v5186 T5186 L5186 X5186 hQ5186 => ?_
                    obtain ⟨N5186q, e5186, hL5186⟩ := hQ5186
                    have N5186 := Fr.app N5182 N5186q
                    rcases hL5186 with ⟨rfl, hq5186_0_0, -⟩ | ⟨rfl, hq5186_1_0, -⟩
                    · skip
                      exact absurd hq5186_0_0 (own_o2 hq5144_0_0 hq5180_0_0 hd01 hd02 hd12)
                    · skip
                      refine own_st (fun t k => XS.ifYes X5186.here hx rfl (pc0 := 343) (pc' := 349) rfl (hb hby at_343) rfl ((if0 _ _).trans (teq (by decide : (0 : Int32) = (0 : Int32))).1) (by decide) (by decide) k) ?_
                      show own_Go _ _ _ _ T5186 (mkF m 349 #[.val (.long jp0), .second, .val (.long jp1), .second, .val (.long jp2), .second, .val (.long jp3), .second, .val (.int ip4), .val (.int ip5), .val (.int (3 : Int32)), .val (.int n11), .val (.ref b1), .val (.ref b8), .val (.ref b15), .val (.ref b22), .val (.ref b26), .val (.ref b5001), .val (.ref b5032), .val (.ref b5002), .val (.int (0 : Int32))] [])
                      refine own_st (fun t k => XS.iload X5186.here hx rfl (hb hby at_349) rfl (XS.iconst X5186.here hx rfl (hb hby at_351) (XS.icmpNo X5186.here hx rfl (hb hby at_352) rfl (tlt (by decide : (2 : Int32) < (3 : Int32))).2.2.2 k))) ?_
                      show own_Go _ _ _ _ T5186 (mkF m 355 #[.val (.long jp0), .second, .val (.long jp1), .second, .val (.long jp2), .second, .val (.long jp3), .second, .val (.int ip4), .val (.int ip5), .val (.int (3 : Int32)), .val (.int n11), .val (.ref b1), .val (.ref b8), .val (.ref b15), .val (.ref b22), .val (.ref b26), .val (.ref b5001), .val (.ref b5032), .val (.ref b5002), .val (.int (0 : Int32))] [])
                      refine own_st (fun t k => XS.aload X5186.here hx rfl (hb hby at_355) rfl rfl (XS.iconst X5186.here hx rfl (hb hby at_357) k)) ?_
                      refine own_st (own_laload X5186 hx hZ e5186 f5184 (j := (2 : Int32)) (v := (.long jp2)) ⟨by decide, by decide⟩ rfl (g := (mkF m 358 #[.val (.long jp0), .second, .val (.long jp1), .second, .val (.long jp2), .second, .val (.long jp3), .second, .val (.int ip4), .val (.int ip5), .val (.int (3 : Int32)), .val (.int n11), .val (.ref b1), .val (.ref b8), .val (.ref b15), .val (.ref b22), .val (.ref b26), .val (.ref b5001), .val (.ref b5032), .val (.ref b5002), .val (.int (0 : Int32))] [(.int (2 : Int32)), (.ref b22)])) rfl rfl (hb hby at_358)) ?_
                      show own_Go _ _ _ _ T5186 (mkF m 359 #[.val (.long jp0), .second, .val (.long jp1), .second, .val (.long jp2), .second, .val (.long jp3), .second, .val (.int ip4), .val (.int ip5), .val (.int (3 : Int32)), .val (.int n11), .val (.ref b1), .val (.ref b8), .val (.ref b15), .val (.ref b22), .val (.ref b26), .val (.ref b5001), .val (.ref b5032), .val (.ref b5002), .val (.int (0 : Int32))] [(.long jp2)])
                      refine own_st (fun t k => XS.aload X5186.here hx rfl (hb hby at_359) rfl rfl (XS.iconst X5186.here hx rfl (hb hby at_361) k)) ?_
                      refine own_st (own_laload X5186 hx hZ e5186 f5185 (j := (2 : Int32)) (v := (.long d2)) ⟨by decide, by decide⟩ rfl (g := (mkF m 362 #[.val (.long jp0), .second, .val (.long jp1), .second, .val (.long jp2), .second, .val (.long jp3), .second, .val (.int ip4), .val (.int ip5), .val (.int (3 : Int32)), .val (.int n11), .val (.ref b1), .val (.ref b8), .val (.ref b15), .val (.ref b22), .val (.ref b26), .val (.ref b5001), .val (.ref b5032), .val (.ref b5002), .val (.int (0 : Int32))] [(.int (2 : Int32)), (.ref b26), (.long jp2)])) rfl rfl (hb hby at_362)) ?_
                      show own_Go _ _ _ _ T5186 (mkF m 363 #[.val (.long jp0), .second, .val (.long jp1), .second, .val (.long jp2), .second, .val (.long jp3), .second, .val (.int ip4), .val (.int ip5), .val (.int (3 : Int32)), .val (.int n11), .val (.ref b1), .val (.ref b8), .val (.ref b15), .val (.ref b22), .val (.ref b26), .val (.ref b5001), .val (.ref b5032), .val (.ref b5002), .val (.int (0 : Int32))] [(.long d2), (.long jp2)])
                      refine own_st (fun t k => XS.aload X5186.here hx rfl (hb hby at_363) rfl rfl (XS.iload X5186.here hx rfl (hb hby at_365) rfl k)) ?_
                      refine own_st (own_laload X5186 hx hZ e5186 f5184 (j := (0 : Int32)) (v := (.long jp0)) ⟨by decide, by decide⟩ rfl (g := (mkF m 367 #[.val (.long jp0), .second, .val (.long jp1), .second, .val (.long jp2), .second, .val (.long jp3), .second, .val (.int ip4), .val (.int ip5), .val (.int (3 : Int32)), .val (.int n11), .val (.ref b1), .val (.ref b8), .val (.ref b15), .val (.ref b22), .val (.ref b26), .val (.ref b5001), .val (.ref b5032), .val (.ref b5002), .val (.int (0 : Int32))] [(.int (0 : Int32)), (.ref b22), (.long d2), (.long jp2)])) rfl rfl (hb hby at_367)) ?_
                      show own_Go _ _ _ _ T5186 (mkF m 368 #[.val (.long jp0), .second, .val (.long jp1), .second, .val (.long jp2), .second, .val (.long jp3), .second, .val (.int ip4), .val (.int ip5), .val (.int (3 : Int32)), .val (.int n11), .val (.ref b1), .val (.ref b8), .val (.ref b15), .val (.ref b22), .val (.ref b26), .val (.ref b5001), .val (.ref b5032), .val (.ref b5002), .val (.int (0 : Int32))] [(.long jp0), (.long d2), (.long jp2)])
                      refine own_st (fun t k => XS.aload X5186.here hx rfl (hb hby at_368) rfl rfl (XS.iload X5186.here hx rfl (hb hby at_370) rfl k)) ?_
                      refine own_st (own_laload X5186 hx hZ e5186 f5185 (j := (0 : Int32)) (v := (.long d0)) ⟨by decide, by decide⟩ rfl (g := (mkF m 372 #[.val (.long jp0), .second, .val (.long jp1), .second, .val (.long jp2), .second, .val (.long jp3), .second, .val (.int ip4), .val (.int ip5), .val (.int (3 : Int32)), .val (.int n11), .val (.ref b1), .val (.ref b8), .val (.ref b15), .val (.ref b22), .val (.ref b26), .val (.ref b5001), .val (.ref b5032), .val (.ref b5002), .val (.int (0 : Int32))] [(.int (0 : Int32)), (.ref b26), (.long jp0), (.long d2), (.long jp2)])) rfl rfl (hb hby at_372)) ?_
                      show own_Go _ _ _ _ T5186 (mkF m 373 #[.val (.long jp0), .second, .val (.long jp1), .second, .val (.long jp2), .second, .val (.long jp3), .second, .val (.int ip4), .val (.int ip5), .val (.int (3 : Int32)), .val (.int n11), .val (.ref b1), .val (.ref b8), .val (.ref b15), .val (.ref b22), .val (.ref b26), .val (.ref b5001), .val (.ref b5032), .val (.ref b5002), .val (.int (0 : Int32))] [(.long d0), (.long jp0), (.long d2), (.long jp2)])
                      refine own_cS X5186 hx hZ hown (own_w hw 149 rfl) (own_w hw 150 rfl) (own_w hw 151 rfl) (own_w hw 152 rfl) [(.long jp2), (.long d2), (.long jp0), (.long d0)] [] (own_rm22 l Z a0 hw [] jp2 d2 jp0 d0 T5182.heap n0 Z5182 ) 0 (hb hby at_373) (by rw [hml]; rfl) (lenOf own_pd16 rfl) e5186 rfl rfl (by show 2 * 0 + _ ≤ _; exact Nat.le_of_eq rfl) (by decide) (by decide) (by decide) (by decide) (by decide) fun v5187 T5187 L5187 X5187 hQ5187 => ?_
                      obtain ⟨N5187q, e5187, hL5187⟩ := hQ5187
                      have N5187 := Fr.app N5186 N5187q
                      rcases hL5187 with ⟨rfl, hq5187_0_0, -⟩ | ⟨rfl, hq5187_1_0, -⟩
                      · skip
                        exact absurd hq5187_0_0 (own_o3 hq5144_0_0 hq5180_0_0 hq5186_1_0 hd01 hd02 hd12)
                      · skip
                        refine own_st (fun t k => XS.ifYes X5187.here hx rfl (pc0 := 376) (pc' := 382) rfl (hb hby at_376) rfl ((if0 _ _).trans (teq (by decide : (0 : Int32) = (0 : Int32))).1) (by decide) (by decide) (XS.aload X5187.here hx rfl (hb hby at_382) rfl rfl k)) ?_
                        show own_Go _ _ _ _ T5187 (mkF m 384 #[.val (.long jp0), .second, .val (.long jp1), .second, .val (.long jp2), .second, .val (.long jp3), .second, .val (.int ip4), .val (.int ip5), .val (.int (3 : Int32)), .val (.int n11), .val (.ref b1), .val (.ref b8), .val (.ref b15), .val (.ref b22), .val (.ref b26), .val (.ref b5001), .val (.ref b5032), .val (.ref b5002), .val (.int (0 : Int32))] [(.ref b5002)])
                        refine own_st (fun t k => XS.aload X5187.here hx rfl (hb hby at_384) rfl rfl (XS.iload X5187.here hx rfl (hb hby at_386) rfl k)) ?_
                        have f5188 := ((f5145.keep Kq5180 (ninS ne5123 (ninS ne5122 (ninS ne5108 nin0)))).keep Kq5182 nin0)
                        refine own_st (own_aaload X5187 hx hZ e5187 f5188 rfl (j := (0 : Int32)) (v := (.ref b5002)) ⟨by decide, by decide⟩ rfl (g := (mkF m 388 #[.val (.long jp0), .second, .val (.long jp1), .second, .val (.long jp2), .second, .val (.long jp3), .second, .val (.int ip4), .val (.int ip5), .val (.int (3 : Int32)), .val (.int n11), .val (.ref b1), .val (.ref b8), .val (.ref b15), .val (.ref b22), .val (.ref b26), .val (.ref b5001), .val (.ref b5032), .val (.ref b5002), .val (.int (0 : Int32))] [(.int (0 : Int32)), (.ref b5001), (.ref b5002)])) rfl rfl (hb hby at_388)) ?_
                        show own_Go _ _ _ _ T5187 (mkF m 389 #[.val (.long jp0), .second, .val (.long jp1), .second, .val (.long jp2), .second, .val (.long jp3), .second, .val (.int ip4), .val (.int ip5), .val (.int (3 : Int32)), .val (.int n11), .val (.ref b1), .val (.ref b8), .val (.ref b15), .val (.ref b22), .val (.ref b26), .val (.ref b5001), .val (.ref b5032), .val (.ref b5002), .val (.int (0 : Int32))] [(.ref b5002), (.ref b5002)])
                        refine own_st (fun t k => Jvm.RoadKit.acmp (g := (mkF m 389 #[.val (.long jp0), .second, .val (.long jp1), .second, .val (.long jp2), .second, .val (.long jp3), .second, .val (.int ip4), .val (.int ip5), .val (.int (3 : Int32)), .val (.int n11), .val (.ref b1), .val (.ref b8), .val (.ref b15), .val (.ref b22), .val (.ref b26), .val (.ref b5001), .val (.ref b5032), .val (.ref b5002), .val (.int (0 : Int32))] [(.ref b5002), (.ref b5002)])) X5187 hx rfl rfl rfl (pc0 := 389) (pc' := 392) (same := true) rfl (hb hby at_389) rfl (decide_eq_true (congrArg Value.ref (rfl : b5002 = b5002))) (by decide) (by decide) (XS.iconst X5187.here hx rfl (hb hby at_392) (XS.goto X5187.here hx rfl (pc0 := 393) (pc' := 397) rfl (hb hby at_393) (by decide) (by decide) k))) ?_
                        show own_Go _ _ _ _ T5187 (mkF m 397 #[.val (.long jp0), .second, .val (.long jp1), .second, .val (.long jp2), .second, .val (.long jp3), .second, .val (.int ip4), .val (.int ip5), .val (.int (3 : Int32)), .val (.int n11), .val (.ref b1), .val (.ref b8), .val (.ref b15), .val (.ref b22), .val (.ref b26), .val (.ref b5001), .val (.ref b5032), .val (.ref b5002), .val (.int (0 : Int32))] [(.int (1 : Int32))])
                        exact own_retZ X5187 hx hlk (t := .boolean) hret (by simp) (hb hby at_397) (by decide) (by decide) e5187 ⟨rfl, N5187⟩
                · skip
                  refine own_st (fun t k => XS.aload X5180.here hx rfl (hb hby at_290) rfl rfl k) ?_
                  have f5189 := (f5158.keep Kq5180)
                  have f5191 := (f5179.keep Kq5180)
                  refine own_cV (a := b5032) X5180 hx hZ hown (own_w hw 57 rfl) (own_w hw 58 rfl) (own_w hw 60 rfl) (own_w hw 59 rfl) (own_w hw 30 rfl) (own_w hw 61 rfl) [] [] f5191 (own_rm7_128 l Z a0 hw [] b5032 b2x4_14c5034 b2x5_18c4c5034 k2x5_18c4c5034c2c5070c2c5144c2c5180 b5002 b5022 b5012 T5180.heap n0 Z5180 Fc5180_1_6 Fc5180_1_5 Fc5180_1_2 Fc5180_1_0 OFc5180_1_0 f5189) 0 (hb hby at_292) (by rw [hml]; rfl) (lenOf own_pd3 rfl) rfl rfl rfl (by show 2 * 0 + _ ≤ _; exact Nat.le_of_eq rfl) (by decide) (by decide) (by decide) (by decide) (by decide) fun v5190 T5190 L5190 X5190 hQ5190 => ?_
                  obtain ⟨N5190q, Kq5190, hL5190⟩ := hQ5190
                  have N5190 := Fr.app N5180 N5190q
                  have K5190 : Keep h0 T5190.heap [] := K5180.trans Kq5190 all0
                  have Z5190 := Nat.le_trans Z5180 Kq5190.1
                  rcases hL5190 with ⟨rfl, -⟩
                  · skip
                    show own_Go _ _ _ _ T5190 (mkF m 295 #[.val (.long jp0), .second, .val (.long jp1), .second, .val (.long jp2), .second, .val (.long jp3), .second, .val (.int ip4), .val (.int ip5), .val (.int (3 : Int32)), .val (.int n11), .val (.ref b1), .val (.ref b8), .val (.ref b15), .val (.ref b22), .val (.ref b26), .val (.ref b5001), .val (.ref b5032), .unset, .unset] [(.ref b5002)])
                    refine own_st (fun t k => XS.astore X5190.here hx rfl (hb hby at_295) rfl rfl (l' := #[.val (.long jp0), .second, .val (.long jp1), .second, .val (.long jp2), .second, .val (.long jp3), .second, .val (.int ip4), .val (.int ip5), .val (.int (3 : Int32)), .val (.int n11), .val (.ref b1), .val (.ref b8), .val (.ref b15), .val (.ref b22), .val (.ref b26), .val (.ref b5001), .val (.ref b5032), .val (.ref b5002), .unset]) rfl (XS.iload X5190.here hx rfl (hb hby at_297) rfl (XS.ifYes X5190.here hx rfl (pc0 := 299) (pc' := 313) rfl (hb hby at_299) rfl ((if0 _ _).trans (feq (by decide : ¬ ((3 : Int32) = (0 : Int32)))).2) (by decide) (by decide) k))) ?_
                    show own_Go _ _ _ _ T5190 (mkF m 313 #[.val (.long jp0), .second, .val (.long jp1), .second, .val (.long jp2), .second, .val (.long jp3), .second, .val (.int ip4), .val (.int ip5), .val (.int (3 : Int32)), .val (.int n11), .val (.ref b1), .val (.ref b8), .val (.ref b15), .val (.ref b22), .val (.ref b26), .val (.ref b5001), .val (.ref b5032), .val (.ref b5002), .unset] [])
                    refine own_st (fun t k => XS.iconst X5190.here hx rfl (hb hby at_313) (XS.istore X5190.here hx rfl (hb hby at_314) rfl (l' := #[.val (.long jp0), .second, .val (.long jp1), .second, .val (.long jp2), .second, .val (.long jp3), .second, .val (.int ip4), .val (.int ip5), .val (.int (3 : Int32)), .val (.int n11), .val (.ref b1), .val (.ref b8), .val (.ref b15), .val (.ref b22), .val (.ref b26), .val (.ref b5001), .val (.ref b5032), .val (.ref b5002), .val (.int (0 : Int32))]) rfl (XS.iload X5190.here hx rfl (hb hby at_316) rfl k))) ?_
                    show own_Go _ _ _ _ T5190 (mkF m 318 #[.val (.long jp0), .second, .val (.long jp1), .second, .val (.long jp2), .second, .val (.long jp3), .second, .val (.int ip4), .val (.int ip5), .val (.int (3 : Int32)), .val (.int n11), .val (.ref b1), .val (.ref b8), .val (.ref b15), .val (.ref b22), .val (.ref b26), .val (.ref b5001), .val (.ref b5032), .val (.ref b5002), .val (.int (0 : Int32))] [(.int (3 : Int32))])
                    refine own_st (fun t k => XS.iconst X5190.here hx rfl (hb hby at_318) (XS.icmpNo X5190.here hx rfl (hb hby at_319) rfl (tlt (by decide : (1 : Int32) < (3 : Int32))).2.2.2 (XS.aload X5190.here hx rfl (hb hby at_322) rfl rfl k))) ?_
                    show own_Go _ _ _ _ T5190 (mkF m 324 #[.val (.long jp0), .second, .val (.long jp1), .second, .val (.long jp2), .second, .val (.long jp3), .second, .val (.int ip4), .val (.int ip5), .val (.int (3 : Int32)), .val (.int n11), .val (.ref b1), .val (.ref b8), .val (.ref b15), .val (.ref b22), .val (.ref b26), .val (.ref b5001), .val (.ref b5032), .val (.ref b5002), .val (.int (0 : Int32))] [(.ref b22)])
                    refine own_st (fun t k => XS.iconst X5190.here hx rfl (hb hby at_324) k) ?_
                    have f5192 := (P14.keep K5190 nin0)
                    refine own_st (own_laload X5190 hx hZ rfl f5192 (j := (1 : Int32)) (v := (.long jp1)) ⟨by decide, by decide⟩ rfl (g := (mkF m 325 #[.val (.long jp0), .second, .val (.long jp1), .second, .val (.long jp2), .second, .val (.long jp3), .second, .val (.int ip4), .val (.int ip5), .val (.int (3 : Int32)), .val (.int n11), .val (.ref b1), .val (.ref b8), .val (.ref b15), .val (.ref b22), .val (.ref b26), .val (.ref b5001), .val (.ref b5032), .val (.ref b5002), .val (.int (0 : Int32))] [(.int (1 : Int32)), (.ref b22)])) rfl rfl (hb hby at_325)) ?_
                    refine own_st (fun t k => XS.aload X5190.here hx rfl (hb hby at_326) rfl rfl k) ?_
                    show own_Go _ _ _ _ T5190 (mkF m 328 #[.val (.long jp0), .second, .val (.long jp1), .second, .val (.long jp2), .second, .val (.long jp3), .second, .val (.int ip4), .val (.int ip5), .val (.int (3 : Int32)), .val (.int n11), .val (.ref b1), .val (.ref b8), .val (.ref b15), .val (.ref b22), .val (.ref b26), .val (.ref b5001), .val (.ref b5032), .val (.ref b5002), .val (.int (0 : Int32))] [(.ref b26), (.long jp1)])
                    refine own_st (fun t k => XS.iconst X5190.here hx rfl (hb hby at_328) k) ?_
                    have f5193 := (P16.keep K5190 nin0)
                    refine own_st (own_laload X5190 hx hZ rfl f5193 (j := (1 : Int32)) (v := (.long d1)) ⟨by decide, by decide⟩ rfl (g := (mkF m 329 #[.val (.long jp0), .second, .val (.long jp1), .second, .val (.long jp2), .second, .val (.long jp3), .second, .val (.int ip4), .val (.int ip5), .val (.int (3 : Int32)), .val (.int n11), .val (.ref b1), .val (.ref b8), .val (.ref b15), .val (.ref b22), .val (.ref b26), .val (.ref b5001), .val (.ref b5032), .val (.ref b5002), .val (.int (0 : Int32))] [(.int (1 : Int32)), (.ref b26), (.long jp1)])) rfl rfl (hb hby at_329)) ?_
                    refine own_st (fun t k => XS.aload X5190.here hx rfl (hb hby at_330) rfl rfl k) ?_
                    show own_Go _ _ _ _ T5190 (mkF m 332 #[.val (.long jp0), .second, .val (.long jp1), .second, .val (.long jp2), .second, .val (.long jp3), .second, .val (.int ip4), .val (.int ip5), .val (.int (3 : Int32)), .val (.int n11), .val (.ref b1), .val (.ref b8), .val (.ref b15), .val (.ref b22), .val (.ref b26), .val (.ref b5001), .val (.ref b5032), .val (.ref b5002), .val (.int (0 : Int32))] [(.ref b22), (.long d1), (.long jp1)])
                    refine own_st (fun t k => XS.iload X5190.here hx rfl (hb hby at_332) rfl k) ?_
                    refine own_st (own_laload X5190 hx hZ rfl f5192 (j := (0 : Int32)) (v := (.long jp0)) ⟨by decide, by decide⟩ rfl (g := (mkF m 334 #[.val (.long jp0), .second, .val (.long jp1), .second, .val (.long jp2), .second, .val (.long jp3), .second, .val (.int ip4), .val (.int ip5), .val (.int (3 : Int32)), .val (.int n11), .val (.ref b1), .val (.ref b8), .val (.ref b15), .val (.ref b22), .val (.ref b26), .val (.ref b5001), .val (.ref b5032), .val (.ref b5002), .val (.int (0 : Int32))] [(.int (0 : Int32)), (.ref b22), (.long d1), (.long jp1)])) rfl rfl (hb hby at_334)) ?_
                    refine own_st (fun t k => XS.aload X5190.here hx rfl (hb hby at_335) rfl rfl k) ?_
                    show own_Go _ _ _ _ T5190 (mkF m 337 #[.val (.long jp0), .second, .val (.long jp1), .second, .val (.long jp2), .second, .val (.long jp3), .second, .val (.int ip4), .val (.int ip5), .val (.int (3 : Int32)), .val (.int n11), .val (.ref b1), .val (.ref b8), .val (.ref b15), .val (.ref b22), .val (.ref b26), .val (.ref b5001), .val (.ref b5032), .val (.ref b5002), .val (.int (0 : Int32))] [(.ref b26), (.long jp0), (.long d1), (.long jp1)])
                    refine own_st (fun t k => XS.iload X5190.here hx rfl (hb hby at_337) rfl k) ?_
                    refine own_st (own_laload X5190 hx hZ rfl f5193 (j := (0 : Int32)) (v := (.long d0)) ⟨by decide, by decide⟩ rfl (g := (mkF m 339 #[.val (.long jp0), .second, .val (.long jp1), .second, .val (.long jp2), .second, .val (.long jp3), .second, .val (.int ip4), .val (.int ip5), .val (.int (3 : Int32)), .val (.int n11), .val (.ref b1), .val (.ref b8), .val (.ref b15), .val (.ref b22), .val (.ref b26), .val (.ref b5001), .val (.ref b5032), .val (.ref b5002), .val (.int (0 : Int32))] [(.int (0 : Int32)), (.ref b26), (.long jp0), (.long d1), (.long jp1)])) rfl rfl (hb hby at_339)) ?_
                    refine own_cS X5190 hx hZ hown (own_w hw 149 rfl) (own_w hw 150 rfl) (own_w hw 151 rfl) (own_w hw 152 rfl) [(.long jp1), (.long d1), (.long jp0), (.long d0)] [] (own_rm22 l Z a0 hw [] jp1 d1 jp0 d0 T5190.heap n0 Z5190 ) 0 (hb hby at_340) (by rw [hml]; rfl) (lenOf own_pd16 rfl) rfl rfl rfl (by show 2 * 0 + _ ≤ _; exact Nat.le_of_eq rfl) (by decide) (by decide) (by decide) (by decide) (by decide) fun v5194 T5194 L5194 X5194 hQ5194 => ?_
                    obtain ⟨N5194q, e5194, hL5194⟩ := hQ5194
                    have N5194 := Fr.app N5190 N5194q
                    rcases hL5194 with ⟨rfl, hq5194_0_0, -⟩ | ⟨rfl, hq5194_1_0, -⟩
                    · skip
                      exact absurd hq5194_0_0 (own_o4 hq5144_0_0 hq5180_1_0 hq5180_1_1 hd01 hd02 hd12)
                    · skip
                      show own_Go _ _ _ _ T5194 (mkF m 343 #[.val (.long jp0), .second, .val (.long jp1), .second, .val (.long jp2), .second, .val (.long jp3), .second, .val (.int ip4), .val (.int ip5), .val (.int (3 : Int32)), .val (.int n11), .val (.ref b1), .val (.ref b8), .val (.ref b15), .val (.ref b22), .val (.ref b26), .val (.ref b5001), .val (.ref b5032), .val (.ref b5002), .val (.int (0 : Int32))] [(.int (0 : Int32))])
                      refine own_st (fun t k => XS.ifYes X5194.here hx rfl (pc0 := 343) (pc' := 349) rfl (hb hby at_343) rfl ((if0 _ _).trans (teq (by decide : (0 : Int32) = (0 : Int32))).1) (by decide) (by decide) (XS.iload X5194.here hx rfl (hb hby at_349) rfl (XS.iconst X5194.here hx rfl (hb hby at_351) k))) ?_
                      show own_Go _ _ _ _ T5194 (mkF m 352 #[.val (.long jp0), .second, .val (.long jp1), .second, .val (.long jp2), .second, .val (.long jp3), .second, .val (.int ip4), .val (.int ip5), .val (.int (3 : Int32)), .val (.int n11), .val (.ref b1), .val (.ref b8), .val (.ref b15), .val (.ref b22), .val (.ref b26), .val (.ref b5001), .val (.ref b5032), .val (.ref b5002), .val (.int (0 : Int32))] [(.int (2 : Int32)), (.int (3 : Int32))])
                      refine own_st (fun t k => XS.icmpNo X5194.here hx rfl (hb hby at_352) rfl (tlt (by decide : (2 : Int32) < (3 : Int32))).2.2.2 (XS.aload X5194.here hx rfl (hb hby at_355) rfl rfl (XS.iconst X5194.here hx rfl (hb hby at_357) k))) ?_
                      show own_Go _ _ _ _ T5194 (mkF m 358 #[.val (.long jp0), .second, .val (.long jp1), .second, .val (.long jp2), .second, .val (.long jp3), .second, .val (.int ip4), .val (.int ip5), .val (.int (3 : Int32)), .val (.int n11), .val (.ref b1), .val (.ref b8), .val (.ref b15), .val (.ref b22), .val (.ref b26), .val (.ref b5001), .val (.ref b5032), .val (.ref b5002), .val (.int (0 : Int32))] [(.int (2 : Int32)), (.ref b22)])
                      refine own_st (own_laload X5194 hx hZ e5194 f5192 (j := (2 : Int32)) (v := (.long jp2)) ⟨by decide, by decide⟩ rfl (g := (mkF m 358 #[.val (.long jp0), .second, .val (.long jp1), .second, .val (.long jp2), .second, .val (.long jp3), .second, .val (.int ip4), .val (.int ip5), .val (.int (3 : Int32)), .val (.int n11), .val (.ref b1), .val (.ref b8), .val (.ref b15), .val (.ref b22), .val (.ref b26), .val (.ref b5001), .val (.ref b5032), .val (.ref b5002), .val (.int (0 : Int32))] [(.int (2 : Int32)), (.ref b22)])) rfl rfl (hb hby at_358)) ?_
                      refine own_st (fun t k => XS.aload X5194.here hx rfl (hb hby at_359) rfl rfl (XS.iconst X5194.here hx rfl (hb hby at_361) k)) ?_
                      show own_Go _ _ _ _ T5194 (mkF m 362 #[.val (.long jp0), .second, .val (.long jp1), .second, .val (.long jp2), .second, .val (.long jp3), .second, .val (.int ip4), .val (.int ip5), .val (.int (3 : Int32)), .val (.int n11), .val (.ref b1), .val (.ref b8), .val (.ref b15), .val (.ref b22), .val (.ref b26), .val (.ref b5001), .val (.ref b5032), .val (.ref b5002), .val (.int (0 : Int32))] [(.int (2 : Int32)), (.ref b26), (.long jp2)])
                      refine own_st (own_laload X5194 hx hZ e5194 f5193 (j := (2 : Int32)) (v := (.long d2)) ⟨by decide, by decide⟩ rfl (g := (mkF m 362 #[.val (.long jp0), .second, .val (.long jp1), .second, .val (.long jp2), .second, .val (.long jp3), .second, .val (.int ip4), .val (.int ip5), .val (.int (3 : Int32)), .val (.int n11), .val (.ref b1), .val (.ref b8), .val (.ref b15), .val (.ref b22), .val (.ref b26), .val (.ref b5001), .val (.ref b5032), .val (.ref b5002), .val (.int (0 : Int32))] [(.int (2 : Int32)), (.ref b26), (.long jp2)])) rfl rfl (hb hby at_362)) ?_
                      refine own_st (fun t k => XS.aload X5194.here hx rfl (hb hby at_363) rfl rfl (XS.iload X5194.here hx rfl (hb hby at_365) rfl k)) ?_
                      show own_Go _ _ _ _ T5194 (mkF m 367 #[.val (.long jp0), .second, .val (.long jp1), .second, .val (.long jp2), .second, .val (.long jp3), .second, .val (.int ip4), .val (.int ip5), .val (.int (3 : Int32)), .val (.int n11), .val (.ref b1), .val (.ref b8), .val (.ref b15), .val (.ref b22), .val (.ref b26), .val (.ref b5001), .val (.ref b5032), .val (.ref b5002), .val (.int (0 : Int32))] [(.int (0 : Int32)), (.ref b22), (.long d2), (.long jp2)])
                      refine own_st (own_laload X5194 hx hZ e5194 f5192 (j := (0 : Int32)) (v := (.long jp0)) ⟨by decide, by decide⟩ rfl (g := (mkF m 367 #[.val (.long jp0), .second, .val (.long jp1), .second, .val (.long jp2), .second, .val (.long jp3), .second, .val (.int ip4), .val (.int ip5), .val (.int (3 : Int32)), .val (.int n11), .val (.ref b1), .val (.ref b8), .val (.ref b15), .val (.ref b22), .val (.ref b26), .val (.ref b5001), .val (.ref b5032), .val (.ref b5002), .val (.int (0 : Int32))] [(.int (0 : Int32)), (.ref b22), (.long d2), (.long jp2)])) rfl rfl (hb hby at_367)) ?_
                      refine own_st (fun t k => XS.aload X5194.here hx rfl (hb hby at_368) rfl rfl (XS.iload X5194.here hx rfl (hb hby at_370) rfl k)) ?_
                      show own_Go _ _ _ _ T5194 (mkF m 372 #[.val (.long jp0), .second, .val (.long jp1), .second, .val (.long jp2), .second, .val (.long jp3), .second, .val (.int ip4), .val (.int ip5), .val (.int (3 : Int32)), .val (.int n11), .val (.ref b1), .val (.ref b8), .val (.ref b15), .val (.ref b22), .val (.ref b26), .val (.ref b5001), .val (.ref b5032), .val (.ref b5002), .val (.int (0 : Int32))] [(.int (0 : Int32)), (.ref b26), (.long jp0), (.long d2), (.long jp2)])
                      refine own_st (own_laload X5194 hx hZ e5194 f5193 (j := (0 : Int32)) (v := (.long d0)) ⟨by decide, by decide⟩ rfl (g := (mkF m 372 #[.val (.long jp0), .second, .val (.long jp1), .second, .val (.long jp2), .second, .val (.long jp3), .second, .val (.int ip4), .val (.int ip5), .val (.int (3 : Int32)), .val (.int n11), .val (.ref b1), .val (.ref b8), .val (.ref b15), .val (.ref b22), .val (.ref b26), .val (.ref b5001), .val (.ref b5032), .val (.ref b5002), .val (.int (0 : Int32))] [(.int (0 : Int32)), (.ref b26), (.long jp0), (.long d2), (.long jp2)])) rfl rfl (hb hby at_372)) ?_
                      refine own_cS X5194 hx hZ hown (own_w hw 149 rfl) (own_w hw 150 rfl) (own_w hw 151 rfl) (own_w hw 152 rfl) [(.long jp2), (.long d2), (.long jp0), (.long d0)] [] (own_rm22 l Z a0 hw [] jp2 d2 jp0 d0 T5190.heap n0 Z5190 ) 0 (hb hby at_373) (by rw [hml]; rfl) (lenOf own_pd16 rfl) e5194 rfl rfl (by show 2 * 0 + _ ≤ _; exact Nat.le_of_eq rfl) (by decide) (by decide) (by decide) (by decide) (by decide) fun v5195 T5195 L5195 X5195 hQ5195 => ?_
                      obtain ⟨N5195q, e5195, hL5195⟩ := hQ5195
                      have N5195 := Fr.app N5194 N5195q
                      rcases hL5195 with ⟨rfl, hq5195_0_0, -⟩ | ⟨rfl, hq5195_1_0, -⟩
                      · skip
                        exact absurd hq5195_0_0 (own_o5 hq5144_0_0 hq5180_1_0 hq5180_1_1 hq5194_1_0 hd01 hd02 hd12)
                      · skip
                        refine own_st (fun t k => XS.ifYes X5195.here hx rfl (pc0 := 376) (pc' := 382) rfl (hb hby at_376) rfl ((if0 _ _).trans (teq (by decide : (0 : Int32) = (0 : Int32))).1) (by decide) (by decide) k) ?_
                        show own_Go _ _ _ _ T5195 (mkF m 382 #[.val (.long jp0), .second, .val (.long jp1), .second, .val (.long jp2), .second, .val (.long jp3), .second, .val (.int ip4), .val (.int ip5), .val (.int (3 : Int32)), .val (.int n11), .val (.ref b1), .val (.ref b8), .val (.ref b15), .val (.ref b22), .val (.ref b26), .val (.ref b5001), .val (.ref b5032), .val (.ref b5002), .val (.int (0 : Int32))] [])
                        refine own_st (fun t k => XS.aload X5195.here hx rfl (hb hby at_382) rfl rfl (XS.aload X5195.here hx rfl (hb hby at_384) rfl rfl (XS.iload X5195.here hx rfl (hb hby at_386) rfl k))) ?_
                        show own_Go _ _ _ _ T5195 (mkF m 388 #[.val (.long jp0), .second, .val (.long jp1), .second, .val (.long jp2), .second, .val (.long jp3), .second, .val (.int ip4), .val (.int ip5), .val (.int (3 : Int32)), .val (.int n11), .val (.ref b1), .val (.ref b8), .val (.ref b15), .val (.ref b22), .val (.ref b26), .val (.ref b5001), .val (.ref b5032), .val (.ref b5002), .val (.int (0 : Int32))] [(.int (0 : Int32)), (.ref b5001), (.ref b5002)])
                        have f5196 := ((f5145.keep Kq5180 (ninS ne5123 (ninS ne5122 (ninS ne5108 nin0)))).keep Kq5190 nin0)
                        refine own_st (own_aaload X5195 hx hZ e5195 f5196 rfl (j := (0 : Int32)) (v := (.ref b5002)) ⟨by decide, by decide⟩ rfl (g := (mkF m 388 #[.val (.long jp0), .second, .val (.long jp1), .second, .val (.long jp2), .second, .val (.long jp3), .second, .val (.int ip4), .val (.int ip5), .val (.int (3 : Int32)), .val (.int n11), .val (.ref b1), .val (.ref b8), .val (.ref b15), .val (.ref b22), .val (.ref b26), .val (.ref b5001), .val (.ref b5032), .val (.ref b5002), .val (.int (0 : Int32))] [(.int (0 : Int32)), (.ref b5001), (.ref b5002)])) rfl rfl (hb hby at_388)) ?_
                        refine own_st (fun t k => Jvm.RoadKit.acmp (g := (mkF m 389 #[.val (.long jp0), .second, .val (.long jp1), .second, .val (.long jp2), .second, .val (.long jp3), .second, .val (.int ip4), .val (.int ip5), .val (.int (3 : Int32)), .val (.int n11), .val (.ref b1), .val (.ref b8), .val (.ref b15), .val (.ref b22), .val (.ref b26), .val (.ref b5001), .val (.ref b5032), .val (.ref b5002), .val (.int (0 : Int32))] [(.ref b5002), (.ref b5002)])) X5195 hx rfl rfl rfl (pc0 := 389) (pc' := 392) (same := true) rfl (hb hby at_389) rfl (decide_eq_true (congrArg Value.ref (rfl : b5002 = b5002))) (by decide) (by decide) (XS.iconst X5195.here hx rfl (hb hby at_392) k)) ?_
                        show own_Go _ _ _ _ T5195 (mkF m 393 #[.val (.long jp0), .second, .val (.long jp1), .second, .val (.long jp2), .second, .val (.long jp3), .second, .val (.int ip4), .val (.int ip5), .val (.int (3 : Int32)), .val (.int n11), .val (.ref b1), .val (.ref b8), .val (.ref b15), .val (.ref b22), .val (.ref b26), .val (.ref b5001), .val (.ref b5032), .val (.ref b5002), .val (.int (0 : Int32))] [(.int (1 : Int32))])
                        refine own_st (fun t k => XS.goto X5195.here hx rfl (pc0 := 393) (pc' := 397) rfl (hb hby at_393) (by decide) (by decide) k) ?_
                        exact own_retZ X5195 hx hlk (t := .boolean) hret (by simp) (hb hby at_397) (by decide) (by decide) e5195 ⟨rfl, N5195⟩
                · skip
                  refine own_st (fun t k => XS.aload X5180.here hx rfl (hb hby at_290) rfl rfl k) ?_
                  show own_Go _ _ _ _ T5180 (mkF m 292 #[.val (.long jp0), .second, .val (.long jp1), .second, .val (.long jp2), .second, .val (.long jp3), .second, .val (.int ip4), .val (.int ip5), .val (.int (3 : Int32)), .val (.int n11), .val (.ref b1), .val (.ref b8), .val (.ref b15), .val (.ref b22), .val (.ref b26), .val (.ref b5001), .val (.ref b5032), .unset, .unset] [(.ref b5032)])
                  have f5197 := (f5158.keep Kq5180)
                  have f5199 := (f5179.keep Kq5180)
                  refine own_cV (a := b5032) X5180 hx hZ hown (own_w hw 57 rfl) (own_w hw 58 rfl) (own_w hw 60 rfl) (own_w hw 59 rfl) (own_w hw 30 rfl) (own_w hw 61 rfl) [] [] f5199 (own_rm7_128 l Z a0 hw [] b5032 b2x4_14c5034 b2x5_18c4c5034 k2x5_18c4c5034c2c5070c2c5144c2c5180 b5022 b5002 b5012 T5180.heap n0 Z5180 Fc5180_2_6 Fc5180_2_5 Fc5180_2_2 Fc5180_2_0 OFc5180_2_0 f5197) 0 (hb hby at_292) (by rw [hml]; rfl) (lenOf own_pd3 rfl) rfl rfl rfl (by show 2 * 0 + _ ≤ _; exact Nat.le_of_eq rfl) (by decide) (by decide) (by decide) (by decide) (by decide) fun v5198 T5198 L5198 X5198 hQ5198 => ?_
                  obtain ⟨N5198q, Kq5198, hL5198⟩ := hQ5198
                  have N5198 := Fr.app N5180 N5198q
                  have K5198 : Keep h0 T5198.heap [] := K5180.trans Kq5198 all0
                  have Z5198 := Nat.le_trans Z5180 Kq5198.1
                  rcases hL5198 with ⟨rfl, -⟩
                  · skip
                    refine own_st (fun t k => XS.astore X5198.here hx rfl (hb hby at_295) rfl rfl (l' := #[.val (.long jp0), .second, .val (.long jp1), .second, .val (.long jp2), .second, .val (.long jp3), .second, .val (.int ip4), .val (.int ip5), .val (.int (3 : Int32)), .val (.int n11), .val (.ref b1), .val (.ref b8), .val (.ref b15), .val (.ref b22), .val (.ref b26), .val (.ref b5001), .val (.ref b5032), .val (.ref b5022), .unset]) rfl (XS.iload X5198.here hx rfl (hb hby at_297) rfl k)) ?_
                    show own_Go _ _ _ _ T5198 (mkF m 299 #[.val (.long jp0), .second, .val (.long jp1), .second, .val (.long jp2), .second, .val (.long jp3), .second, .val (.int ip4), .val (.int ip5), .val (.int (3 : Int32)), .val (.int n11), .val (.ref b1), .val (.ref b8), .val (.ref b15), .val (.ref b22), .val (.ref b26), .val (.ref b5001), .val (.ref b5032), .val (.ref b5022), .unset] [(.int (3 : Int32))])
                    refine own_st (fun t k => XS.ifYes X5198.here hx rfl (pc0 := 299) (pc' := 313) rfl (hb hby at_299) rfl ((if0 _ _).trans (feq (by decide : ¬ ((3 : Int32) = (0 : Int32)))).2) (by decide) (by decide) (XS.iconst X5198.here hx rfl (hb hby at_313) (XS.istore X5198.here hx rfl (hb hby at_314) rfl (l' := #[.val (.long jp0), .second, .val (.long jp1), .second, .val (.long jp2), .second, .val (.long jp3), .second, .val (.int ip4), .val (.int ip5), .val (.int (3 : Int32)), .val (.int n11), .val (.ref b1), .val (.ref b8), .val (.ref b15), .val (.ref b22), .val (.ref b26), .val (.ref b5001), .val (.ref b5032), .val (.ref b5022), .val (.int (0 : Int32))]) rfl k))) ?_
                    show own_Go _ _ _ _ T5198 (mkF m 316 #[.val (.long jp0), .second, .val (.long jp1), .second, .val (.long jp2), .second, .val (.long jp3), .second, .val (.int ip4), .val (.int ip5), .val (.int (3 : Int32)), .val (.int n11), .val (.ref b1), .val (.ref b8), .val (.ref b15), .val (.ref b22), .val (.ref b26), .val (.ref b5001), .val (.ref b5032), .val (.ref b5022), .val (.int (0 : Int32))] [])
                    refine own_st (fun t k => XS.iload X5198.here hx rfl (hb hby at_316) rfl (XS.iconst X5198.here hx rfl (hb hby at_318) (XS.icmpNo X5198.here hx rfl (hb hby at_319) rfl (tlt (by decide : (1 : Int32) < (3 : Int32))).2.2.2 k))) ?_
                    show own_Go _ _ _ _ T5198 (mkF m 322 #[.val (.long jp0), .second, .val (.long jp1), .second, .val (.long jp2), .second, .val (.long jp3), .second, .val (.int ip4), .val (.int ip5), .val (.int (3 : Int32)), .val (.int n11), .val (.ref b1), .val (.ref b8), .val (.ref b15), .val (.ref b22), .val (.ref b26), .val (.ref b5001), .val (.ref b5032), .val (.ref b5022), .val (.int (0 : Int32))] [])
                    refine own_st (fun t k => XS.aload X5198.here hx rfl (hb hby at_322) rfl rfl (XS.iconst X5198.here hx rfl (hb hby at_324) k)) ?_
                    have f5200 := (P14.keep K5198 nin0)
                    refine own_st (own_laload X5198 hx hZ rfl f5200 (j := (1 : Int32)) (v := (.long jp1)) ⟨by decide, by decide⟩ rfl (g := (mkF m 325 #[.val (.long jp0), .second, .val (.long jp1), .second, .val (.long jp2), .second, .val (.long jp3), .second, .val (.int ip4), .val (.int ip5), .val (.int (3 : Int32)), .val (.int n11), .val (.ref b1), .val (.ref b8), .val (.ref b15), .val (.ref b22), .val (.ref b26), .val (.ref b5001), .val (.ref b5032), .val (.ref b5022), .val (.int (0 : Int32))] [(.int (1 : Int32)), (.ref b22)])) rfl rfl (hb hby at_325)) ?_
                    show own_Go _ _ _ _ T5198 (mkF m 326 #[.val (.long jp0), .second, .val (.long jp1), .second, .val (.long jp2), .second, .val (.long jp3), .second, .val (.int ip4), .val (.int ip5), .val (.int (3 : Int32)), .val (.int n11), .val (.ref b1), .val (.ref b8), .val (.ref b15), .val (.ref b22), .val (.ref b26), .val (.ref b5001), .val (.ref b5032), .val (.ref b5022), .val (.int (0 : Int32))] [(.long jp1)])
                    refine own_st (fun t k => XS.aload X5198.here hx rfl (hb hby at_326) rfl rfl (XS.iconst X5198.here hx rfl (hb hby at_328) k)) ?_
                    have f5201 := (P16.keep K5198 nin0)
                    refine own_st (own_laload X5198 hx hZ rfl f5201 (j := (1 : Int32)) (v := (.long d1)) ⟨by decide, by decide⟩ rfl (g := (mkF m 329 #[.val (.long jp0), .second, .val (.long jp1), .second, .val (.long jp2), .second, .val (.long jp3), .second, .val (.int ip4), .val (.int ip5), .val (.int (3 : Int32)), .val (.int n11), .val (.ref b1), .val (.ref b8), .val (.ref b15), .val (.ref b22), .val (.ref b26), .val (.ref b5001), .val (.ref b5032), .val (.ref b5022), .val (.int (0 : Int32))] [(.int (1 : Int32)), (.ref b26), (.long jp1)])) rfl rfl (hb hby at_329)) ?_
                    show own_Go _ _ _ _ T5198 (mkF m 330 #[.val (.long jp0), .second, .val (.long jp1), .second, .val (.long jp2), .second, .val (.long jp3), .second, .val (.int ip4), .val (.int ip5), .val (.int (3 : Int32)), .val (.int n11), .val (.ref b1), .val (.ref b8), .val (.ref b15), .val (.ref b22), .val (.ref b26), .val (.ref b5001), .val (.ref b5032), .val (.ref b5022), .val (.int (0 : Int32))] [(.long d1), (.long jp1)])
                    refine own_st (fun t k => XS.aload X5198.here hx rfl (hb hby at_330) rfl rfl (XS.iload X5198.here hx rfl (hb hby at_332) rfl k)) ?_
                    refine own_st (own_laload X5198 hx hZ rfl f5200 (j := (0 : Int32)) (v := (.long jp0)) ⟨by decide, by decide⟩ rfl (g := (mkF m 334 #[.val (.long jp0), .second, .val (.long jp1), .second, .val (.long jp2), .second, .val (.long jp3), .second, .val (.int ip4), .val (.int ip5), .val (.int (3 : Int32)), .val (.int n11), .val (.ref b1), .val (.ref b8), .val (.ref b15), .val (.ref b22), .val (.ref b26), .val (.ref b5001), .val (.ref b5032), .val (.ref b5022), .val (.int (0 : Int32))] [(.int (0 : Int32)), (.ref b22), (.long d1), (.long jp1)])) rfl rfl (hb hby at_334)) ?_
                    show own_Go _ _ _ _ T5198 (mkF m 335 #[.val (.long jp0), .second, .val (.long jp1), .second, .val (.long jp2), .second, .val (.long jp3), .second, .val (.int ip4), .val (.int ip5), .val (.int (3 : Int32)), .val (.int n11), .val (.ref b1), .val (.ref b8), .val (.ref b15), .val (.ref b22), .val (.ref b26), .val (.ref b5001), .val (.ref b5032), .val (.ref b5022), .val (.int (0 : Int32))] [(.long jp0), (.long d1), (.long jp1)])
                    refine own_st (fun t k => XS.aload X5198.here hx rfl (hb hby at_335) rfl rfl (XS.iload X5198.here hx rfl (hb hby at_337) rfl k)) ?_
                    refine own_st (own_laload X5198 hx hZ rfl f5201 (j := (0 : Int32)) (v := (.long d0)) ⟨by decide, by decide⟩ rfl (g := (mkF m 339 #[.val (.long jp0), .second, .val (.long jp1), .second, .val (.long jp2), .second, .val (.long jp3), .second, .val (.int ip4), .val (.int ip5), .val (.int (3 : Int32)), .val (.int n11), .val (.ref b1), .val (.ref b8), .val (.ref b15), .val (.ref b22), .val (.ref b26), .val (.ref b5001), .val (.ref b5032), .val (.ref b5022), .val (.int (0 : Int32))] [(.int (0 : Int32)), (.ref b26), (.long jp0), (.long d1), (.long jp1)])) rfl rfl (hb hby at_339)) ?_
                    show own_Go _ _ _ _ T5198 (mkF m 340 #[.val (.long jp0), .second, .val (.long jp1), .second, .val (.long jp2), .second, .val (.long jp3), .second, .val (.int ip4), .val (.int ip5), .val (.int (3 : Int32)), .val (.int n11), .val (.ref b1), .val (.ref b8), .val (.ref b15), .val (.ref b22), .val (.ref b26), .val (.ref b5001), .val (.ref b5032), .val (.ref b5022), .val (.int (0 : Int32))] [(.long d0), (.long jp0), (.long d1), (.long jp1)])
                    refine own_cS X5198 hx hZ hown (own_w hw 149 rfl) (own_w hw 150 rfl) (own_w hw 151 rfl) (own_w hw 152 rfl) [(.long jp1), (.long d1), (.long jp0), (.long d0)] [] (own_rm22 l Z a0 hw [] jp1 d1 jp0 d0 T5198.heap n0 Z5198 ) 0 (hb hby at_340) (by rw [hml]; rfl) (lenOf own_pd16 rfl) rfl rfl rfl (by show 2 * 0 + _ ≤ _; exact Nat.le_of_eq rfl) (by decide) (by decide) (by decide) (by decide) (by decide) fun v5202 T5202 L5202 X5202 hQ5202 => ?_
                    obtain ⟨N5202q, e5202, hL5202⟩ := hQ5202
                    have N5202 := Fr.app N5198 N5202q
                    rcases hL5202 with ⟨rfl, hq5202_0_0, -⟩ | ⟨rfl, hq5202_1_0, -⟩
                    · skip
                      exact absurd hq5202_0_0 (own_o6 hq5144_0_0 hq5180_2_0 hq5180_2_1 hd01 hd02 hd12)
                    · skip
                      refine own_st (fun t k => XS.ifYes X5202.here hx rfl (pc0 := 343) (pc' := 349) rfl (hb hby at_343) rfl ((if0 _ _).trans (teq (by decide : (0 : Int32) = (0 : Int32))).1) (by decide) (by decide) (XS.iload X5202.here hx rfl (hb hby at_349) rfl k)) ?_
                      show own_Go _ _ _ _ T5202 (mkF m 351 #[.val (.long jp0), .second, .val (.long jp1), .second, .val (.long jp2), .second, .val (.long jp3), .second, .val (.int ip4), .val (.int ip5), .val (.int (3 : Int32)), .val (.int n11), .val (.ref b1), .val (.ref b8), .val (.ref b15), .val (.ref b22), .val (.ref b26), .val (.ref b5001), .val (.ref b5032), .val (.ref b5022), .val (.int (0 : Int32))] [(.int (3 : Int32))])
                      refine own_st (fun t k => XS.iconst X5202.here hx rfl (hb hby at_351) (XS.icmpNo X5202.here hx rfl (hb hby at_352) rfl (tlt (by decide : (2 : Int32) < (3 : Int32))).2.2.2 (XS.aload X5202.here hx rfl (hb hby at_355) rfl rfl k))) ?_
                      show own_Go _ _ _ _ T5202 (mkF m 357 #[.val (.long jp0), .second, .val (.long jp1), .second, .val (.long jp2), .second, .val (.long jp3), .second, .val (.int ip4), .val (.int ip5), .val (.int (3 : Int32)), .val (.int n11), .val (.ref b1), .val (.ref b8), .val (.ref b15), .val (.ref b22), .val (.ref b26), .val (.ref b5001), .val (.ref b5032), .val (.ref b5022), .val (.int (0 : Int32))] [(.ref b22)])
                      refine own_st (fun t k => XS.iconst X5202.here hx rfl (hb hby at_357) k) ?_
                      refine own_st (own_laload X5202 hx hZ e5202 f5200 (j := (2 : Int32)) (v := (.long jp2)) ⟨by decide, by decide⟩ rfl (g := (mkF m 358 #[.val (.long jp0), .second, .val (.long jp1), .second, .val (.long jp2), .second, .val (.long jp3), .second, .val (.int ip4), .val (.int ip5), .val (.int (3 : Int32)), .val (.int n11), .val (.ref b1), .val (.ref b8), .val (.ref b15), .val (.ref b22), .val (.ref b26), .val (.ref b5001), .val (.ref b5032), .val (.ref b5022), .val (.int (0 : Int32))] [(.int (2 : Int32)), (.ref b22)])) rfl rfl (hb hby at_358)) ?_
                      refine own_st (fun t k => XS.aload X5202.here hx rfl (hb hby at_359) rfl rfl k) ?_
                      show own_Go _ _ _ _ T5202 (mkF m 361 #[.val (.long jp0), .second, .val (.long jp1), .second, .val (.long jp2), .second, .val (.long jp3), .second, .val (.int ip4), .val (.int ip5), .val (.int (3 : Int32)), .val (.int n11), .val (.ref b1), .val (.ref b8), .val (.ref b15), .val (.ref b22), .val (.ref b26), .val (.ref b5001), .val (.ref b5032), .val (.ref b5022), .val (.int (0 : Int32))] [(.ref b26), (.long jp2)])
                      refine own_st (fun t k => XS.iconst X5202.here hx rfl (hb hby at_361) k) ?_
                      refine own_st (own_laload X5202 hx hZ e5202 f5201 (j := (2 : Int32)) (v := (.long d2)) ⟨by decide, by decide⟩ rfl (g := (mkF m 362 #[.val (.long jp0), .second, .val (.long jp1), .second, .val (.long jp2), .second, .val (.long jp3), .second, .val (.int ip4), .val (.int ip5), .val (.int (3 : Int32)), .val (.int n11), .val (.ref b1), .val (.ref b8), .val (.ref b15), .val (.ref b22), .val (.ref b26), .val (.ref b5001), .val (.ref b5032), .val (.ref b5022), .val (.int (0 : Int32))] [(.int (2 : Int32)), (.ref b26), (.long jp2)])) rfl rfl (hb hby at_362)) ?_
                      refine own_st (fun t k => XS.aload X5202.here hx rfl (hb hby at_363) rfl rfl k) ?_
                      show own_Go _ _ _ _ T5202 (mkF m 365 #[.val (.long jp0), .second, .val (.long jp1), .second, .val (.long jp2), .second, .val (.long jp3), .second, .val (.int ip4), .val (.int ip5), .val (.int (3 : Int32)), .val (.int n11), .val (.ref b1), .val (.ref b8), .val (.ref b15), .val (.ref b22), .val (.ref b26), .val (.ref b5001), .val (.ref b5032), .val (.ref b5022), .val (.int (0 : Int32))] [(.ref b22), (.long d2), (.long jp2)])
                      refine own_st (fun t k => XS.iload X5202.here hx rfl (hb hby at_365) rfl k) ?_
                      refine own_st (own_laload X5202 hx hZ e5202 f5200 (j := (0 : Int32)) (v := (.long jp0)) ⟨by decide, by decide⟩ rfl (g := (mkF m 367 #[.val (.long jp0), .second, .val (.long jp1), .second, .val (.long jp2), .second, .val (.long jp3), .second, .val (.int ip4), .val (.int ip5), .val (.int (3 : Int32)), .val (.int n11), .val (.ref b1), .val (.ref b8), .val (.ref b15), .val (.ref b22), .val (.ref b26), .val (.ref b5001), .val (.ref b5032), .val (.ref b5022), .val (.int (0 : Int32))] [(.int (0 : Int32)), (.ref b22), (.long d2), (.long jp2)])) rfl rfl (hb hby at_367)) ?_
                      refine own_st (fun t k => XS.aload X5202.here hx rfl (hb hby at_368) rfl rfl k) ?_
                      show own_Go _ _ _ _ T5202 (mkF m 370 #[.val (.long jp0), .second, .val (.long jp1), .second, .val (.long jp2), .second, .val (.long jp3), .second, .val (.int ip4), .val (.int ip5), .val (.int (3 : Int32)), .val (.int n11), .val (.ref b1), .val (.ref b8), .val (.ref b15), .val (.ref b22), .val (.ref b26), .val (.ref b5001), .val (.ref b5032), .val (.ref b5022), .val (.int (0 : Int32))] [(.ref b26), (.long jp0), (.long d2), (.long jp2)])
                      refine own_st (fun t k => XS.iload X5202.here hx rfl (hb hby at_370) rfl k) ?_
                      refine own_st (own_laload X5202 hx hZ e5202 f5201 (j := (0 : Int32)) (v := (.long d0)) ⟨by decide, by decide⟩ rfl (g := (mkF m 372 #[.val (.long jp0), .second, .val (.long jp1), .second, .val (.long jp2), .second, .val (.long jp3), .second, .val (.int ip4), .val (.int ip5), .val (.int (3 : Int32)), .val (.int n11), .val (.ref b1), .val (.ref b8), .val (.ref b15), .val (.ref b22), .val (.ref b26), .val (.ref b5001), .val (.ref b5032), .val (.ref b5022), .val (.int (0 : Int32))] [(.int (0 : Int32)), (.ref b26), (.long jp0), (.long d2), (.long jp2)])) rfl rfl (hb hby at_372)) ?_
                      refine own_cS X5202 hx hZ hown (own_w hw 149 rfl) (own_w hw 150 rfl) (own_w hw 151 rfl) (own_w hw 152 rfl) [(.long jp2), (.long d2), (.long jp0), (.long d0)] [] (own_rm22 l Z a0 hw [] jp2 d2 jp0 d0 T5198.heap n0 Z5198 ) 0 (hb hby at_373) (by rw [hml]; rfl) (lenOf own_pd16 rfl) e5202 rfl rfl (by show 2 * 0 + _ ≤ _; exact Nat.le_of_eq rfl) (by decide) (by decide) (by decide) (by decide) (by decide) fun v5203 T5203 L5203 X5203 hQ5203 => ?_
                      obtain ⟨N5203q, e5203, hL5203⟩ := hQ5203
                      have N5203 := Fr.app N5202 N5203q
                      rcases hL5203 with ⟨rfl, hq5203_0_0, -⟩ | ⟨rfl, hq5203_1_0, -⟩
                      · skip
                        show own_Go _ _ _ _ T5203 (mkF m 376 #[.val (.long jp0), .second, .val (.long jp1), .second, .val (.long jp2), .second, .val (.long jp3), .second, .val (.int ip4), .val (.int ip5), .val (.int (3 : Int32)), .val (.int n11), .val (.ref b1), .val (.ref b8), .val (.ref b15), .val (.ref b22), .val (.ref b26), .val (.ref b5001), .val (.ref b5032), .val (.ref b5022), .val (.int (0 : Int32))] [(.int (1 : Int32))])
                        refine own_st (fun t k => XS.ifNo X5203.here hx rfl (hb hby at_376) rfl ((if0 _ _).trans (feq (by decide : ¬ ((1 : Int32) = (0 : Int32)))).1) (XS.iconst X5203.here hx rfl (hb hby at_379) (XS.istore X5203.here hx rfl (hb hby at_380) rfl (l' := #[.val (.long jp0), .second, .val (.long jp1), .second, .val (.long jp2), .second, .val (.long jp3), .second, .val (.int ip4), .val (.int ip5), .val (.int (3 : Int32)), .val (.int n11), .val (.ref b1), .val (.ref b8), .val (.ref b15), .val (.ref b22), .val (.ref b26), .val (.ref b5001), .val (.ref b5032), .val (.ref b5022), .val (.int (2 : Int32))]) rfl k))) ?_
                        show own_Go _ _ _ _ T5203 (mkF m 382 #[.val (.long jp0), .second, .val (.long jp1), .second, .val (.long jp2), .second, .val (.long jp3), .second, .val (.int ip4), .val (.int ip5), .val (.int (3 : Int32)), .val (.int n11), .val (.ref b1), .val (.ref b8), .val (.ref b15), .val (.ref b22), .val (.ref b26), .val (.ref b5001), .val (.ref b5032), .val (.ref b5022), .val (.int (2 : Int32))] [])
                        refine own_st (fun t k => XS.aload X5203.here hx rfl (hb hby at_382) rfl rfl (XS.aload X5203.here hx rfl (hb hby at_384) rfl rfl (XS.iload X5203.here hx rfl (hb hby at_386) rfl k))) ?_
                        show own_Go _ _ _ _ T5203 (mkF m 388 #[.val (.long jp0), .second, .val (.long jp1), .second, .val (.long jp2), .second, .val (.long jp3), .second, .val (.int ip4), .val (.int ip5), .val (.int (3 : Int32)), .val (.int n11), .val (.ref b1), .val (.ref b8), .val (.ref b15), .val (.ref b22), .val (.ref b26), .val (.ref b5001), .val (.ref b5032), .val (.ref b5022), .val (.int (2 : Int32))] [(.int (2 : Int32)), (.ref b5001), (.ref b5022)])
                        have f5204 := ((f5145.keep Kq5180 (ninS ne5123 (ninS ne5122 (ninS ne5108 nin0)))).keep Kq5198 nin0)
                        refine own_st (own_aaload X5203 hx hZ e5203 f5204 rfl (j := (2 : Int32)) (v := (.ref b5022)) ⟨by decide, by decide⟩ rfl (g := (mkF m 388 #[.val (.long jp0), .second, .val (.long jp1), .second, .val (.long jp2), .second, .val (.long jp3), .second, .val (.int ip4), .val (.int ip5), .val (.int (3 : Int32)), .val (.int n11), .val (.ref b1), .val (.ref b8), .val (.ref b15), .val (.ref b22), .val (.ref b26), .val (.ref b5001), .val (.ref b5032), .val (.ref b5022), .val (.int (2 : Int32))] [(.int (2 : Int32)), (.ref b5001), (.ref b5022)])) rfl rfl (hb hby at_388)) ?_
                        refine own_st (fun t k => Jvm.RoadKit.acmp (g := (mkF m 389 #[.val (.long jp0), .second, .val (.long jp1), .second, .val (.long jp2), .second, .val (.long jp3), .second, .val (.int ip4), .val (.int ip5), .val (.int (3 : Int32)), .val (.int n11), .val (.ref b1), .val (.ref b8), .val (.ref b15), .val (.ref b22), .val (.ref b26), .val (.ref b5001), .val (.ref b5032), .val (.ref b5022), .val (.int (2 : Int32))] [(.ref b5022), (.ref b5022)])) X5203 hx rfl rfl rfl (pc0 := 389) (pc' := 392) (same := true) rfl (hb hby at_389) rfl (decide_eq_true (congrArg Value.ref (rfl : b5022 = b5022))) (by decide) (by decide) (XS.iconst X5203.here hx rfl (hb hby at_392) k)) ?_
                        show own_Go _ _ _ _ T5203 (mkF m 393 #[.val (.long jp0), .second, .val (.long jp1), .second, .val (.long jp2), .second, .val (.long jp3), .second, .val (.int ip4), .val (.int ip5), .val (.int (3 : Int32)), .val (.int n11), .val (.ref b1), .val (.ref b8), .val (.ref b15), .val (.ref b22), .val (.ref b26), .val (.ref b5001), .val (.ref b5032), .val (.ref b5022), .val (.int (2 : Int32))] [(.int (1 : Int32))])
                        refine own_st (fun t k => XS.goto X5203.here hx rfl (pc0 := 393) (pc' := 397) rfl (hb hby at_393) (by decide) (by decide) k) ?_
                        exact own_retZ X5203 hx hlk (t := .boolean) hret (by simp) (hb hby at_397) (by decide) (by decide) e5203 ⟨rfl, N5203⟩
                      · skip
                        exact absurd (own_o7 hq5144_0_0 hq5180_2_0 hq5180_2_1 hq5202_1_0 hd01 hd02 hd12) hq5203_1_0
              · skip
                refine own_st (fun t k => XS.iload X5144.here hx rfl (hb hby at_275) rfl k) ?_
                show own_Go _ _ _ _ T5144 (mkF m 277 #[.val (.long jp0), .second, .val (.long jp1), .second, .val (.long jp2), .second, .val (.long jp3), .second, .val (.int ip4), .val (.int ip5), .val (.int (3 : Int32)), .val (.int n11), .val (.ref b1), .val (.ref b8), .val (.ref b15), .val (.ref b22), .val (.ref b26), .val (.ref b5001), .val (.ref b5032), .unset, .unset] [(.int (3 : Int32))])
                refine own_st (fun t k => XS.iconst X5144.here hx rfl (hb hby at_277) (XS.icmpNo X5144.here hx rfl (hb hby at_278) rfl (tlt (by decide : (2 : Int32) < (3 : Int32))).2.2.2 (XS.aload X5144.here hx rfl (hb hby at_281) rfl rfl k))) ?_
                show own_Go _ _ _ _ T5144 (mkF m 283 #[.val (.long jp0), .second, .val (.long jp1), .second, .val (.long jp2), .second, .val (.long jp3), .second, .val (.int ip4), .val (.int ip5), .val (.int (3 : Int32)), .val (.int n11), .val (.ref b1), .val (.ref b8), .val (.ref b15), .val (.ref b22), .val (.ref b26), .val (.ref b5001), .val (.ref b5032), .unset, .unset] [(.ref b5032)])
                refine own_st (fun t k => XS.aload X5144.here hx rfl (hb hby at_283) rfl rfl (XS.iconst X5144.here hx rfl (hb hby at_285) k)) ?_
                have f5205 := (f5124.keep Kq5144 (ninS ne5123 (ninS ne5122 (ninS ne5108 nin0))))
                refine own_st (own_aaload X5144 hx hZ rfl f5205 rfl (j := (2 : Int32)) (v := (.ref b5022)) ⟨by decide, by decide⟩ rfl (g := (mkF m 286 #[.val (.long jp0), .second, .val (.long jp1), .second, .val (.long jp2), .second, .val (.long jp3), .second, .val (.int ip4), .val (.int ip5), .val (.int (3 : Int32)), .val (.int n11), .val (.ref b1), .val (.ref b8), .val (.ref b15), .val (.ref b22), .val (.ref b26), .val (.ref b5001), .val (.ref b5032), .unset, .unset] [(.int (2 : Int32)), (.ref b5001), (.ref b5032)])) rfl rfl (hb hby at_286)) ?_
                show own_Go _ _ _ _ T5144 (mkF m 287 #[.val (.long jp0), .second, .val (.long jp1), .second, .val (.long jp2), .second, .val (.long jp3), .second, .val (.int ip4), .val (.int ip5), .val (.int (3 : Int32)), .val (.int n11), .val (.ref b1), .val (.ref b8), .val (.ref b15), .val (.ref b22), .val (.ref b26), .val (.ref b5001), .val (.ref b5032), .unset, .unset] [(.ref b5022), (.ref b5032)])
                have ne5206 : b5022 ≠ b5032 := Nat.ne_of_lt (Nat.lt_of_lt_of_le (f5031.wr W5030).lt (Nat.le_of_eq g5032.symm))
                have ne5207 : b5022 ≠ b2x4_14c5034 := Nat.ne_of_lt (Nat.lt_of_lt_of_le ((f5031.wr W5030).ext E5032).lt sq_b2x4_14c5034)
                have ne5208 : b5022 ≠ b2x5_18c4c5034 := Nat.ne_of_lt (Nat.lt_of_lt_of_le ((f5031.wr W5030).ext E5032).lt sq_b2x5_18c4c5034)
                have f5209 := (((((Fc5027_0_1.other W5030 (Or.inl (Ne.symm ne5028))).ext E5032).keep Kq5034 (ninS ne5206 nin0)).keep Kq5121 (ninS ne5208 (ninS ne5207 (ninS ne5206 nin0)))).keep Kq5144 (ninS ne5208 (ninS ne5207 (ninS ne5206 nin0))))
                have f5210 := (((((f5031.wr W5030).ext E5032).keep Kq5034).keep Kq5121).keep Kq5144)
                have f5211 := (((((Fc5027_0_0.other W5030 (Or.inl (Ne.symm ne5028))).ext E5032).keep Kq5034 (ninS ne5206 nin0)).keep Kq5121 (ninS ne5208 (ninS ne5207 (ninS ne5206 nin0)))).keep Kq5144 (ninS ne5208 (ninS ne5207 (ninS ne5206 nin0))))
                have f5212 := (f5134.keep Kq5144 (ninS ne5133 (ninS ne5132 (ninS ne5112 nin0))))
                have f5213 := (f5135.keep Kq5144 (ninS ne5133 (ninS ne5132 (ninS ne5112 nin0))))
                have f5214 := (f5136.keep Kq5144)
                have f5215 := (f5129.keep Kq5144 (ninS ne5128 (ninS ne5127 (ninS ne5126 nin0))))
                have f5216 := (f5131.keep Kq5144 (ninS ne5128 (ninS ne5127 (ninS ne5126 nin0))))
                have f5217 := (f5130.keep Kq5144)
                have f5218 := (f5137.keep Kq5144)
                have f5219 := (((((Fc5027_0_3.other W5030 (Or.inl (Ne.symm ne5028))).ext E5032).keep Kq5034 (ninS ne5206 nin0)).keep Kq5121 (ninS ne5208 (ninS ne5207 (ninS ne5206 nin0)))).keep Kq5144 (ninS ne5208 (ninS ne5207 (ninS ne5206 nin0))))
                have ne5220 : b5032 ≠ b6x14_69c4c13c16c2c5121 := Nat.ne_of_lt (Nat.lt_of_lt_of_le f5120.lt sq_b6x14_69c4c13c16c2c5121)
                have ne5221 : b2x4_14c5034 ≠ b6x14_69c4c13c16c2c5121 := Nat.ne_of_lt (Nat.lt_of_lt_of_le Fc5034_0_2.lt sq_b6x14_69c4c13c16c2c5121)
                have ne5222 : b2x5_18c4c5034 ≠ b6x14_69c4c13c16c2c5121 := Nat.ne_of_lt (Nat.lt_of_lt_of_le Fc5034_0_7.lt sq_b6x14_69c4c13c16c2c5121)
                have f5223 := (Fc5121_0_8.keep Kq5144 (ninS (Ne.symm ne5222) (ninS (Ne.symm ne5221) (ninS (Ne.symm ne5220) nin0))))
                have ne5224 : b5032 ≠ b3x14_69c4c13c16c2c5121 := Nat.ne_of_lt (Nat.lt_of_lt_of_le f5120.lt sq_b3x14_69c4c13c16c2c5121)
                have ne5225 : b2x4_14c5034 ≠ b3x14_69c4c13c16c2c5121 := Nat.ne_of_lt (Nat.lt_of_lt_of_le Fc5034_0_2.lt sq_b3x14_69c4c13c16c2c5121)
                have ne5226 : b2x5_18c4c5034 ≠ b3x14_69c4c13c16c2c5121 := Nat.ne_of_lt (Nat.lt_of_lt_of_le Fc5034_0_7.lt sq_b3x14_69c4c13c16c2c5121)
                have f5227 := (Fc5121_0_9.keep Kq5144 (ninS (Ne.symm ne5226) (ninS (Ne.symm ne5225) (ninS (Ne.symm ne5224) nin0))))
                have ne5228 : w_NONE ≠ b5032 := Nat.ne_of_lt (Nat.lt_of_lt_of_le P1.lt sz_b5032)
                have ne5229 : w_NONE ≠ b2x4_14c5034 := Nat.ne_of_lt (Nat.lt_of_lt_of_le P1.lt sz_b2x4_14c5034)
                have ne5230 : w_NONE ≠ b2x5_18c4c5034 := Nat.ne_of_lt (Nat.lt_of_lt_of_le P1.lt sz_b2x5_18c4c5034)
                have f5231 := (f5139.keep Kq5144 (ninS ne5230 (ninS ne5229 (ninS ne5228 nin0))))
                have ne5232 : w_NONE_names ≠ b5032 := Nat.ne_of_lt (Nat.lt_of_lt_of_le P7.lt sz_b5032)
                have ne5233 : w_NONE_names ≠ b2x4_14c5034 := Nat.ne_of_lt (Nat.lt_of_lt_of_le P7.lt sz_b2x4_14c5034)
                have ne5234 : w_NONE_names ≠ b2x5_18c4c5034 := Nat.ne_of_lt (Nat.lt_of_lt_of_le P7.lt sz_b2x5_18c4c5034)
                have f5235 := (f5140.keep Kq5144 (ninS ne5234 (ninS ne5233 (ninS ne5232 nin0))))
                have f5236 := (f5141.keep Kq5144)
                have f5237 := (Fc5121_0_7.keep Kq5144)
                have f5238 := (f5142.keep Kq5144)
                have f5239 := (f5143.keep Kq5144)
                refine own_cV (a := b5032) X5144 hx hZ hown (own_w hw 64 rfl) (own_w hw 65 rfl) (own_w hw 67 rfl) (own_w hw 66 rfl) (own_w hw 30 rfl) (own_w hw 68 rfl) [(.ref b5022)] [] f5239 (own_rm8_119 l Z a0 hw [] b5032 b5022 b2x4_14c5034 b2x5_18c4c5034 k2x5_18c4c5034c2c5070c2c5144 b5012 b5002 jp2 d2 jp0 d0 jp1 d1 w_NONE b6x14_69c4c13c16c2c5121 b3x14_69c4c13c16c2c5121 k3x14_69c4c13c16c2c5121 w_NONE_names k_w_NONE_names T5144.heap n0 Z5144 Fc5144_1_5 Fc5144_1_1 Fc5144_1_2 Fc5144_1_0 OFc5144_1_0 f5209 f5210 f5211 f5212 f5213 f5214 f5215 f5216 f5217 f5218 f5219 Fc5144_1_3 f5223 f5227 OFc5121_0_9 f5231 f5235 f5236 f5237 Fc5144_1_4 f5238 g_b2x4_14c5034 g_b2x5_18c4c5034 Fc5144_1_6 f5239 g_b5032) 0 (hb hby at_287) (by rw [hml]; rfl) (lenOf own_pd12 rfl) rfl rfl rfl (by show 2 * 0 + _ ≤ _; exact Nat.le_of_eq rfl) (by decide) (by decide) (by decide) (by decide) (by decide) fun v5240 T5240 L5240 X5240 hQ5240 => ?_
                obtain ⟨N5240q, Kq5240, hL5240⟩ := hQ5240
                have N5240 := Fr.app N5144 N5240q
                have K5240 : Keep h0 T5240.heap [] := K5144.trans Kq5240 (allS (Or.inr sz_b2x5_18c4c5034) (allS (Or.inr sz_b2x4_14c5034) (allS (Or.inr sz_b5032) all0)))
                have Z5240 := Nat.le_trans Z5144 Kq5240.1
                rcases hL5240 with ⟨k2x5_18c4c5034c2c5070c2c5144c2c5240, rfl, hq5240_0_0, Fc5240_0_0, OFc5240_0_0, Fc5240_0_1, Fc5240_0_2, Fc5240_0_3, Fc5240_0_4, Fc5240_0_5, Fc5240_0_6, -⟩ | ⟨k2x5_18c4c5034c2c5070c2c5144c2c5240, rfl, hq5240_1_0, hq5240_1_1, Fc5240_1_0, OFc5240_1_0, Fc5240_1_1, Fc5240_1_2, Fc5240_1_3, Fc5240_1_4, Fc5240_1_5, Fc5240_1_6, -⟩ | ⟨k2x5_18c4c5034c2c5070c2c5144c2c5240, rfl, hq5240_2_0, hq5240_2_1, Fc5240_2_0, OFc5240_2_0, Fc5240_2_1, Fc5240_2_2, Fc5240_2_3, Fc5240_2_4, Fc5240_2_5, Fc5240_2_6, -⟩
                · skip
                  refine own_st (fun t k => XS.aload X5240.here hx rfl (hb hby at_290) rfl rfl k) ?_
                  have f5241 := (f5218.keep Kq5240)
                  have f5243 := (f5239.keep Kq5240)
                  refine own_cV (a := b5032) X5240 hx hZ hown (own_w hw 57 rfl) (own_w hw 58 rfl) (own_w hw 60 rfl) (own_w hw 59 rfl) (own_w hw 30 rfl) (own_w hw 61 rfl) [] [] f5243 (own_rm7_128 l Z a0 hw [] b5032 b2x4_14c5034 b2x5_18c4c5034 k2x5_18c4c5034c2c5070c2c5144c2c5240 b5012 b5002 b5022 T5240.heap n0 Z5240 Fc5240_0_6 Fc5240_0_5 Fc5240_0_2 Fc5240_0_0 OFc5240_0_0 f5241) 0 (hb hby at_292) (by rw [hml]; rfl) (lenOf own_pd3 rfl) rfl rfl rfl (by show 2 * 0 + _ ≤ _; exact Nat.le_of_eq rfl) (by decide) (by decide) (by decide) (by decide) (by decide) fun v5242 T5242 L5242 X5242 hQ5242 => ?_
                  obtain ⟨N5242q, Kq5242, hL5242⟩ := hQ5242
                  have N5242 := Fr.app N5240 N5242q
                  have K5242 : Keep h0 T5242.heap [] := K5240.trans Kq5242 all0
                  have Z5242 := Nat.le_trans Z5240 Kq5242.1
                  rcases hL5242 with ⟨rfl, -⟩
                  · skip
                    show own_Go _ _ _ _ T5242 (mkF m 295 #[.val (.long jp0), .second, .val (.long jp1), .second, .val (.long jp2), .second, .val (.long jp3), .second, .val (.int ip4), .val (.int ip5), .val (.int (3 : Int32)), .val (.int n11), .val (.ref b1), .val (.ref b8), .val (.ref b15), .val (.ref b22), .val (.ref b26), .val (.ref b5001), .val (.ref b5032), .unset, .unset] [(.ref b5012)])
                    refine own_st (fun t k => XS.astore X5242.here hx rfl (hb hby at_295) rfl rfl (l' := #[.val (.long jp0), .second, .val (.long jp1), .second, .val (.long jp2), .second, .val (.long jp3), .second, .val (.int ip4), .val (.int ip5), .val (.int (3 : Int32)), .val (.int n11), .val (.ref b1), .val (.ref b8), .val (.ref b15), .val (.ref b22), .val (.ref b26), .val (.ref b5001), .val (.ref b5032), .val (.ref b5012), .unset]) rfl (XS.iload X5242.here hx rfl (hb hby at_297) rfl (XS.ifYes X5242.here hx rfl (pc0 := 299) (pc' := 313) rfl (hb hby at_299) rfl ((if0 _ _).trans (feq (by decide : ¬ ((3 : Int32) = (0 : Int32)))).2) (by decide) (by decide) k))) ?_
                    show own_Go _ _ _ _ T5242 (mkF m 313 #[.val (.long jp0), .second, .val (.long jp1), .second, .val (.long jp2), .second, .val (.long jp3), .second, .val (.int ip4), .val (.int ip5), .val (.int (3 : Int32)), .val (.int n11), .val (.ref b1), .val (.ref b8), .val (.ref b15), .val (.ref b22), .val (.ref b26), .val (.ref b5001), .val (.ref b5032), .val (.ref b5012), .unset] [])
                    refine own_st (fun t k => XS.iconst X5242.here hx rfl (hb hby at_313) (XS.istore X5242.here hx rfl (hb hby at_314) rfl (l' := #[.val (.long jp0), .second, .val (.long jp1), .second, .val (.long jp2), .second, .val (.long jp3), .second, .val (.int ip4), .val (.int ip5), .val (.int (3 : Int32)), .val (.int n11), .val (.ref b1), .val (.ref b8), .val (.ref b15), .val (.ref b22), .val (.ref b26), .val (.ref b5001), .val (.ref b5032), .val (.ref b5012), .val (.int (0 : Int32))]) rfl (XS.iload X5242.here hx rfl (hb hby at_316) rfl k))) ?_
                    show own_Go _ _ _ _ T5242 (mkF m 318 #[.val (.long jp0), .second, .val (.long jp1), .second, .val (.long jp2), .second, .val (.long jp3), .second, .val (.int ip4), .val (.int ip5), .val (.int (3 : Int32)), .val (.int n11), .val (.ref b1), .val (.ref b8), .val (.ref b15), .val (.ref b22), .val (.ref b26), .val (.ref b5001), .val (.ref b5032), .val (.ref b5012), .val (.int (0 : Int32))] [(.int (3 : Int32))])
                    refine own_st (fun t k => XS.iconst X5242.here hx rfl (hb hby at_318) (XS.icmpNo X5242.here hx rfl (hb hby at_319) rfl (tlt (by decide : (1 : Int32) < (3 : Int32))).2.2.2 (XS.aload X5242.here hx rfl (hb hby at_322) rfl rfl k))) ?_
                    show own_Go _ _ _ _ T5242 (mkF m 324 #[.val (.long jp0), .second, .val (.long jp1), .second, .val (.long jp2), .second, .val (.long jp3), .second, .val (.int ip4), .val (.int ip5), .val (.int (3 : Int32)), .val (.int n11), .val (.ref b1), .val (.ref b8), .val (.ref b15), .val (.ref b22), .val (.ref b26), .val (.ref b5001), .val (.ref b5032), .val (.ref b5012), .val (.int (0 : Int32))] [(.ref b22)])
                    refine own_st (fun t k => XS.iconst X5242.here hx rfl (hb hby at_324) k) ?_
                    have f5244 := (P14.keep K5242 nin0)
                    refine own_st (own_laload X5242 hx hZ rfl f5244 (j := (1 : Int32)) (v := (.long jp1)) ⟨by decide, by decide⟩ rfl (g := (mkF m 325 #[.val (.long jp0), .second, .val (.long jp1), .second, .val (.long jp2), .second, .val (.long jp3), .second, .val (.int ip4), .val (.int ip5), .val (.int (3 : Int32)), .val (.int n11), .val (.ref b1), .val (.ref b8), .val (.ref b15), .val (.ref b22), .val (.ref b26), .val (.ref b5001), .val (.ref b5032), .val (.ref b5012), .val (.int (0 : Int32))] [(.int (1 : Int32)), (.ref b22)])) rfl rfl (hb hby at_325)) ?_
                    refine own_st (fun t k => XS.aload X5242.here hx rfl (hb hby at_326) rfl rfl k) ?_
                    show own_Go _ _ _ _ T5242 (mkF m 328 #[.val (.long jp0), .second, .val (.long jp1), .second, .val (.long jp2), .second, .val (.long jp3), .second, .val (.int ip4), .val (.int ip5), .val (.int (3 : Int32)), .val (.int n11), .val (.ref b1), .val (.ref b8), .val (.ref b15), .val (.ref b22), .val (.ref b26), .val (.ref b5001), .val (.ref b5032), .val (.ref b5012), .val (.int (0 : Int32))] [(.ref b26), (.long jp1)])
                    refine own_st (fun t k => XS.iconst X5242.here hx rfl (hb hby at_328) k) ?_
                    have f5245 := (P16.keep K5242 nin0)
                    refine own_st (own_laload X5242 hx hZ rfl f5245 (j := (1 : Int32)) (v := (.long d1)) ⟨by decide, by decide⟩ rfl (g := (mkF m 329 #[.val (.long jp0), .second, .val (.long jp1), .second, .val (.long jp2), .second, .val (.long jp3), .second, .val (.int ip4), .val (.int ip5), .val (.int (3 : Int32)), .val (.int n11), .val (.ref b1), .val (.ref b8), .val (.ref b15), .val (.ref b22), .val (.ref b26), .val (.ref b5001), .val (.ref b5032), .val (.ref b5012), .val (.int (0 : Int32))] [(.int (1 : Int32)), (.ref b26), (.long jp1)])) rfl rfl (hb hby at_329)) ?_
                    refine own_st (fun t k => XS.aload X5242.here hx rfl (hb hby at_330) rfl rfl k) ?_
                    show own_Go _ _ _ _ T5242 (mkF m 332 #[.val (.long jp0), .second, .val (.long jp1), .second, .val (.long jp2), .second, .val (.long jp3), .second, .val (.int ip4), .val (.int ip5), .val (.int (3 : Int32)), .val (.int n11), .val (.ref b1), .val (.ref b8), .val (.ref b15), .val (.ref b22), .val (.ref b26), .val (.ref b5001), .val (.ref b5032), .val (.ref b5012), .val (.int (0 : Int32))] [(.ref b22), (.long d1), (.long jp1)])
                    refine own_st (fun t k => XS.iload X5242.here hx rfl (hb hby at_332) rfl k) ?_
                    refine own_st (own_laload X5242 hx hZ rfl f5244 (j := (0 : Int32)) (v := (.long jp0)) ⟨by decide, by decide⟩ rfl (g := (mkF m 334 #[.val (.long jp0), .second, .val (.long jp1), .second, .val (.long jp2), .second, .val (.long jp3), .second, .val (.int ip4), .val (.int ip5), .val (.int (3 : Int32)), .val (.int n11), .val (.ref b1), .val (.ref b8), .val (.ref b15), .val (.ref b22), .val (.ref b26), .val (.ref b5001), .val (.ref b5032), .val (.ref b5012), .val (.int (0 : Int32))] [(.int (0 : Int32)), (.ref b22), (.long d1), (.long jp1)])) rfl rfl (hb hby at_334)) ?_
                    refine own_st (fun t k => XS.aload X5242.here hx rfl (hb hby at_335) rfl rfl k) ?_
                    show own_Go _ _ _ _ T5242 (mkF m 337 #[.val (.long jp0), .second, .val (.long jp1), .second, .val (.long jp2), .second, .val (.long jp3), .second, .val (.int ip4), .val (.int ip5), .val (.int (3 : Int32)), .val (.int n11), .val (.ref b1), .val (.ref b8), .val (.ref b15), .val (.ref b22), .val (.ref b26), .val (.ref b5001), .val (.ref b5032), .val (.ref b5012), .val (.int (0 : Int32))] [(.ref b26), (.long jp0), (.long d1), (.long jp1)])
                    refine own_st (fun t k => XS.iload X5242.here hx rfl (hb hby at_337) rfl k) ?_
                    refine own_st (own_laload X5242 hx hZ rfl f5245 (j := (0 : Int32)) (v := (.long d0)) ⟨by decide, by decide⟩ rfl (g := (mkF m 339 #[.val (.long jp0), .second, .val (.long jp1), .second, .val (.long jp2), .second, .val (.long jp3), .second, .val (.int ip4), .val (.int ip5), .val (.int (3 : Int32)), .val (.int n11), .val (.ref b1), .val (.ref b8), .val (.ref b15), .val (.ref b22), .val (.ref b26), .val (.ref b5001), .val (.ref b5032), .val (.ref b5012), .val (.int (0 : Int32))] [(.int (0 : Int32)), (.ref b26), (.long jp0), (.long d1), (.long jp1)])) rfl rfl (hb hby at_339)) ?_
                    refine own_cS X5242 hx hZ hown (own_w hw 149 rfl) (own_w hw 150 rfl) (own_w hw 151 rfl) (own_w hw 152 rfl) [(.long jp1), (.long d1), (.long jp0), (.long d0)] [] (own_rm22 l Z a0 hw [] jp1 d1 jp0 d0 T5242.heap n0 Z5242 ) 0 (hb hby at_340) (by rw [hml]; rfl) (lenOf own_pd16 rfl) rfl rfl rfl (by show 2 * 0 + _ ≤ _; exact Nat.le_of_eq rfl) (by decide) (by decide) (by decide) (by decide) (by decide) fun v5246 T5246 L5246 X5246 hQ5246 => ?_
                    obtain ⟨N5246q, e5246, hL5246⟩ := hQ5246
                    have N5246 := Fr.app N5242 N5246q
                    rcases hL5246 with ⟨rfl, hq5246_0_0, -⟩ | ⟨rfl, hq5246_1_0, -⟩
                    · skip
                      show own_Go _ _ _ _ T5246 (mkF m 343 #[.val (.long jp0), .second, .val (.long jp1), .second, .val (.long jp2), .second, .val (.long jp3), .second, .val (.int ip4), .val (.int ip5), .val (.int (3 : Int32)), .val (.int n11), .val (.ref b1), .val (.ref b8), .val (.ref b15), .val (.ref b22), .val (.ref b26), .val (.ref b5001), .val (.ref b5032), .val (.ref b5012), .val (.int (0 : Int32))] [(.int (1 : Int32))])
                      refine own_st (fun t k => XS.ifNo X5246.here hx rfl (hb hby at_343) rfl ((if0 _ _).trans (feq (by decide : ¬ ((1 : Int32) = (0 : Int32)))).1) (XS.iconst X5246.here hx rfl (hb hby at_346) (XS.istore X5246.here hx rfl (hb hby at_347) rfl (l' := #[.val (.long jp0), .second, .val (.long jp1), .second, .val (.long jp2), .second, .val (.long jp3), .second, .val (.int ip4), .val (.int ip5), .val (.int (3 : Int32)), .val (.int n11), .val (.ref b1), .val (.ref b8), .val (.ref b15), .val (.ref b22), .val (.ref b26), .val (.ref b5001), .val (.ref b5032), .val (.ref b5012), .val (.int (1 : Int32))]) rfl k))) ?_
                      show own_Go _ _ _ _ T5246 (mkF m 349 #[.val (.long jp0), .second, .val (.long jp1), .second, .val (.long jp2), .second, .val (.long jp3), .second, .val (.int ip4), .val (.int ip5), .val (.int (3 : Int32)), .val (.int n11), .val (.ref b1), .val (.ref b8), .val (.ref b15), .val (.ref b22), .val (.ref b26), .val (.ref b5001), .val (.ref b5032), .val (.ref b5012), .val (.int (1 : Int32))] [])
                      refine own_st (fun t k => XS.iload X5246.here hx rfl (hb hby at_349) rfl (XS.iconst X5246.here hx rfl (hb hby at_351) (XS.icmpNo X5246.here hx rfl (hb hby at_352) rfl (tlt (by decide : (2 : Int32) < (3 : Int32))).2.2.2 k))) ?_
                      show own_Go _ _ _ _ T5246 (mkF m 355 #[.val (.long jp0), .second, .val (.long jp1), .second, .val (.long jp2), .second, .val (.long jp3), .second, .val (.int ip4), .val (.int ip5), .val (.int (3 : Int32)), .val (.int n11), .val (.ref b1), .val (.ref b8), .val (.ref b15), .val (.ref b22), .val (.ref b26), .val (.ref b5001), .val (.ref b5032), .val (.ref b5012), .val (.int (1 : Int32))] [])
                      refine own_st (fun t k => XS.aload X5246.here hx rfl (hb hby at_355) rfl rfl (XS.iconst X5246.here hx rfl (hb hby at_357) k)) ?_
                      refine own_st (own_laload X5246 hx hZ e5246 f5244 (j := (2 : Int32)) (v := (.long jp2)) ⟨by decide, by decide⟩ rfl (g := (mkF m 358 #[.val (.long jp0), .second, .val (.long jp1), .second, .val (.long jp2), .second, .val (.long jp3), .second, .val (.int ip4), .val (.int ip5), .val (.int (3 : Int32)), .val (.int n11), .val (.ref b1), .val (.ref b8), .val (.ref b15), .val (.ref b22), .val (.ref b26), .val (.ref b5001), .val (.ref b5032), .val (.ref b5012), .val (.int (1 : Int32))] [(.int (2 : Int32)), (.ref b22)])) rfl rfl (hb hby at_358)) ?_
                      show own_Go _ _ _ _ T5246 (mkF m 359 #[.val (.long jp0), .second, .val (.long jp1), .second, .val (.long jp2), .second, .val (.long jp3), .second, .val (.int ip4), .val (.int ip5), .val (.int (3 : Int32)), .val (.int n11), .val (.ref b1), .val (.ref b8), .val (.ref b15), .val (.ref b22), .val (.ref b26), .val (.ref b5001), .val (.ref b5032), .val (.ref b5012), .val (.int (1 : Int32))] [(.long jp2)])
                      refine own_st (fun t k => XS.aload X5246.here hx rfl (hb hby at_359) rfl rfl (XS.iconst X5246.here hx rfl (hb hby at_361) k)) ?_
                      refine own_st (own_laload X5246 hx hZ e5246 f5245 (j := (2 : Int32)) (v := (.long d2)) ⟨by decide, by decide⟩ rfl (g := (mkF m 362 #[.val (.long jp0), .second, .val (.long jp1), .second, .val (.long jp2), .second, .val (.long jp3), .second, .val (.int ip4), .val (.int ip5), .val (.int (3 : Int32)), .val (.int n11), .val (.ref b1), .val (.ref b8), .val (.ref b15), .val (.ref b22), .val (.ref b26), .val (.ref b5001), .val (.ref b5032), .val (.ref b5012), .val (.int (1 : Int32))] [(.int (2 : Int32)), (.ref b26), (.long jp2)])) rfl rfl (hb hby at_362)) ?_
                      show own_Go _ _ _ _ T5246 (mkF m 363 #[.val (.long jp0), .second, .val (.long jp1), .second, .val (.long jp2), .second, .val (.long jp3), .second, .val (.int ip4), .val (.int ip5), .val (.int (3 : Int32)), .val (.int n11), .val (.ref b1), .val (.ref b8), .val (.ref b15), .val (.ref b22), .val (.ref b26), .val (.ref b5001), .val (.ref b5032), .val (.ref b5012), .val (.int (1 : Int32))] [(.long d2), (.long jp2)])
                      refine own_st (fun t k => XS.aload X5246.here hx rfl (hb hby at_363) rfl rfl (XS.iload X5246.here hx rfl (hb hby at_365) rfl k)) ?_
                      refine own_st (own_laload X5246 hx hZ e5246 f5244 (j := (1 : Int32)) (v := (.long jp1)) ⟨by decide, by decide⟩ rfl (g := (mkF m 367 #[.val (.long jp0), .second, .val (.long jp1), .second, .val (.long jp2), .second, .val (.long jp3), .second, .val (.int ip4), .val (.int ip5), .val (.int (3 : Int32)), .val (.int n11), .val (.ref b1), .val (.ref b8), .val (.ref b15), .val (.ref b22), .val (.ref b26), .val (.ref b5001), .val (.ref b5032), .val (.ref b5012), .val (.int (1 : Int32))] [(.int (1 : Int32)), (.ref b22), (.long d2), (.long jp2)])) rfl rfl (hb hby at_367)) ?_
                      show own_Go _ _ _ _ T5246 (mkF m 368 #[.val (.long jp0), .second, .val (.long jp1), .second, .val (.long jp2), .second, .val (.long jp3), .second, .val (.int ip4), .val (.int ip5), .val (.int (3 : Int32)), .val (.int n11), .val (.ref b1), .val (.ref b8), .val (.ref b15), .val (.ref b22), .val (.ref b26), .val (.ref b5001), .val (.ref b5032), .val (.ref b5012), .val (.int (1 : Int32))] [(.long jp1), (.long d2), (.long jp2)])
                      refine own_st (fun t k => XS.aload X5246.here hx rfl (hb hby at_368) rfl rfl (XS.iload X5246.here hx rfl (hb hby at_370) rfl k)) ?_
                      refine own_st (own_laload X5246 hx hZ e5246 f5245 (j := (1 : Int32)) (v := (.long d1)) ⟨by decide, by decide⟩ rfl (g := (mkF m 372 #[.val (.long jp0), .second, .val (.long jp1), .second, .val (.long jp2), .second, .val (.long jp3), .second, .val (.int ip4), .val (.int ip5), .val (.int (3 : Int32)), .val (.int n11), .val (.ref b1), .val (.ref b8), .val (.ref b15), .val (.ref b22), .val (.ref b26), .val (.ref b5001), .val (.ref b5032), .val (.ref b5012), .val (.int (1 : Int32))] [(.int (1 : Int32)), (.ref b26), (.long jp1), (.long d2), (.long jp2)])) rfl rfl (hb hby at_372)) ?_
                      show own_Go _ _ _ _ T5246 (mkF m 373 #[.val (.long jp0), .second, .val (.long jp1), .second, .val (.long jp2), .second, .val (.long jp3), .second, .val (.int ip4), .val (.int ip5), .val (.int (3 : Int32)), .val (.int n11), .val (.ref b1), .val (.ref b8), .val (.ref b15), .val (.ref b22), .val (.ref b26), .val (.ref b5001), .val (.ref b5032), .val (.ref b5012), .val (.int (1 : Int32))] [(.long d1), (.long jp1), (.long d2), (.long jp2)])
                      refine own_cS X5246 hx hZ hown (own_w hw 149 rfl) (own_w hw 150 rfl) (own_w hw 151 rfl) (own_w hw 152 rfl) [(.long jp2), (.long d2), (.long jp1), (.long d1)] [] (own_rm22 l Z a0 hw [] jp2 d2 jp1 d1 T5242.heap n0 Z5242 ) 0 (hb hby at_373) (by rw [hml]; rfl) (lenOf own_pd16 rfl) e5246 rfl rfl (by show 2 * 0 + _ ≤ _; exact Nat.le_of_eq rfl) (by decide) (by decide) (by decide) (by decide) (by decide) fun v5247 T5247 L5247 X5247 hQ5247 => ?_
                      obtain ⟨N5247q, e5247, hL5247⟩ := hQ5247
                      have N5247 := Fr.app N5246 N5247q
                      rcases hL5247 with ⟨rfl, hq5247_0_0, -⟩ | ⟨rfl, hq5247_1_0, -⟩
                      · skip
                        exact absurd hq5247_0_0 (own_o9 hq5144_1_0 hq5240_0_0 hq5246_0_0 hd01 hd02 hd12)
                      · skip
                        refine own_st (fun t k => XS.ifYes X5247.here hx rfl (pc0 := 376) (pc' := 382) rfl (hb hby at_376) rfl ((if0 _ _).trans (teq (by decide : (0 : Int32) = (0 : Int32))).1) (by decide) (by decide) (XS.aload X5247.here hx rfl (hb hby at_382) rfl rfl k)) ?_
                        show own_Go _ _ _ _ T5247 (mkF m 384 #[.val (.long jp0), .second, .val (.long jp1), .second, .val (.long jp2), .second, .val (.long jp3), .second, .val (.int ip4), .val (.int ip5), .val (.int (3 : Int32)), .val (.int n11), .val (.ref b1), .val (.ref b8), .val (.ref b15), .val (.ref b22), .val (.ref b26), .val (.ref b5001), .val (.ref b5032), .val (.ref b5012), .val (.int (1 : Int32))] [(.ref b5012)])
                        refine own_st (fun t k => XS.aload X5247.here hx rfl (hb hby at_384) rfl rfl (XS.iload X5247.here hx rfl (hb hby at_386) rfl k)) ?_
                        have f5248 := ((f5205.keep Kq5240 (ninS ne5123 (ninS ne5122 (ninS ne5108 nin0)))).keep Kq5242 nin0)
                        refine own_st (own_aaload X5247 hx hZ e5247 f5248 rfl (j := (1 : Int32)) (v := (.ref b5012)) ⟨by decide, by decide⟩ rfl (g := (mkF m 388 #[.val (.long jp0), .second, .val (.long jp1), .second, .val (.long jp2), .second, .val (.long jp3), .second, .val (.int ip4), .val (.int ip5), .val (.int (3 : Int32)), .val (.int n11), .val (.ref b1), .val (.ref b8), .val (.ref b15), .val (.ref b22), .val (.ref b26), .val (.ref b5001), .val (.ref b5032), .val (.ref b5012), .val (.int (1 : Int32))] [(.int (1 : Int32)), (.ref b5001), (.ref b5012)])) rfl rfl (hb hby at_388)) ?_
                        show own_Go _ _ _ _ T5247 (mkF m 389 #[.val (.long jp0), .second, .val (.long jp1), .second, .val (.long jp2), .second, .val (.long jp3), .second, .val (.int ip4), .val (.int ip5), .val (.int (3 : Int32)), .val (.int n11), .val (.ref b1), .val (.ref b8), .val (.ref b15), .val (.ref b22), .val (.ref b26), .val (.ref b5001), .val (.ref b5032), .val (.ref b5012), .val (.int (1 : Int32))] [(.ref b5012), (.ref b5012)])
                        refine own_st (fun t k => Jvm.RoadKit.acmp (g := (mkF m 389 #[.val (.long jp0), .second, .val (.long jp1), .second, .val (.long jp2), .second, .val (.long jp3), .second, .val (.int ip4), .val (.int ip5), .val (.int (3 : Int32)), .val (.int n11), .val (.ref b1), .val (.ref b8), .val (.ref b15), .val (.ref b22), .val (.ref b26), .val (.ref b5001), .val (.ref b5032), .val (.ref b5012), .val (.int (1 : Int32))] [(.ref b5012), (.ref b5012)])) X5247 hx rfl rfl rfl (pc0 := 389) (pc' := 392) (same := true) rfl (hb hby at_389) rfl (decide_eq_true (congrArg Value.ref (rfl : b5012 = b5012))) (by decide) (by decide) (XS.iconst X5247.here hx rfl (hb hby at_392) (XS.goto X5247.here hx rfl (pc0 := 393) (pc' := 397) rfl (hb hby at_393) (by decide) (by decide) k))) ?_
                        show own_Go _ _ _ _ T5247 (mkF m 397 #[.val (.long jp0), .second, .val (.long jp1), .second, .val (.long jp2), .second, .val (.long jp3), .second, .val (.int ip4), .val (.int ip5), .val (.int (3 : Int32)), .val (.int n11), .val (.ref b1), .val (.ref b8), .val (.ref b15), .val (.ref b22), .val (.ref b26), .val (.ref b5001), .val (.ref b5032), .val (.ref b5012), .val (.int (1 : Int32))] [(.int (1 : Int32))])
                        exact own_retZ X5247 hx hlk (t := .boolean) hret (by simp) (hb hby at_397) (by decide) (by decide) e5247 ⟨rfl, N5247⟩
                    · skip
                      exact absurd (own_o8 hq5144_1_0 hq5240_0_0 hd01 hd02 hd12) hq5246_1_0
                · skip
                  refine own_st (fun t k => XS.aload X5240.here hx rfl (hb hby at_290) rfl rfl k) ?_
                  have f5249 := (f5218.keep Kq5240)
                  have f5251 := (f5239.keep Kq5240)
                  refine own_cV (a := b5032) X5240 hx hZ hown (own_w hw 57 rfl) (own_w hw 58 rfl) (own_w hw 60 rfl) (own_w hw 59 rfl) (own_w hw 30 rfl) (own_w hw 61 rfl) [] [] f5251 (own_rm7_128 l Z a0 hw [] b5032 b2x4_14c5034 b2x5_18c4c5034 k2x5_18c4c5034c2c5070c2c5144c2c5240 b5012 b5022 b5002 T5240.heap n0 Z5240 Fc5240_1_6 Fc5240_1_5 Fc5240_1_2 Fc5240_1_0 OFc5240_1_0 f5249) 0 (hb hby at_292) (by rw [hml]; rfl) (lenOf own_pd3 rfl) rfl rfl rfl (by show 2 * 0 + _ ≤ _; exact Nat.le_of_eq rfl) (by decide) (by decide) (by decide) (by decide) (by decide) fun v5250 T5250 L5250 X5250 hQ5250 => ?_
                  obtain ⟨N5250q, Kq5250, hL5250⟩ := hQ5250
                  have N5250 := Fr.app N5240 N5250q
                  have K5250 : Keep h0 T5250.heap [] := K5240.trans Kq5250 all0
                  have Z5250 := Nat.le_trans Z5240 Kq5250.1
                  rcases hL5250 with ⟨rfl, -⟩
                  · skip
                    show own_Go _ _ _ _ T5250 (mkF m 295 #[.val (.long jp0), .second, .val (.long jp1), .second, .val (.long jp2), .second, .val (.long jp3), .second, .val (.int ip4), .val (.int ip5), .val (.int (3 : Int32)), .val (.int n11), .val (.ref b1), .val (.ref b8), .val (.ref b15), .val (.ref b22), .val (.ref b26), .val (.ref b5001), .val (.ref b5032), .unset, .unset] [(.ref b5012)])
                    refine own_st (fun t k => XS.astore X5250.here hx rfl (hb hby at_295) rfl rfl (l' := #[.val (.long jp0), .second, .val (.long jp1), .second, .val (.long jp2), .second, .val (.long jp3), .second, .val (.int ip4), .val (.int ip5), .val (.int (3 : Int32)), .val (.int n11), .val (.ref b1), .val (.ref b8), .val (.ref b15), .val (.ref b22), .val (.ref b26), .val (.ref b5001), .val (.ref b5032), .val (.ref b5012), .unset]) rfl (XS.iload X5250.here hx rfl (hb hby at_297) rfl (XS.ifYes X5250.here hx rfl (pc0 := 299) (pc' := 313) rfl (hb hby at_299) rfl ((if0 _ _).trans (feq (by decide : ¬ ((3 : Int32) = (0 : Int32)))).2) (by decide) (by decide) k))) ?_
                    show own_Go _ _ _ _ T5250 (mkF m 313 #[.val (.long jp0), .second, .val (.long jp1), .second, .val (.long jp2), .second, .val (.long jp3), .second, .val (.int ip4), .val (.int ip5), .val (.int (3 : Int32)), .val (.int n11), .val (.ref b1), .val (.ref b8), .val (.ref b15), .val (.ref b22), .val (.ref b26), .val (.ref b5001), .val (.ref b5032), .val (.ref b5012), .unset] [])
                    refine own_st (fun t k => XS.iconst X5250.here hx rfl (hb hby at_313) (XS.istore X5250.here hx rfl (hb hby at_314) rfl (l' := #[.val (.long jp0), .second, .val (.long jp1), .second, .val (.long jp2), .second, .val (.long jp3), .second, .val (.int ip4), .val (.int ip5), .val (.int (3 : Int32)), .val (.int n11), .val (.ref b1), .val (.ref b8), .val (.ref b15), .val (.ref b22), .val (.ref b26), .val (.ref b5001), .val (.ref b5032), .val (.ref b5012), .val (.int (0 : Int32))]) rfl (XS.iload X5250.here hx rfl (hb hby at_316) rfl k))) ?_
                    show own_Go _ _ _ _ T5250 (mkF m 318 #[.val (.long jp0), .second, .val (.long jp1), .second, .val (.long jp2), .second, .val (.long jp3), .second, .val (.int ip4), .val (.int ip5), .val (.int (3 : Int32)), .val (.int n11), .val (.ref b1), .val (.ref b8), .val (.ref b15), .val (.ref b22), .val (.ref b26), .val (.ref b5001), .val (.ref b5032), .val (.ref b5012), .val (.int (0 : Int32))] [(.int (3 : Int32))])
                    refine own_st (fun t k => XS.iconst X5250.here hx rfl (hb hby at_318) (XS.icmpNo X5250.here hx rfl (hb hby at_319) rfl (tlt (by decide : (1 : Int32) < (3 : Int32))).2.2.2 (XS.aload X5250.here hx rfl (hb hby at_322) rfl rfl k))) ?_
                    show own_Go _ _ _ _ T5250 (mkF m 324 #[.val (.long jp0), .second, .val (.long jp1), .second, .val (.long jp2), .second, .val (.long jp3), .second, .val (.int ip4), .val (.int ip5), .val (.int (3 : Int32)), .val (.int n11), .val (.ref b1), .val (.ref b8), .val (.ref b15), .val (.ref b22), .val (.ref b26), .val (.ref b5001), .val (.ref b5032), .val (.ref b5012), .val (.int (0 : Int32))] [(.ref b22)])
                    refine own_st (fun t k => XS.iconst X5250.here hx rfl (hb hby at_324) k) ?_
                    have f5252 := (P14.keep K5250 nin0)
                    refine own_st (own_laload X5250 hx hZ rfl f5252 (j := (1 : Int32)) (v := (.long jp1)) ⟨by decide, by decide⟩ rfl (g := (mkF m 325 #[.val (.long jp0), .second, .val (.long jp1), .second, .val (.long jp2), .second, .val (.long jp3), .second, .val (.int ip4), .val (.int ip5), .val (.int (3 : Int32)), .val (.int n11), .val (.ref b1), .val (.ref b8), .val (.ref b15), .val (.ref b22), .val (.ref b26), .val (.ref b5001), .val (.ref b5032), .val (.ref b5012), .val (.int (0 : Int32))] [(.int (1 : Int32)), (.ref b22)])) rfl rfl (hb hby at_325)) ?_
                    refine own_st (fun t k => XS.aload X5250.here hx rfl (hb hby at_326) rfl rfl k) ?_
                    show own_Go _ _ _ _ T5250 (mkF m 328 #[.val (.long jp0), .second, .val (.long jp1), .second, .val (.long jp2), .second, .val (.long jp3), .second, .val (.int ip4), .val (.int ip5), .val (.int (3 : Int32)), .val (.int n11), .val (.ref b1), .val (.ref b8), .val (.ref b15), .val (.ref b22), .val (.ref b26), .val (.ref b5001), .val (.ref b5032), .val (.ref b5012), .val (.int (0 : Int32))] [(.ref b26), (.long jp1)])
                    refine own_st (fun t k => XS.iconst X5250.here hx rfl (hb hby at_328) k) ?_
                    have f5253 := (P16.keep K5250 nin0)
                    refine own_st (own_laload X5250 hx hZ rfl f5253 (j := (1 : Int32)) (v := (.long d1)) ⟨by decide, by decide⟩ rfl (g := (mkF m 329 #[.val (.long jp0), .second, .val (.long jp1), .second, .val (.long jp2), .second, .val (.long jp3), .second, .val (.int ip4), .val (.int ip5), .val (.int (3 : Int32)), .val (.int n11), .val (.ref b1), .val (.ref b8), .val (.ref b15), .val (.ref b22), .val (.ref b26), .val (.ref b5001), .val (.ref b5032), .val (.ref b5012), .val (.int (0 : Int32))] [(.int (1 : Int32)), (.ref b26), (.long jp1)])) rfl rfl (hb hby at_329)) ?_
                    refine own_st (fun t k => XS.aload X5250.here hx rfl (hb hby at_330) rfl rfl k) ?_
                    show own_Go _ _ _ _ T5250 (mkF m 332 #[.val (.long jp0), .second, .val (.long jp1), .second, .val (.long jp2), .second, .val (.long jp3), .second, .val (.int ip4), .val (.int ip5), .val (.int (3 : Int32)), .val (.int n11), .val (.ref b1), .val (.ref b8), .val (.ref b15), .val (.ref b22), .val (.ref b26), .val (.ref b5001), .val (.ref b5032), .val (.ref b5012), .val (.int (0 : Int32))] [(.ref b22), (.long d1), (.long jp1)])
                    refine own_st (fun t k => XS.iload X5250.here hx rfl (hb hby at_332) rfl k) ?_
                    refine own_st (own_laload X5250 hx hZ rfl f5252 (j := (0 : Int32)) (v := (.long jp0)) ⟨by decide, by decide⟩ rfl (g := (mkF m 334 #[.val (.long jp0), .second, .val (.long jp1), .second, .val (.long jp2), .second, .val (.long jp3), .second, .val (.int ip4), .val (.int ip5), .val (.int (3 : Int32)), .val (.int n11), .val (.ref b1), .val (.ref b8), .val (.ref b15), .val (.ref b22), .val (.ref b26), .val (.ref b5001), .val (.ref b5032), .val (.ref b5012), .val (.int (0 : Int32))] [(.int (0 : Int32)), (.ref b22), (.long d1), (.long jp1)])) rfl rfl (hb hby at_334)) ?_
                    refine own_st (fun t k => XS.aload X5250.here hx rfl (hb hby at_335) rfl rfl k) ?_
                    show own_Go _ _ _ _ T5250 (mkF m 337 #[.val (.long jp0), .second, .val (.long jp1), .second, .val (.long jp2), .second, .val (.long jp3), .second, .val (.int ip4), .val (.int ip5), .val (.int (3 : Int32)), .val (.int n11), .val (.ref b1), .val (.ref b8), .val (.ref b15), .val (.ref b22), .val (.ref b26), .val (.ref b5001), .val (.ref b5032), .val (.ref b5012), .val (.int (0 : Int32))] [(.ref b26), (.long jp0), (.long d1), (.long jp1)])
                    refine own_st (fun t k => XS.iload X5250.here hx rfl (hb hby at_337) rfl k) ?_
                    refine own_st (own_laload X5250 hx hZ rfl f5253 (j := (0 : Int32)) (v := (.long d0)) ⟨by decide, by decide⟩ rfl (g := (mkF m 339 #[.val (.long jp0), .second, .val (.long jp1), .second, .val (.long jp2), .second, .val (.long jp3), .second, .val (.int ip4), .val (.int ip5), .val (.int (3 : Int32)), .val (.int n11), .val (.ref b1), .val (.ref b8), .val (.ref b15), .val (.ref b22), .val (.ref b26), .val (.ref b5001), .val (.ref b5032), .val (.ref b5012), .val (.int (0 : Int32))] [(.int (0 : Int32)), (.ref b26), (.long jp0), (.long d1), (.long jp1)])) rfl rfl (hb hby at_339)) ?_
                    refine own_cS X5250 hx hZ hown (own_w hw 149 rfl) (own_w hw 150 rfl) (own_w hw 151 rfl) (own_w hw 152 rfl) [(.long jp1), (.long d1), (.long jp0), (.long d0)] [] (own_rm22 l Z a0 hw [] jp1 d1 jp0 d0 T5250.heap n0 Z5250 ) 0 (hb hby at_340) (by rw [hml]; rfl) (lenOf own_pd16 rfl) rfl rfl rfl (by show 2 * 0 + _ ≤ _; exact Nat.le_of_eq rfl) (by decide) (by decide) (by decide) (by decide) (by decide) fun v5254 T5254 L5254 X5254 hQ5254 => ?_
                    obtain ⟨N5254q, e5254, hL5254⟩ := hQ5254
                    have N5254 := Fr.app N5250 N5254q
                    rcases hL5254 with ⟨rfl, hq5254_0_0, -⟩ | ⟨rfl, hq5254_1_0, -⟩
                    · skip
                      show own_Go _ _ _ _ T5254 (mkF m 343 #[.val (.long jp0), .second, .val (.long jp1), .second, .val (.long jp2), .second, .val (.long jp3), .second, .val (.int ip4), .val (.int ip5), .val (.int (3 : Int32)), .val (.int n11), .val (.ref b1), .val (.ref b8), .val (.ref b15), .val (.ref b22), .val (.ref b26), .val (.ref b5001), .val (.ref b5032), .val (.ref b5012), .val (.int (0 : Int32))] [(.int (1 : Int32))])
                      refine own_st (fun t k => XS.ifNo X5254.here hx rfl (hb hby at_343) rfl ((if0 _ _).trans (feq (by decide : ¬ ((1 : Int32) = (0 : Int32)))).1) (XS.iconst X5254.here hx rfl (hb hby at_346) (XS.istore X5254.here hx rfl (hb hby at_347) rfl (l' := #[.val (.long jp0), .second, .val (.long jp1), .second, .val (.long jp2), .second, .val (.long jp3), .second, .val (.int ip4), .val (.int ip5), .val (.int (3 : Int32)), .val (.int n11), .val (.ref b1), .val (.ref b8), .val (.ref b15), .val (.ref b22), .val (.ref b26), .val (.ref b5001), .val (.ref b5032), .val (.ref b5012), .val (.int (1 : Int32))]) rfl k))) ?_
                      show own_Go _ _ _ _ T5254 (mkF m 349 #[.val (.long jp0), .second, .val (.long jp1), .second, .val (.long jp2), .second, .val (.long jp3), .second, .val (.int ip4), .val (.int ip5), .val (.int (3 : Int32)), .val (.int n11), .val (.ref b1), .val (.ref b8), .val (.ref b15), .val (.ref b22), .val (.ref b26), .val (.ref b5001), .val (.ref b5032), .val (.ref b5012), .val (.int (1 : Int32))] [])
                      refine own_st (fun t k => XS.iload X5254.here hx rfl (hb hby at_349) rfl (XS.iconst X5254.here hx rfl (hb hby at_351) (XS.icmpNo X5254.here hx rfl (hb hby at_352) rfl (tlt (by decide : (2 : Int32) < (3 : Int32))).2.2.2 k))) ?_
                      show own_Go _ _ _ _ T5254 (mkF m 355 #[.val (.long jp0), .second, .val (.long jp1), .second, .val (.long jp2), .second, .val (.long jp3), .second, .val (.int ip4), .val (.int ip5), .val (.int (3 : Int32)), .val (.int n11), .val (.ref b1), .val (.ref b8), .val (.ref b15), .val (.ref b22), .val (.ref b26), .val (.ref b5001), .val (.ref b5032), .val (.ref b5012), .val (.int (1 : Int32))] [])
                      refine own_st (fun t k => XS.aload X5254.here hx rfl (hb hby at_355) rfl rfl (XS.iconst X5254.here hx rfl (hb hby at_357) k)) ?_
                      refine own_st (own_laload X5254 hx hZ e5254 f5252 (j := (2 : Int32)) (v := (.long jp2)) ⟨by decide, by decide⟩ rfl (g := (mkF m 358 #[.val (.long jp0), .second, .val (.long jp1), .second, .val (.long jp2), .second, .val (.long jp3), .second, .val (.int ip4), .val (.int ip5), .val (.int (3 : Int32)), .val (.int n11), .val (.ref b1), .val (.ref b8), .val (.ref b15), .val (.ref b22), .val (.ref b26), .val (.ref b5001), .val (.ref b5032), .val (.ref b5012), .val (.int (1 : Int32))] [(.int (2 : Int32)), (.ref b22)])) rfl rfl (hb hby at_358)) ?_
                      show own_Go _ _ _ _ T5254 (mkF m 359 #[.val (.long jp0), .second, .val (.long jp1), .second, .val (.long jp2), .second, .val (.long jp3), .second, .val (.int ip4), .val (.int ip5), .val (.int (3 : Int32)), .val (.int n11), .val (.ref b1), .val (.ref b8), .val (.ref b15), .val (.ref b22), .val (.ref b26), .val (.ref b5001), .val (.ref b5032), .val (.ref b5012), .val (.int (1 : Int32))] [(.long jp2)])
                      refine own_st (fun t k => XS.aload X5254.here hx rfl (hb hby at_359) rfl rfl (XS.iconst X5254.here hx rfl (hb hby at_361) k)) ?_
                      refine own_st (own_laload X5254 hx hZ e5254 f5253 (j := (2 : Int32)) (v := (.long d2)) ⟨by decide, by decide⟩ rfl (g := (mkF m 362 #[.val (.long jp0), .second, .val (.long jp1), .second, .val (.long jp2), .second, .val (.long jp3), .second, .val (.int ip4), .val (.int ip5), .val (.int (3 : Int32)), .val (.int n11), .val (.ref b1), .val (.ref b8), .val (.ref b15), .val (.ref b22), .val (.ref b26), .val (.ref b5001), .val (.ref b5032), .val (.ref b5012), .val (.int (1 : Int32))] [(.int (2 : Int32)), (.ref b26), (.long jp2)])) rfl rfl (hb hby at_362)) ?_
                      show own_Go _ _ _ _ T5254 (mkF m 363 #[.val (.long jp0), .second, .val (.long jp1), .second, .val (.long jp2), .second, .val (.long jp3), .second, .val (.int ip4), .val (.int ip5), .val (.int (3 : Int32)), .val (.int n11), .val (.ref b1), .val (.ref b8), .val (.ref b15), .val (.ref b22), .val (.ref b26), .val (.ref b5001), .val (.ref b5032), .val (.ref b5012), .val (.int (1 : Int32))] [(.long d2), (.long jp2)])
                      refine own_st (fun t k => XS.aload X5254.here hx rfl (hb hby at_363) rfl rfl (XS.iload X5254.here hx rfl (hb hby at_365) rfl k)) ?_
                      refine own_st (own_laload X5254 hx hZ e5254 f5252 (j := (1 : Int32)) (v := (.long jp1)) ⟨by decide, by decide⟩ rfl (g := (mkF m 367 #[.val (.long jp0), .second, .val (.long jp1), .second, .val (.long jp2), .second, .val (.long jp3), .second, .val (.int ip4), .val (.int ip5), .val (.int (3 : Int32)), .val (.int n11), .val (.ref b1), .val (.ref b8), .val (.ref b15), .val (.ref b22), .val (.ref b26), .val (.ref b5001), .val (.ref b5032), .val (.ref b5012), .val (.int (1 : Int32))] [(.int (1 : Int32)), (.ref b22), (.long d2), (.long jp2)])) rfl rfl (hb hby at_367)) ?_
                      show own_Go _ _ _ _ T5254 (mkF m 368 #[.val (.long jp0), .second, .val (.long jp1), .second, .val (.long jp2), .second, .val (.long jp3), .second, .val (.int ip4), .val (.int ip5), .val (.int (3 : Int32)), .val (.int n11), .val (.ref b1), .val (.ref b8), .val (.ref b15), .val (.ref b22), .val (.ref b26), .val (.ref b5001), .val (.ref b5032), .val (.ref b5012), .val (.int (1 : Int32))] [(.long jp1), (.long d2), (.long jp2)])
                      refine own_st (fun t k => XS.aload X5254.here hx rfl (hb hby at_368) rfl rfl (XS.iload X5254.here hx rfl (hb hby at_370) rfl k)) ?_
                      refine own_st (own_laload X5254 hx hZ e5254 f5253 (j := (1 : Int32)) (v := (.long d1)) ⟨by decide, by decide⟩ rfl (g := (mkF m 372 #[.val (.long jp0), .second, .val (.long jp1), .second, .val (.long jp2), .second, .val (.long jp3), .second, .val (.int ip4), .val (.int ip5), .val (.int (3 : Int32)), .val (.int n11), .val (.ref b1), .val (.ref b8), .val (.ref b15), .val (.ref b22), .val (.ref b26), .val (.ref b5001), .val (.ref b5032), .val (.ref b5012), .val (.int (1 : Int32))] [(.int (1 : Int32)), (.ref b26), (.long jp1), (.long d2), (.long jp2)])) rfl rfl (hb hby at_372)) ?_
                      show own_Go _ _ _ _ T5254 (mkF m 373 #[.val (.long jp0), .second, .val (.long jp1), .second, .val (.long jp2), .second, .val (.long jp3), .second, .val (.int ip4), .val (.int ip5), .val (.int (3 : Int32)), .val (.int n11), .val (.ref b1), .val (.ref b8), .val (.ref b15), .val (.ref b22), .val (.ref b26), .val (.ref b5001), .val (.ref b5032), .val (.ref b5012), .val (.int (1 : Int32))] [(.long d1), (.long jp1), (.long d2), (.long jp2)])
                      refine own_cS X5254 hx hZ hown (own_w hw 149 rfl) (own_w hw 150 rfl) (own_w hw 151 rfl) (own_w hw 152 rfl) [(.long jp2), (.long d2), (.long jp1), (.long d1)] [] (own_rm22 l Z a0 hw [] jp2 d2 jp1 d1 T5250.heap n0 Z5250 ) 0 (hb hby at_373) (by rw [hml]; rfl) (lenOf own_pd16 rfl) e5254 rfl rfl (by show 2 * 0 + _ ≤ _; exact Nat.le_of_eq rfl) (by decide) (by decide) (by decide) (by decide) (by decide) fun v5255 T5255 L5255 X5255 hQ5255 => ?_
                      obtain ⟨N5255q, e5255, hL5255⟩ := hQ5255
                      have N5255 := Fr.app N5254 N5255q
                      rcases hL5255 with ⟨rfl, hq5255_0_0, -⟩ | ⟨rfl, hq5255_1_0, -⟩
                      · skip
                        exact absurd hq5255_0_0 (own_o11 hq5144_1_0 hq5240_1_0 hq5240_1_1 hq5254_0_0 hd01 hd02 hd12)
                      · skip
                        refine own_st (fun t k => XS.ifYes X5255.here hx rfl (pc0 := 376) (pc' := 382) rfl (hb hby at_376) rfl ((if0 _ _).trans (teq (by decide : (0 : Int32) = (0 : Int32))).1) (by decide) (by decide) (XS.aload X5255.here hx rfl (hb hby at_382) rfl rfl k)) ?_
                        show own_Go _ _ _ _ T5255 (mkF m 384 #[.val (.long jp0), .second, .val (.long jp1), .second, .val (.long jp2), .second, .val (.long jp3), .second, .val (.int ip4), .val (.int ip5), .val (.int (3 : Int32)), .val (.int n11), .val (.ref b1), .val (.ref b8), .val (.ref b15), .val (.ref b22), .val (.ref b26), .val (.ref b5001), .val (.ref b5032), .val (.ref b5012), .val (.int (1 : Int32))] [(.ref b5012)])
                        refine own_st (fun t k => XS.aload X5255.here hx rfl (hb hby at_384) rfl rfl (XS.iload X5255.here hx rfl (hb hby at_386) rfl k)) ?_
                        have f5256 := ((f5205.keep Kq5240 (ninS ne5123 (ninS ne5122 (ninS ne5108 nin0)))).keep Kq5250 nin0)
                        refine own_st (own_aaload X5255 hx hZ e5255 f5256 rfl (j := (1 : Int32)) (v := (.ref b5012)) ⟨by decide, by decide⟩ rfl (g := (mkF m 388 #[.val (.long jp0), .second, .val (.long jp1), .second, .val (.long jp2), .second, .val (.long jp3), .second, .val (.int ip4), .val (.int ip5), .val (.int (3 : Int32)), .val (.int n11), .val (.ref b1), .val (.ref b8), .val (.ref b15), .val (.ref b22), .val (.ref b26), .val (.ref b5001), .val (.ref b5032), .val (.ref b5012), .val (.int (1 : Int32))] [(.int (1 : Int32)), (.ref b5001), (.ref b5012)])) rfl rfl (hb hby at_388)) ?_
                        show own_Go _ _ _ _ T5255 (mkF m 389 #[.val (.long jp0), .second, .val (.long jp1), .second, .val (.long jp2), .second, .val (.long jp3), .second, .val (.int ip4), .val (.int ip5), .val (.int (3 : Int32)), .val (.int n11), .val (.ref b1), .val (.ref b8), .val (.ref b15), .val (.ref b22), .val (.ref b26), .val (.ref b5001), .val (.ref b5032), .val (.ref b5012), .val (.int (1 : Int32))] [(.ref b5012), (.ref b5012)])
                        refine own_st (fun t k => Jvm.RoadKit.acmp (g := (mkF m 389 #[.val (.long jp0), .second, .val (.long jp1), .second, .val (.long jp2), .second, .val (.long jp3), .second, .val (.int ip4), .val (.int ip5), .val (.int (3 : Int32)), .val (.int n11), .val (.ref b1), .val (.ref b8), .val (.ref b15), .val (.ref b22), .val (.ref b26), .val (.ref b5001), .val (.ref b5032), .val (.ref b5012), .val (.int (1 : Int32))] [(.ref b5012), (.ref b5012)])) X5255 hx rfl rfl rfl (pc0 := 389) (pc' := 392) (same := true) rfl (hb hby at_389) rfl (decide_eq_true (congrArg Value.ref (rfl : b5012 = b5012))) (by decide) (by decide) (XS.iconst X5255.here hx rfl (hb hby at_392) (XS.goto X5255.here hx rfl (pc0 := 393) (pc' := 397) rfl (hb hby at_393) (by decide) (by decide) k))) ?_
                        show own_Go _ _ _ _ T5255 (mkF m 397 #[.val (.long jp0), .second, .val (.long jp1), .second, .val (.long jp2), .second, .val (.long jp3), .second, .val (.int ip4), .val (.int ip5), .val (.int (3 : Int32)), .val (.int n11), .val (.ref b1), .val (.ref b8), .val (.ref b15), .val (.ref b22), .val (.ref b26), .val (.ref b5001), .val (.ref b5032), .val (.ref b5012), .val (.int (1 : Int32))] [(.int (1 : Int32))])
                        exact own_retZ X5255 hx hlk (t := .boolean) hret (by simp) (hb hby at_397) (by decide) (by decide) e5255 ⟨rfl, N5255⟩
                    · skip
                      exact absurd (own_o10 hq5144_1_0 hq5240_1_0 hq5240_1_1 hd01 hd02 hd12) hq5254_1_0
                · skip
                  refine own_st (fun t k => XS.aload X5240.here hx rfl (hb hby at_290) rfl rfl k) ?_
                  have f5257 := (f5218.keep Kq5240)
                  have f5259 := (f5239.keep Kq5240)
                  refine own_cV (a := b5032) X5240 hx hZ hown (own_w hw 57 rfl) (own_w hw 58 rfl) (own_w hw 60 rfl) (own_w hw 59 rfl) (own_w hw 30 rfl) (own_w hw 61 rfl) [] [] f5259 (own_rm7_128 l Z a0 hw [] b5032 b2x4_14c5034 b2x5_18c4c5034 k2x5_18c4c5034c2c5070c2c5144c2c5240 b5022 b5012 b5002 T5240.heap n0 Z5240 Fc5240_2_6 Fc5240_2_5 Fc5240_2_2 Fc5240_2_0 OFc5240_2_0 f5257) 0 (hb hby at_292) (by rw [hml]; rfl) (lenOf own_pd3 rfl) rfl rfl rfl (by show 2 * 0 + _ ≤ _; exact Nat.le_of_eq rfl) (by decide) (by decide) (by decide) (by decide) (by decide) fun v5258 T5258 L5258 X5258 hQ5258 => ?_
                  obtain ⟨N5258q, Kq5258, hL5258⟩ := hQ5258
                  have N5258 := Fr.app N5240 N5258q
                  have K5258 : Keep h0 T5258.heap [] := K5240.trans Kq5258 all0
                  have Z5258 := Nat.le_trans Z5240 Kq5258.1
                  rcases hL5258 with ⟨rfl, -⟩
                  · skip
                    show own_Go _ _ _ _ T5258 (mkF m 295 #[.val (.long jp0), .second, .val (.long jp1), .second, .val (.long jp2), .second, .val (.long jp3), .second, .val (.int ip4), .val (.int ip5), .val (.int (3 : Int32)), .val (.int n11), .val (.ref b1), .val (.ref b8), .val (.ref b15), .val (.ref b22), .val (.ref b26), .val (.ref b5001), .val (.ref b5032), .unset, .unset] [(.ref b5022)])
                    refine own_st (fun t k => XS.astore X5258.here hx rfl (hb hby at_295) rfl rfl (l' := #[.val (.long jp0), .second, .val (.long jp1), .second, .val (.long jp2), .second, .val (.long jp3), .second, .val (.int ip4), .val (.int ip5), .val (.int (3 : Int32)), .val (.int n11), .val (.ref b1), .val (.ref b8), .val (.ref b15), .val (.ref b22), .val (.ref b26), .val (.ref b5001), .val (.ref b5032), .val (.ref b5022), .unset]) rfl (XS.iload X5258.here hx rfl (hb hby at_297) rfl (XS.ifYes X5258.here hx rfl (pc0 := 299) (pc' := 313) rfl (hb hby at_299) rfl ((if0 _ _).trans (feq (by decide : ¬ ((3 : Int32) = (0 : Int32)))).2) (by decide) (by decide) k))) ?_
                    show own_Go _ _ _ _ T5258 (mkF m 313 #[.val (.long jp0), .second, .val (.long jp1), .second, .val (.long jp2), .second, .val (.long jp3), .second, .val (.int ip4), .val (.int ip5), .val (.int (3 : Int32)), .val (.int n11), .val (.ref b1), .val (.ref b8), .val (.ref b15), .val (.ref b22), .val (.ref b26), .val (.ref b5001), .val (.ref b5032), .val (.ref b5022), .unset] [])
                    refine own_st (fun t k => XS.iconst X5258.here hx rfl (hb hby at_313) (XS.istore X5258.here hx rfl (hb hby at_314) rfl (l' := #[.val (.long jp0), .second, .val (.long jp1), .second, .val (.long jp2), .second, .val (.long jp3), .second, .val (.int ip4), .val (.int ip5), .val (.int (3 : Int32)), .val (.int n11), .val (.ref b1), .val (.ref b8), .val (.ref b15), .val (.ref b22), .val (.ref b26), .val (.ref b5001), .val (.ref b5032), .val (.ref b5022), .val (.int (0 : Int32))]) rfl (XS.iload X5258.here hx rfl (hb hby at_316) rfl k))) ?_
                    show own_Go _ _ _ _ T5258 (mkF m 318 #[.val (.long jp0), .second, .val (.long jp1), .second, .val (.long jp2), .second, .val (.long jp3), .second, .val (.int ip4), .val (.int ip5), .val (.int (3 : Int32)), .val (.int n11), .val (.ref b1), .val (.ref b8), .val (.ref b15), .val (.ref b22), .val (.ref b26), .val (.ref b5001), .val (.ref b5032), .val (.ref b5022), .val (.int (0 : Int32))] [(.int (3 : Int32))])
                    refine own_st (fun t k => XS.iconst X5258.here hx rfl (hb hby at_318) (XS.icmpNo X5258.here hx rfl (hb hby at_319) rfl (tlt (by decide : (1 : Int32) < (3 : Int32))).2.2.2 (XS.aload X5258.here hx rfl (hb hby at_322) rfl rfl k))) ?_
                    show own_Go _ _ _ _ T5258 (mkF m 324 #[.val (.long jp0), .second, .val (.long jp1), .second, .val (.long jp2), .second, .val (.long jp3), .second, .val (.int ip4), .val (.int ip5), .val (.int (3 : Int32)), .val (.int n11), .val (.ref b1), .val (.ref b8), .val (.ref b15), .val (.ref b22), .val (.ref b26), .val (.ref b5001), .val (.ref b5032), .val (.ref b5022), .val (.int (0 : Int32))] [(.ref b22)])
                    refine own_st (fun t k => XS.iconst X5258.here hx rfl (hb hby at_324) k) ?_
                    have f5260 := (P14.keep K5258 nin0)
                    refine own_st (own_laload X5258 hx hZ rfl f5260 (j := (1 : Int32)) (v := (.long jp1)) ⟨by decide, by decide⟩ rfl (g := (mkF m 325 #[.val (.long jp0), .second, .val (.long jp1), .second, .val (.long jp2), .second, .val (.long jp3), .second, .val (.int ip4), .val (.int ip5), .val (.int (3 : Int32)), .val (.int n11), .val (.ref b1), .val (.ref b8), .val (.ref b15), .val (.ref b22), .val (.ref b26), .val (.ref b5001), .val (.ref b5032), .val (.ref b5022), .val (.int (0 : Int32))] [(.int (1 : Int32)), (.ref b22)])) rfl rfl (hb hby at_325)) ?_
                    refine own_st (fun t k => XS.aload X5258.here hx rfl (hb hby at_326) rfl rfl k) ?_
                    show own_Go _ _ _ _ T5258 (mkF m 328 #[.val (.long jp0), .second, .val (.long jp1), .second, .val (.long jp2), .second, .val (.long jp3), .second, .val (.int ip4), .val (.int ip5), .val (.int (3 : Int32)), .val (.int n11), .val (.ref b1), .val (.ref b8), .val (.ref b15), .val (.ref b22), .val (.ref b26), .val (.ref b5001), .val (.ref b5032), .val (.ref b5022), .val (.int (0 : Int32))] [(.ref b26), (.long jp1)])
                    refine own_st (fun t k => XS.iconst X5258.here hx rfl (hb hby at_328) k) ?_
                    have f5261 := (P16.keep K5258 nin0)
                    refine own_st (own_laload X5258 hx hZ rfl f5261 (j := (1 : Int32)) (v := (.long d1)) ⟨by decide, by decide⟩ rfl (g := (mkF m 329 #[.val (.long jp0), .second, .val (.long jp1), .second, .val (.long jp2), .second, .val (.long jp3), .second, .val (.int ip4), .val (.int ip5), .val (.int (3 : Int32)), .val (.int n11), .val (.ref b1), .val (.ref b8), .val (.ref b15), .val (.ref b22), .val (.ref b26), .val (.ref b5001), .val (.ref b5032), .val (.ref b5022), .val (.int (0 : Int32))] [(.int (1 : Int32)), (.ref b26), (.long jp1)])) rfl rfl (hb hby at_329)) ?_
                    refine own_st (fun t k => XS.aload X5258.here hx rfl (hb hby at_330) rfl rfl k) ?_
                    show own_Go _ _ _ _ T5258 (mkF m 332 #[.val (.long jp0), .second, .val (.long jp1), .second, .val (.long jp2), .second, .val (.long jp3), .second, .val (.int ip4), .val (.int ip5), .val (.int (3 : Int32)), .val (.int n11), .val (.ref b1), .val (.ref b8), .val (.ref b15), .val (.ref b22), .val (.ref b26), .val (.ref b5001), .val (.ref b5032), .val (.ref b5022), .val (.int (0 : Int32))] [(.ref b22), (.long d1), (.long jp1)])
                    refine own_st (fun t k => XS.iload X5258.here hx rfl (hb hby at_332) rfl k) ?_
                    refine own_st (own_laload X5258 hx hZ rfl f5260 (j := (0 : Int32)) (v := (.long jp0)) ⟨by decide, by decide⟩ rfl (g := (mkF m 334 #[.val (.long jp0), .second, .val (.long jp1), .second, .val (.long jp2), .second, .val (.long jp3), .second, .val (.int ip4), .val (.int ip5), .val (.int (3 : Int32)), .val (.int n11), .val (.ref b1), .val (.ref b8), .val (.ref b15), .val (.ref b22), .val (.ref b26), .val (.ref b5001), .val (.ref b5032), .val (.ref b5022), .val (.int (0 : Int32))] [(.int (0 : Int32)), (.ref b22), (.long d1), (.long jp1)])) rfl rfl (hb hby at_334)) ?_
                    refine own_st (fun t k => XS.aload X5258.here hx rfl (hb hby at_335) rfl rfl k) ?_
                    show own_Go _ _ _ _ T5258 (mkF m 337 #[.val (.long jp0), .second, .val (.long jp1), .second, .val (.long jp2), .second, .val (.long jp3), .second, .val (.int ip4), .val (.int ip5), .val (.int (3 : Int32)), .val (.int n11), .val (.ref b1), .val (.ref b8), .val (.ref b15), .val (.ref b22), .val (.ref b26), .val (.ref b5001), .val (.ref b5032), .val (.ref b5022), .val (.int (0 : Int32))] [(.ref b26), (.long jp0), (.long d1), (.long jp1)])
                    refine own_st (fun t k => XS.iload X5258.here hx rfl (hb hby at_337) rfl k) ?_
                    refine own_st (own_laload X5258 hx hZ rfl f5261 (j := (0 : Int32)) (v := (.long d0)) ⟨by decide, by decide⟩ rfl (g := (mkF m 339 #[.val (.long jp0), .second, .val (.long jp1), .second, .val (.long jp2), .second, .val (.long jp3), .second, .val (.int ip4), .val (.int ip5), .val (.int (3 : Int32)), .val (.int n11), .val (.ref b1), .val (.ref b8), .val (.ref b15), .val (.ref b22), .val (.ref b26), .val (.ref b5001), .val (.ref b5032), .val (.ref b5022), .val (.int (0 : Int32))] [(.int (0 : Int32)), (.ref b26), (.long jp0), (.long d1), (.long jp1)])) rfl rfl (hb hby at_339)) ?_
                    refine own_cS X5258 hx hZ hown (own_w hw 149 rfl) (own_w hw 150 rfl) (own_w hw 151 rfl) (own_w hw 152 rfl) [(.long jp1), (.long d1), (.long jp0), (.long d0)] [] (own_rm22 l Z a0 hw [] jp1 d1 jp0 d0 T5258.heap n0 Z5258 ) 0 (hb hby at_340) (by rw [hml]; rfl) (lenOf own_pd16 rfl) rfl rfl rfl (by show 2 * 0 + _ ≤ _; exact Nat.le_of_eq rfl) (by decide) (by decide) (by decide) (by decide) (by decide) fun v5262 T5262 L5262 X5262 hQ5262 => ?_
                    obtain ⟨N5262q, e5262, hL5262⟩ := hQ5262
                    have N5262 := Fr.app N5258 N5262q
                    rcases hL5262 with ⟨rfl, hq5262_0_0, -⟩ | ⟨rfl, hq5262_1_0, -⟩
                    · skip
                      show own_Go _ _ _ _ T5262 (mkF m 343 #[.val (.long jp0), .second, .val (.long jp1), .second, .val (.long jp2), .second, .val (.long jp3), .second, .val (.int ip4), .val (.int ip5), .val (.int (3 : Int32)), .val (.int n11), .val (.ref b1), .val (.ref b8), .val (.ref b15), .val (.ref b22), .val (.ref b26), .val (.ref b5001), .val (.ref b5032), .val (.ref b5022), .val (.int (0 : Int32))] [(.int (1 : Int32))])
                      refine own_st (fun t k => XS.ifNo X5262.here hx rfl (hb hby at_343) rfl ((if0 _ _).trans (feq (by decide : ¬ ((1 : Int32) = (0 : Int32)))).1) (XS.iconst X5262.here hx rfl (hb hby at_346) (XS.istore X5262.here hx rfl (hb hby at_347) rfl (l' := #[.val (.long jp0), .second, .val (.long jp1), .second, .val (.long jp2), .second, .val (.long jp3), .second, .val (.int ip4), .val (.int ip5), .val (.int (3 : Int32)), .val (.int n11), .val (.ref b1), .val (.ref b8), .val (.ref b15), .val (.ref b22), .val (.ref b26), .val (.ref b5001), .val (.ref b5032), .val (.ref b5022), .val (.int (1 : Int32))]) rfl k))) ?_
                      show own_Go _ _ _ _ T5262 (mkF m 349 #[.val (.long jp0), .second, .val (.long jp1), .second, .val (.long jp2), .second, .val (.long jp3), .second, .val (.int ip4), .val (.int ip5), .val (.int (3 : Int32)), .val (.int n11), .val (.ref b1), .val (.ref b8), .val (.ref b15), .val (.ref b22), .val (.ref b26), .val (.ref b5001), .val (.ref b5032), .val (.ref b5022), .val (.int (1 : Int32))] [])
                      refine own_st (fun t k => XS.iload X5262.here hx rfl (hb hby at_349) rfl (XS.iconst X5262.here hx rfl (hb hby at_351) (XS.icmpNo X5262.here hx rfl (hb hby at_352) rfl (tlt (by decide : (2 : Int32) < (3 : Int32))).2.2.2 k))) ?_
                      show own_Go _ _ _ _ T5262 (mkF m 355 #[.val (.long jp0), .second, .val (.long jp1), .second, .val (.long jp2), .second, .val (.long jp3), .second, .val (.int ip4), .val (.int ip5), .val (.int (3 : Int32)), .val (.int n11), .val (.ref b1), .val (.ref b8), .val (.ref b15), .val (.ref b22), .val (.ref b26), .val (.ref b5001), .val (.ref b5032), .val (.ref b5022), .val (.int (1 : Int32))] [])
                      refine own_st (fun t k => XS.aload X5262.here hx rfl (hb hby at_355) rfl rfl (XS.iconst X5262.here hx rfl (hb hby at_357) k)) ?_
                      refine own_st (own_laload X5262 hx hZ e5262 f5260 (j := (2 : Int32)) (v := (.long jp2)) ⟨by decide, by decide⟩ rfl (g := (mkF m 358 #[.val (.long jp0), .second, .val (.long jp1), .second, .val (.long jp2), .second, .val (.long jp3), .second, .val (.int ip4), .val (.int ip5), .val (.int (3 : Int32)), .val (.int n11), .val (.ref b1), .val (.ref b8), .val (.ref b15), .val (.ref b22), .val (.ref b26), .val (.ref b5001), .val (.ref b5032), .val (.ref b5022), .val (.int (1 : Int32))] [(.int (2 : Int32)), (.ref b22)])) rfl rfl (hb hby at_358)) ?_
                      show own_Go _ _ _ _ T5262 (mkF m 359 #[.val (.long jp0), .second, .val (.long jp1), .second, .val (.long jp2), .second, .val (.long jp3), .second, .val (.int ip4), .val (.int ip5), .val (.int (3 : Int32)), .val (.int n11), .val (.ref b1), .val (.ref b8), .val (.ref b15), .val (.ref b22), .val (.ref b26), .val (.ref b5001), .val (.ref b5032), .val (.ref b5022), .val (.int (1 : Int32))] [(.long jp2)])
                      refine own_st (fun t k => XS.aload X5262.here hx rfl (hb hby at_359) rfl rfl (XS.iconst X5262.here hx rfl (hb hby at_361) k)) ?_
                      refine own_st (own_laload X5262 hx hZ e5262 f5261 (j := (2 : Int32)) (v := (.long d2)) ⟨by decide, by decide⟩ rfl (g := (mkF m 362 #[.val (.long jp0), .second, .val (.long jp1), .second, .val (.long jp2), .second, .val (.long jp3), .second, .val (.int ip4), .val (.int ip5), .val (.int (3 : Int32)), .val (.int n11), .val (.ref b1), .val (.ref b8), .val (.ref b15), .val (.ref b22), .val (.ref b26), .val (.ref b5001), .val (.ref b5032), .val (.ref b5022), .val (.int (1 : Int32))] [(.int (2 : Int32)), (.ref b26), (.long jp2)])) rfl rfl (hb hby at_362)) ?_
                      show own_Go _ _ _ _ T5262 (mkF m 363 #[.val (.long jp0), .second, .val (.long jp1), .second, .val (.long jp2), .second, .val (.long jp3), .second, .val (.int ip4), .val (.int ip5), .val (.int (3 : Int32)), .val (.int n11), .val (.ref b1), .val (.ref b8), .val (.ref b15), .val (.ref b22), .val (.ref b26), .val (.ref b5001), .val (.ref b5032), .val (.ref b5022), .val (.int (1 : Int32))] [(.long d2), (.long jp2)])
                      refine own_st (fun t k => XS.aload X5262.here hx rfl (hb hby at_363) rfl rfl (XS.iload X5262.here hx rfl (hb hby at_365) rfl k)) ?_
                      refine own_st (own_laload X5262 hx hZ e5262 f5260 (j := (1 : Int32)) (v := (.long jp1)) ⟨by decide, by decide⟩ rfl (g := (mkF m 367 #[.val (.long jp0), .second, .val (.long jp1), .second, .val (.long jp2), .second, .val (.long jp3), .second, .val (.int ip4), .val (.int ip5), .val (.int (3 : Int32)), .val (.int n11), .val (.ref b1), .val (.ref b8), .val (.ref b15), .val (.ref b22), .val (.ref b26), .val (.ref b5001), .val (.ref b5032), .val (.ref b5022), .val (.int (1 : Int32))] [(.int (1 : Int32)), (.ref b22), (.long d2), (.long jp2)])) rfl rfl (hb hby at_367)) ?_
                      show own_Go _ _ _ _ T5262 (mkF m 368 #[.val (.long jp0), .second, .val (.long jp1), .second, .val (.long jp2), .second, .val (.long jp3), .second, .val (.int ip4), .val (.int ip5), .val (.int (3 : Int32)), .val (.int n11), .val (.ref b1), .val (.ref b8), .val (.ref b15), .val (.ref b22), .val (.ref b26), .val (.ref b5001), .val (.ref b5032), .val (.ref b5022), .val (.int (1 : Int32))] [(.long jp1), (.long d2), (.long jp2)])
                      refine own_st (fun t k => XS.aload X5262.here hx rfl (hb hby at_368) rfl rfl (XS.iload X5262.here hx rfl (hb hby at_370) rfl k)) ?_
                      refine own_st (own_laload X5262 hx hZ e5262 f5261 (j := (1 : Int32)) (v := (.long d1)) ⟨by decide, by decide⟩ rfl (g := (mkF m 372 #[.val (.long jp0), .second, .val (.long jp1), .second, .val (.long jp2), .second, .val (.long jp3), .second, .val (.int ip4), .val (.int ip5), .val (.int (3 : Int32)), .val (.int n11), .val (.ref b1), .val (.ref b8), .val (.ref b15), .val (.ref b22), .val (.ref b26), .val (.ref b5001), .val (.ref b5032), .val (.ref b5022), .val (.int (1 : Int32))] [(.int (1 : Int32)), (.ref b26), (.long jp1), (.long d2), (.long jp2)])) rfl rfl (hb hby at_372)) ?_
                      show own_Go _ _ _ _ T5262 (mkF m 373 #[.val (.long jp0), .second, .val (.long jp1), .second, .val (.long jp2), .second, .val (.long jp3), .second, .val (.int ip4), .val (.int ip5), .val (.int (3 : Int32)), .val (.int n11), .val (.ref b1), .val (.ref b8), .val (.ref b15), .val (.ref b22), .val (.ref b26), .val (.ref b5001), .val (.ref b5032), .val (.ref b5022), .val (.int (1 : Int32))] [(.long d1), (.long jp1), (.long d2), (.long jp2)])
                      refine own_cS X5262 hx hZ hown (own_w hw 149 rfl) (own_w hw 150 rfl) (own_w hw 151 rfl) (own_w hw 152 rfl) [(.long jp2), (.long d2), (.long jp1), (.long d1)] [] (own_rm22 l Z a0 hw [] jp2 d2 jp1 d1 T5258.heap n0 Z5258 ) 0 (hb hby at_373) (by rw [hml]; rfl) (lenOf own_pd16 rfl) e5262 rfl rfl (by show 2 * 0 + _ ≤ _; exact Nat.le_of_eq rfl) (by decide) (by decide) (by decide) (by decide) (by decide) fun v5263 T5263 L5263 X5263 hQ5263 => ?_
                      obtain ⟨N5263q, e5263, hL5263⟩ := hQ5263
                      have N5263 := Fr.app N5262 N5263q
                      rcases hL5263 with ⟨rfl, hq5263_0_0, -⟩ | ⟨rfl, hq5263_1_0, -⟩
                      · skip
                        refine own_st (fun t k => XS.ifNo X5263.here hx rfl (hb hby at_376) rfl ((if0 _ _).trans (feq (by decide : ¬ ((1 : Int32) = (0 : Int32)))).1) (XS.iconst X5263.here hx rfl (hb hby at_379) k)) ?_
                        show own_Go _ _ _ _ T5263 (mkF m 380 #[.val (.long jp0), .second, .val (.long jp1), .second, .val (.long jp2), .second, .val (.long jp3), .second, .val (.int ip4), .val (.int ip5), .val (.int (3 : Int32)), .val (.int n11), .val (.ref b1), .val (.ref b8), .val (.ref b15), .val (.ref b22), .val (.ref b26), .val (.ref b5001), .val (.ref b5032), .val (.ref b5022), .val (.int (1 : Int32))] [(.int (2 : Int32))])
                        refine own_st (fun t k => XS.istore X5263.here hx rfl (hb hby at_380) rfl (l' := #[.val (.long jp0), .second, .val (.long jp1), .second, .val (.long jp2), .second, .val (.long jp3), .second, .val (.int ip4), .val (.int ip5), .val (.int (3 : Int32)), .val (.int n11), .val (.ref b1), .val (.ref b8), .val (.ref b15), .val (.ref b22), .val (.ref b26), .val (.ref b5001), .val (.ref b5032), .val (.ref b5022), .val (.int (2 : Int32))]) rfl (XS.aload X5263.here hx rfl (hb hby at_382) rfl rfl (XS.aload X5263.here hx rfl (hb hby at_384) rfl rfl k))) ?_
                        show own_Go _ _ _ _ T5263 (mkF m 386 #[.val (.long jp0), .second, .val (.long jp1), .second, .val (.long jp2), .second, .val (.long jp3), .second, .val (.int ip4), .val (.int ip5), .val (.int (3 : Int32)), .val (.int n11), .val (.ref b1), .val (.ref b8), .val (.ref b15), .val (.ref b22), .val (.ref b26), .val (.ref b5001), .val (.ref b5032), .val (.ref b5022), .val (.int (2 : Int32))] [(.ref b5001), (.ref b5022)])
                        refine own_st (fun t k => XS.iload X5263.here hx rfl (hb hby at_386) rfl k) ?_
                        have f5264 := ((f5205.keep Kq5240 (ninS ne5123 (ninS ne5122 (ninS ne5108 nin0)))).keep Kq5258 nin0)
                        refine own_st (own_aaload X5263 hx hZ e5263 f5264 rfl (j := (2 : Int32)) (v := (.ref b5022)) ⟨by decide, by decide⟩ rfl (g := (mkF m 388 #[.val (.long jp0), .second, .val (.long jp1), .second, .val (.long jp2), .second, .val (.long jp3), .second, .val (.int ip4), .val (.int ip5), .val (.int (3 : Int32)), .val (.int n11), .val (.ref b1), .val (.ref b8), .val (.ref b15), .val (.ref b22), .val (.ref b26), .val (.ref b5001), .val (.ref b5032), .val (.ref b5022), .val (.int (2 : Int32))] [(.int (2 : Int32)), (.ref b5001), (.ref b5022)])) rfl rfl (hb hby at_388)) ?_
                        refine own_st (fun t k => Jvm.RoadKit.acmp (g := (mkF m 389 #[.val (.long jp0), .second, .val (.long jp1), .second, .val (.long jp2), .second, .val (.long jp3), .second, .val (.int ip4), .val (.int ip5), .val (.int (3 : Int32)), .val (.int n11), .val (.ref b1), .val (.ref b8), .val (.ref b15), .val (.ref b22), .val (.ref b26), .val (.ref b5001), .val (.ref b5032), .val (.ref b5022), .val (.int (2 : Int32))] [(.ref b5022), (.ref b5022)])) X5263 hx rfl rfl rfl (pc0 := 389) (pc' := 392) (same := true) rfl (hb hby at_389) rfl (decide_eq_true (congrArg Value.ref (rfl : b5022 = b5022))) (by decide) (by decide) k) ?_
                        show own_Go _ _ _ _ T5263 (mkF m 392 #[.val (.long jp0), .second, .val (.long jp1), .second, .val (.long jp2), .second, .val (.long jp3), .second, .val (.int ip4), .val (.int ip5), .val (.int (3 : Int32)), .val (.int n11), .val (.ref b1), .val (.ref b8), .val (.ref b15), .val (.ref b22), .val (.ref b26), .val (.ref b5001), .val (.ref b5032), .val (.ref b5022), .val (.int (2 : Int32))] [])
                        refine own_st (fun t k => XS.iconst X5263.here hx rfl (hb hby at_392) (XS.goto X5263.here hx rfl (pc0 := 393) (pc' := 397) rfl (hb hby at_393) (by decide) (by decide) k)) ?_
                        exact own_retZ X5263 hx hlk (t := .boolean) hret (by simp) (hb hby at_397) (by decide) (by decide) e5263 ⟨rfl, N5263⟩
                      · skip
                        exact absurd (own_o13 hq5144_1_0 hq5240_2_0 hq5240_2_1 hq5262_0_0 hd01 hd02 hd12) hq5263_1_0
                    · skip
                      exact absurd (own_o12 hq5144_1_0 hq5240_2_0 hq5240_2_1 hd01 hd02 hd12) hq5262_1_0
theorem own_ef0 (m : MethodId) (x0 : Int64) (x1 : Int64) (x2 : Int64) (x3 : Int64) (x4 : Int32) (x5 : Int32) : entryFrame m #[(.long x0), (.long x1), (.long x2), (.long x3), (.int x4), (.int x5)] maxLocals = mkF m 0 #[.val (.long x0), .second, .val (.long x1), .second, .val (.long x2), .second, .val (.long x3), .second, .val (.int x4), .val (.int x5), .unset, .unset, .unset, .unset, .unset, .unset, .unset, .unset, .unset, .unset, .unset] [] := by first | (simp [entryFrame, mkF, argsToLocals, Value.category, maxLocals]; done) | rfl
set_option maxRecDepth 65536 in
set_option maxHeartbeats 40000000 in
theorem own_rm0 (l : Launch) (Z : State) (a0 : Array Value) (hw : ∀ d ∈ tables_1, d.before a0 Z = true) (ws : List Jvm.Cond) (jp0 : Int64) (jp1 : Int64) (jp2 : Int64) (jp3 : Int64) (ip4 : Int32) (ip5 : Int32) (w_NONE : Addr) (w_EMPTY : Addr) (w_EMPTY_parts : Addr) (w_NONE_names : Addr) (k_w_EMPTY_parts : ClassId) (k_w_NONE_names : ClassId) (h0 : Heap) (n0 : Nat) (Z0 : n0 ≤ h0.size) (S_NONE : Sta Z h0 own_s3 "NONE" "Lcom/example/lonborg/lonborg/Resources;" (.ref w_NONE)) (E_w_NONE : Exa Z h0 w_NONE own_s3) (S_EMPTY : Sta Z h0 own_s2 "EMPTY" own_s6 (.ref w_EMPTY)) (E_w_EMPTY : Exa Z h0 w_EMPTY own_s2) (F_parts_w_EMPTY : Fld Z h0 w_EMPTY own_s2 "parts" own_s8 (.ref w_EMPTY_parts)) (F_names_w_NONE : Fld Z h0 w_NONE own_s3 "names" "[Ljava/lang/String;" (.ref w_NONE_names)) (V_w_EMPTY_parts : Arv Z h0 w_EMPTY_parts k_w_EMPTY_parts (.object own_s3) (0 : Int32) [] .null) (V_w_NONE_names : Arv Z h0 w_NONE_names k_w_NONE_names (.object "java/lang/String") (0 : Int32) [] .null) :
    MetFree l x (head1 (Jvm.Cond.code x code maxLocals ret :: ws) room_1) (fun a U => a = #[(.long jp0), (.long jp1), (.long jp2), (.long jp3), (.int ip4), (.int ip5)] ∧ Z.Warmed39 U.vm ∧ U.heap = h0) (fun _ _ _ _ _ => True) (fun _ U o U' => ∃ v L, o = .returned v ∧ own_Q0 n0 v U'.heap L ∧ FrameEnd U o U' L room_1.cells room_1.slots) := by
  refine MetFree.of_bodySF (plainFor_of_name own_pn6) hisR ?_
  intro p e s m args below meth c s₁ Bd hml0 hP hK
  obtain ⟨rfl, hZ, hh⟩ := hP
  have hx := Bd.exec
  have hlk := Bd.notSynchronized
  have hret := Bd.returns
  have hby := Bd.bytes
  have hml : c.maxLocals = 21 := hml0
  have hown : s.vm.findClass "com/example/lonborg/lonborg/ItemTreeFirstPinLaw" = some m.cls := findClass_of_methodNamed Bd.named
  have hnm := (name_of_methodNamed Bd.named Bd.method).1
  have X0 : Stand p l e room_1 s m #[(.long jp0), (.long jp1), (.long jp2), (.long jp3), (.int ip4), (.int ip5)] below meth c s₁ [] 0 0 := Stand.of_body Bd
  have e0 : s₁.heap = h0 := by rw [← hh, Bd.state]; rfl
  have N0 := Fr.nil n0
  refine own_open (Q := own_Q0 n0) (own_ef0 m jp0 jp1 jp2 jp3 ip4 ip5) ?_
  refine own_st (fun t k => XS.iload X0.here hx rfl (hb hby at_0) rfl k) ?_
  refine own_st (X0.ldcInt hx hown (mvT hZ (own_w hw 0 rfl)) (g := (mkF m 2 #[.val (.long jp0), .second, .val (.long jp1), .second, .val (.long jp2), .second, .val (.long jp3), .second, .val (.int ip4), .val (.int ip5), .unset, .unset, .unset, .unset, .unset, .unset, .unset, .unset, .unset, .unset, .unset] [(.int ip5)])) rfl (hb hby at_2)) ?_
  show own_Go _ _ _ _ s₁ (mkF m 4 #[.val (.long jp0), .second, .val (.long jp1), .second, .val (.long jp2), .second, .val (.long jp3), .second, .val (.int ip4), .val (.int ip5), .unset, .unset, .unset, .unset, .unset, .unset, .unset, .unset, .unset, .unset, .unset] [(.int (2147483647 : Int32)), (.int ip5)])
  refine own_st (fun t k => XS.iand X0.here hx rfl (hb hby at_4) rfl (XS.iconst X0.here hx rfl (hb hby at_5) (iremM X0 hx rfl (hb hby at_6) rfl (by decide) k))) ?_
  show own_Go _ _ _ _ s₁ (mkF m 7 #[.val (.long jp0), .second, .val (.long jp1), .second, .val (.long jp2), .second, .val (.long jp3), .second, .val (.int ip4), .val (.int ip5), .unset, .unset, .unset, .unset, .unset, .unset, .unset, .unset, .unset, .unset, .unset] [(.int ((ip5 &&& (2147483647 : Int32)) % (4 : Int32)))])
  refine own_st (fun t k => XS.istore X0.here hx rfl (hb hby at_7) rfl (l' := #[.val (.long jp0), .second, .val (.long jp1), .second, .val (.long jp2), .second, .val (.long jp3), .second, .val (.int ip4), .val (.int ip5), .val (.int ((ip5 &&& (2147483647 : Int32)) % (4 : Int32))), .unset, .unset, .unset, .unset, .unset, .unset, .unset, .unset, .unset, .unset]) rfl (XS.iload X0.here hx rfl (hb hby at_9) rfl k)) ?_
  refine own_st (X0.ldcInt hx hown (mvT hZ (own_w hw 0 rfl)) (g := (mkF m 11 #[.val (.long jp0), .second, .val (.long jp1), .second, .val (.long jp2), .second, .val (.long jp3), .second, .val (.int ip4), .val (.int ip5), .val (.int ((ip5 &&& (2147483647 : Int32)) % (4 : Int32))), .unset, .unset, .unset, .unset, .unset, .unset, .unset, .unset, .unset, .unset] [(.int ip4)])) rfl (hb hby at_11)) ?_
  show own_Go _ _ _ _ s₁ (mkF m 13 #[.val (.long jp0), .second, .val (.long jp1), .second, .val (.long jp2), .second, .val (.long jp3), .second, .val (.int ip4), .val (.int ip5), .val (.int ((ip5 &&& (2147483647 : Int32)) % (4 : Int32))), .unset, .unset, .unset, .unset, .unset, .unset, .unset, .unset, .unset, .unset] [(.int (2147483647 : Int32)), (.int ip4)])
  refine own_st (fun t k => XS.iand X0.here hx rfl (hb hby at_13) rfl (XS.bipush X0.here hx rfl (hb hby at_14) (iremM X0 hx rfl (hb hby at_16) rfl (by decide) k))) ?_
  show own_Go _ _ _ _ s₁ (mkF m 17 #[.val (.long jp0), .second, .val (.long jp1), .second, .val (.long jp2), .second, .val (.long jp3), .second, .val (.int ip4), .val (.int ip5), .val (.int ((ip5 &&& (2147483647 : Int32)) % (4 : Int32))), .unset, .unset, .unset, .unset, .unset, .unset, .unset, .unset, .unset, .unset] [(.int ((ip4 &&& (2147483647 : Int32)) % (6 : Int32)))])
  refine own_st (fun t k => XS.istore X0.here hx rfl (hb hby at_17) rfl (l' := #[.val (.long jp0), .second, .val (.long jp1), .second, .val (.long jp2), .second, .val (.long jp3), .second, .val (.int ip4), .val (.int ip5), .val (.int ((ip5 &&& (2147483647 : Int32)) % (4 : Int32))), .val (.int ((ip4 &&& (2147483647 : Int32)) % (6 : Int32))), .unset, .unset, .unset, .unset, .unset, .unset, .unset, .unset, .unset]) rfl (XS.bipush X0.here hx rfl (hb hby at_19) k)) ?_
  obtain ⟨T1, h1, k1, X1, e1, E1, A1, Ex1, st1⟩ := newPE X0 hx hZ (own_w hw 1 rfl) e0 (g := (mkF m 21 #[.val (.long jp0), .second, .val (.long jp1), .second, .val (.long jp2), .second, .val (.long jp3), .second, .val (.int ip4), .val (.int ip5), .val (.int ((ip5 &&& (2147483647 : Int32)) % (4 : Int32))), .val (.int ((ip4 &&& (2147483647 : Int32)) % (6 : Int32))), .unset, .unset, .unset, .unset, .unset, .unset, .unset, .unset, .unset] [(.int (6 : Int32))])) rfl (hb hby at_21) rfl (by decide) (cap := 6) (by decide) (by decide) (by decide) (by decide) (ad := "[I") (by decide +kernel)
  obtain ⟨b1, g1⟩ : ∃ z, z = h0.size := ⟨_, rfl⟩
  rw [← g1] at A1 Ex1 st1
  have g_b1 : n0 ≤ b1 := Nat.le_trans Z0 (Nat.le_of_eq g1.symm)
  have sz_b1 : h0.size ≤ b1 := Nat.le_trans (Keep.refl h0 []).1 (Nat.le_of_eq g1.symm)
  refine own_st st1 ?_
  have K1 : Keep h0 h1 [] := (Keep.refl h0 []).ext E1
  have Z1 := Nat.le_trans Z0 E1.1
  have V1 : Arv Z h1 b1 k1 .int (6 : Int32) [(.int (0 : Int32)), (.int (0 : Int32)), (.int (0 : Int32)), (.int (0 : Int32)), (.int (0 : Int32)), (.int (0 : Int32))] (.int (0 : Int32)) := (Arv.new A1 (by decide)).pad (pad_rep [] (.int (0 : Int32)) 6)
  show own_Go _ _ _ _ T1 (mkF m 23 #[.val (.long jp0), .second, .val (.long jp1), .second, .val (.long jp2), .second, .val (.long jp3), .second, .val (.int ip4), .val (.int ip5), .val (.int ((ip5 &&& (2147483647 : Int32)) % (4 : Int32))), .val (.int ((ip4 &&& (2147483647 : Int32)) % (6 : Int32))), .unset, .unset, .unset, .unset, .unset, .unset, .unset, .unset, .unset] [(.ref b1)])
  refine own_st (fun t k => XS.dup X1.here hx rfl (hb hby at_23) rfl rfl (XS.iconst X1.here hx rfl (hb hby at_24) (XS.iconst X1.here hx rfl (hb hby at_25) k))) ?_
  show own_Go _ _ _ _ T1 (mkF m 26 #[.val (.long jp0), .second, .val (.long jp1), .second, .val (.long jp2), .second, .val (.long jp3), .second, .val (.int ip4), .val (.int ip5), .val (.int ((ip5 &&& (2147483647 : Int32)) % (4 : Int32))), .val (.int ((ip4 &&& (2147483647 : Int32)) % (6 : Int32))), .unset, .unset, .unset, .unset, .unset, .unset, .unset, .unset, .unset] [(.int (0 : Int32)), (.int (0 : Int32)), (.ref b1), (.ref b1)])
  obtain ⟨c2, A2, q2, S2, M2, H2, G2⟩ := V1
  obtain ⟨T2, h2, X2, e2, W2, st2⟩ := stI X1 hx hZ e1 A2 (j := (0 : Int32)) (inb_of S2 ⟨by decide, by decide⟩) (g := (mkF m 26 #[.val (.long jp0), .second, .val (.long jp1), .second, .val (.long jp2), .second, .val (.long jp3), .second, .val (.int ip4), .val (.int ip5), .val (.int ((ip5 &&& (2147483647 : Int32)) % (4 : Int32))), .val (.int ((ip4 &&& (2147483647 : Int32)) % (6 : Int32))), .unset, .unset, .unset, .unset, .unset, .unset, .unset, .unset, .unset] [(.int (0 : Int32)), (.int (0 : Int32)), (.ref b1), (.ref b1)])) rfl rfl (hb hby at_26)
  refine own_st st2 ?_
  have K2 : Keep h0 h2 [] := K1.wr W2 (Or.inr sz_b1)
  have Z2 := Nat.le_trans Z1 (Keep.of_wr W2).1
  have N2 := Fr.snoc X2 N0 g_b1
  have V2 : Arv Z h2 b1 k1 .int (6 : Int32) [(.int (0 : Int32)), (.int (0 : Int32)), (.int (0 : Int32)), (.int (0 : Int32)), (.int (0 : Int32)), (.int (0 : Int32))] (.int (0 : Int32)) := Arv.set A2 q2 S2 M2 H2 G2 rfl W2 0 rfl (Nat.le_of_ble_eq_true rfl)
  refine own_st (fun t k => XS.dup X2.here hx rfl (hb hby at_27) rfl rfl (XS.iconst X2.here hx rfl (hb hby at_28) k)) ?_
  show own_Go _ _ _ _ T2 (mkF m 29 #[.val (.long jp0), .second, .val (.long jp1), .second, .val (.long jp2), .second, .val (.long jp3), .second, .val (.int ip4), .val (.int ip5), .val (.int ((ip5 &&& (2147483647 : Int32)) % (4 : Int32))), .val (.int ((ip4 &&& (2147483647 : Int32)) % (6 : Int32))), .unset, .unset, .unset, .unset, .unset, .unset, .unset, .unset, .unset] [(.int (1 : Int32)), (.ref b1), (.ref b1)])
  refine own_st (fun t k => XS.iconst X2.here hx rfl (hb hby at_29) k) ?_
  obtain ⟨c3, A3, q3, S3, M3, H3, G3⟩ := V2
  obtain ⟨T3, h3, X3, e3, W3, st3⟩ := stI X2 hx hZ e2 A3 (j := (1 : Int32)) (inb_of S3 ⟨by decide, by decide⟩) (g := (mkF m 30 #[.val (.long jp0), .second, .val (.long jp1), .second, .val (.long jp2), .second, .val (.long jp3), .second, .val (.int ip4), .val (.int ip5), .val (.int ((ip5 &&& (2147483647 : Int32)) % (4 : Int32))), .val (.int ((ip4 &&& (2147483647 : Int32)) % (6 : Int32))), .unset, .unset, .unset, .unset, .unset, .unset, .unset, .unset, .unset] [(.int (0 : Int32)), (.int (1 : Int32)), (.ref b1), (.ref b1)])) rfl rfl (hb hby at_30)
  refine own_st st3 ?_
  have K3 : Keep h0 h3 [] := K2.wr W3 (Or.inr sz_b1)
  have Z3 := Nat.le_trans Z2 (Keep.of_wr W3).1
  have N3 := Fr.snoc X3 N2 g_b1
  have V3 : Arv Z h3 b1 k1 .int (6 : Int32) [(.int (0 : Int32)), (.int (0 : Int32)), (.int (0 : Int32)), (.int (0 : Int32)), (.int (0 : Int32)), (.int (0 : Int32))] (.int (0 : Int32)) := Arv.set A3 q3 S3 M3 H3 G3 rfl W3 1 rfl (Nat.le_of_ble_eq_true rfl)
  refine own_st (fun t k => XS.dup X3.here hx rfl (hb hby at_31) rfl rfl k) ?_
  show own_Go _ _ _ _ T3 (mkF m 32 #[.val (.long jp0), .second, .val (.long jp1), .second, .val (.long jp2), .second, .val (.long jp3), .second, .val (.int ip4), .val (.int ip5), .val (.int ((ip5 &&& (2147483647 : Int32)) % (4 : Int32))), .val (.int ((ip4 &&& (2147483647 : Int32)) % (6 : Int32))), .unset, .unset, .unset, .unset, .unset, .unset, .unset, .unset, .unset] [(.ref b1), (.ref b1)])
  refine own_st (fun t k => XS.iconst X3.here hx rfl (hb hby at_32) (XS.iconst X3.here hx rfl (hb hby at_33) k)) ?_
  obtain ⟨c4, A4, q4, S4, M4, H4, G4⟩ := V3
  obtain ⟨T4, h4, X4, e4, W4, st4⟩ := stI X3 hx hZ e3 A4 (j := (2 : Int32)) (inb_of S4 ⟨by decide, by decide⟩) (g := (mkF m 34 #[.val (.long jp0), .second, .val (.long jp1), .second, .val (.long jp2), .second, .val (.long jp3), .second, .val (.int ip4), .val (.int ip5), .val (.int ((ip5 &&& (2147483647 : Int32)) % (4 : Int32))), .val (.int ((ip4 &&& (2147483647 : Int32)) % (6 : Int32))), .unset, .unset, .unset, .unset, .unset, .unset, .unset, .unset, .unset] [(.int (1 : Int32)), (.int (2 : Int32)), (.ref b1), (.ref b1)])) rfl rfl (hb hby at_34)
  refine own_st st4 ?_
  have K4 : Keep h0 h4 [] := K3.wr W4 (Or.inr sz_b1)
  have Z4 := Nat.le_trans Z3 (Keep.of_wr W4).1
  have N4 := Fr.snoc X4 N3 g_b1
  have V4 : Arv Z h4 b1 k1 .int (6 : Int32) [(.int (0 : Int32)), (.int (0 : Int32)), (.int (1 : Int32)), (.int (0 : Int32)), (.int (0 : Int32)), (.int (0 : Int32))] (.int (0 : Int32)) := Arv.set A4 q4 S4 M4 H4 G4 rfl W4 2 rfl (Nat.le_of_ble_eq_true rfl)
  show own_Go _ _ _ _ T4 (mkF m 35 #[.val (.long jp0), .second, .val (.long jp1), .second, .val (.long jp2), .second, .val (.long jp3), .second, .val (.int ip4), .val (.int ip5), .val (.int ((ip5 &&& (2147483647 : Int32)) % (4 : Int32))), .val (.int ((ip4 &&& (2147483647 : Int32)) % (6 : Int32))), .unset, .unset, .unset, .unset, .unset, .unset, .unset, .unset, .unset] [(.ref b1)])
  refine own_st (fun t k => XS.dup X4.here hx rfl (hb hby at_35) rfl rfl (XS.iconst X4.here hx rfl (hb hby at_36) (XS.iconst X4.here hx rfl (hb hby at_37) k))) ?_
  show own_Go _ _ _ _ T4 (mkF m 38 #[.val (.long jp0), .second, .val (.long jp1), .second, .val (.long jp2), .second, .val (.long jp3), .second, .val (.int ip4), .val (.int ip5), .val (.int ((ip5 &&& (2147483647 : Int32)) % (4 : Int32))), .val (.int ((ip4 &&& (2147483647 : Int32)) % (6 : Int32))), .unset, .unset, .unset, .unset, .unset, .unset, .unset, .unset, .unset] [(.int (1 : Int32)), (.int (3 : Int32)), (.ref b1), (.ref b1)])
  obtain ⟨c5, A5, q5, S5, M5, H5, G5⟩ := V4
  obtain ⟨T5, h5, X5, e5, W5, st5⟩ := stI X4 hx hZ e4 A5 (j := (3 : Int32)) (inb_of S5 ⟨by decide, by decide⟩) (g := (mkF m 38 #[.val (.long jp0), .second, .val (.long jp1), .second, .val (.long jp2), .second, .val (.long jp3), .second, .val (.int ip4), .val (.int ip5), .val (.int ((ip5 &&& (2147483647 : Int32)) % (4 : Int32))), .val (.int ((ip4 &&& (2147483647 : Int32)) % (6 : Int32))), .unset, .unset, .unset, .unset, .unset, .unset, .unset, .unset, .unset] [(.int (1 : Int32)), (.int (3 : Int32)), (.ref b1), (.ref b1)])) rfl rfl (hb hby at_38)
  refine own_st st5 ?_
  have K5 : Keep h0 h5 [] := K4.wr W5 (Or.inr sz_b1)
  have Z5 := Nat.le_trans Z4 (Keep.of_wr W5).1
  have N5 := Fr.snoc X5 N4 g_b1
  have V5 : Arv Z h5 b1 k1 .int (6 : Int32) [(.int (0 : Int32)), (.int (0 : Int32)), (.int (1 : Int32)), (.int (1 : Int32)), (.int (0 : Int32)), (.int (0 : Int32))] (.int (0 : Int32)) := Arv.set A5 q5 S5 M5 H5 G5 rfl W5 3 rfl (Nat.le_of_ble_eq_true rfl)
  refine own_st (fun t k => XS.dup X5.here hx rfl (hb hby at_39) rfl rfl (XS.iconst X5.here hx rfl (hb hby at_40) k)) ?_
  show own_Go _ _ _ _ T5 (mkF m 41 #[.val (.long jp0), .second, .val (.long jp1), .second, .val (.long jp2), .second, .val (.long jp3), .second, .val (.int ip4), .val (.int ip5), .val (.int ((ip5 &&& (2147483647 : Int32)) % (4 : Int32))), .val (.int ((ip4 &&& (2147483647 : Int32)) % (6 : Int32))), .unset, .unset, .unset, .unset, .unset, .unset, .unset, .unset, .unset] [(.int (4 : Int32)), (.ref b1), (.ref b1)])
  refine own_st (fun t k => XS.iconst X5.here hx rfl (hb hby at_41) k) ?_
  obtain ⟨c6, A6, q6, S6, M6, H6, G6⟩ := V5
  obtain ⟨T6, h6, X6, e6, W6, st6⟩ := stI X5 hx hZ e5 A6 (j := (4 : Int32)) (inb_of S6 ⟨by decide, by decide⟩) (g := (mkF m 42 #[.val (.long jp0), .second, .val (.long jp1), .second, .val (.long jp2), .second, .val (.long jp3), .second, .val (.int ip4), .val (.int ip5), .val (.int ((ip5 &&& (2147483647 : Int32)) % (4 : Int32))), .val (.int ((ip4 &&& (2147483647 : Int32)) % (6 : Int32))), .unset, .unset, .unset, .unset, .unset, .unset, .unset, .unset, .unset] [(.int (2 : Int32)), (.int (4 : Int32)), (.ref b1), (.ref b1)])) rfl rfl (hb hby at_42)
  refine own_st st6 ?_
  have K6 : Keep h0 h6 [] := K5.wr W6 (Or.inr sz_b1)
  have Z6 := Nat.le_trans Z5 (Keep.of_wr W6).1
  have N6 := Fr.snoc X6 N5 g_b1
  have V6 : Arv Z h6 b1 k1 .int (6 : Int32) [(.int (0 : Int32)), (.int (0 : Int32)), (.int (1 : Int32)), (.int (1 : Int32)), (.int (2 : Int32)), (.int (0 : Int32))] (.int (0 : Int32)) := Arv.set A6 q6 S6 M6 H6 G6 rfl W6 4 rfl (Nat.le_of_ble_eq_true rfl)
  refine own_st (fun t k => XS.dup X6.here hx rfl (hb hby at_43) rfl rfl k) ?_
  show own_Go _ _ _ _ T6 (mkF m 44 #[.val (.long jp0), .second, .val (.long jp1), .second, .val (.long jp2), .second, .val (.long jp3), .second, .val (.int ip4), .val (.int ip5), .val (.int ((ip5 &&& (2147483647 : Int32)) % (4 : Int32))), .val (.int ((ip4 &&& (2147483647 : Int32)) % (6 : Int32))), .unset, .unset, .unset, .unset, .unset, .unset, .unset, .unset, .unset] [(.ref b1), (.ref b1)])
  refine own_st (fun t k => XS.iconst X6.here hx rfl (hb hby at_44) (XS.iconst X6.here hx rfl (hb hby at_45) k)) ?_
  obtain ⟨c7, A7, q7, S7, M7, H7, G7⟩ := V6
  obtain ⟨T7, h7, X7, e7, W7, st7⟩ := stI X6 hx hZ e6 A7 (j := (5 : Int32)) (inb_of S7 ⟨by decide, by decide⟩) (g := (mkF m 46 #[.val (.long jp0), .second, .val (.long jp1), .second, .val (.long jp2), .second, .val (.long jp3), .second, .val (.int ip4), .val (.int ip5), .val (.int ((ip5 &&& (2147483647 : Int32)) % (4 : Int32))), .val (.int ((ip4 &&& (2147483647 : Int32)) % (6 : Int32))), .unset, .unset, .unset, .unset, .unset, .unset, .unset, .unset, .unset] [(.int (2 : Int32)), (.int (5 : Int32)), (.ref b1), (.ref b1)])) rfl rfl (hb hby at_46)
  refine own_st st7 ?_
  have K7 : Keep h0 h7 [] := K6.wr W7 (Or.inr sz_b1)
  have Z7 := Nat.le_trans Z6 (Keep.of_wr W7).1
  have N7 := Fr.snoc X7 N6 g_b1
  have V7 : Arv Z h7 b1 k1 .int (6 : Int32) [(.int (0 : Int32)), (.int (0 : Int32)), (.int (1 : Int32)), (.int (1 : Int32)), (.int (2 : Int32)), (.int (2 : Int32))] (.int (0 : Int32)) := Arv.set A7 q7 S7 M7 H7 G7 rfl W7 5 rfl (Nat.le_of_ble_eq_true rfl)
  show own_Go _ _ _ _ T7 (mkF m 47 #[.val (.long jp0), .second, .val (.long jp1), .second, .val (.long jp2), .second, .val (.long jp3), .second, .val (.int ip4), .val (.int ip5), .val (.int ((ip5 &&& (2147483647 : Int32)) % (4 : Int32))), .val (.int ((ip4 &&& (2147483647 : Int32)) % (6 : Int32))), .unset, .unset, .unset, .unset, .unset, .unset, .unset, .unset, .unset] [(.ref b1)])
  refine own_st (fun t k => XS.astore X7.here hx rfl (hb hby at_47) rfl rfl (l' := #[.val (.long jp0), .second, .val (.long jp1), .second, .val (.long jp2), .second, .val (.long jp3), .second, .val (.int ip4), .val (.int ip5), .val (.int ((ip5 &&& (2147483647 : Int32)) % (4 : Int32))), .val (.int ((ip4 &&& (2147483647 : Int32)) % (6 : Int32))), .val (.ref b1), .unset, .unset, .unset, .unset, .unset, .unset, .unset, .unset]) rfl (XS.bipush X7.here hx rfl (hb hby at_49) k)) ?_
  obtain ⟨T8, h8, k8, X8, e8, E8, A8, Ex8, st8⟩ := newPE X7 hx hZ (own_w hw 1 rfl) e7 (g := (mkF m 51 #[.val (.long jp0), .second, .val (.long jp1), .second, .val (.long jp2), .second, .val (.long jp3), .second, .val (.int ip4), .val (.int ip5), .val (.int ((ip5 &&& (2147483647 : Int32)) % (4 : Int32))), .val (.int ((ip4 &&& (2147483647 : Int32)) % (6 : Int32))), .val (.ref b1), .unset, .unset, .unset, .unset, .unset, .unset, .unset, .unset] [(.int (6 : Int32))])) rfl (hb hby at_51) rfl (by decide) (cap := 6) (by decide) (by decide) (by decide) (by decide) (ad := "[I") (by decide +kernel)
  obtain ⟨b8, g8⟩ : ∃ z, z = h7.size := ⟨_, rfl⟩
  rw [← g8] at A8 Ex8 st8
  have g_b8 : n0 ≤ b8 := Nat.le_trans Z7 (Nat.le_of_eq g8.symm)
  have sz_b8 : h0.size ≤ b8 := Nat.le_trans K7.1 (Nat.le_of_eq g8.symm)
  refine own_st st8 ?_
  have K8 : Keep h0 h8 [] := K7.ext E8
  have Z8 := Nat.le_trans Z7 E8.1
  have V8 : Arv Z h8 b8 k8 .int (6 : Int32) [(.int (0 : Int32)), (.int (0 : Int32)), (.int (0 : Int32)), (.int (0 : Int32)), (.int (0 : Int32)), (.int (0 : Int32))] (.int (0 : Int32)) := (Arv.new A8 (by decide)).pad (pad_rep [] (.int (0 : Int32)) 6)
  show own_Go _ _ _ _ T8 (mkF m 53 #[.val (.long jp0), .second, .val (.long jp1), .second, .val (.long jp2), .second, .val (.long jp3), .second, .val (.int ip4), .val (.int ip5), .val (.int ((ip5 &&& (2147483647 : Int32)) % (4 : Int32))), .val (.int ((ip4 &&& (2147483647 : Int32)) % (6 : Int32))), .val (.ref b1), .unset, .unset, .unset, .unset, .unset, .unset, .unset, .unset] [(.ref b8)])
  refine own_st (fun t k => XS.dup X8.here hx rfl (hb hby at_53) rfl rfl (XS.iconst X8.here hx rfl (hb hby at_54) (XS.iconst X8.here hx rfl (hb hby at_55) k))) ?_
  show own_Go _ _ _ _ T8 (mkF m 56 #[.val (.long jp0), .second, .val (.long jp1), .second, .val (.long jp2), .second, .val (.long jp3), .second, .val (.int ip4), .val (.int ip5), .val (.int ((ip5 &&& (2147483647 : Int32)) % (4 : Int32))), .val (.int ((ip4 &&& (2147483647 : Int32)) % (6 : Int32))), .val (.ref b1), .unset, .unset, .unset, .unset, .unset, .unset, .unset, .unset] [(.int (1 : Int32)), (.int (0 : Int32)), (.ref b8), (.ref b8)])
  obtain ⟨c9, A9, q9, S9, M9, H9, G9⟩ := V8
  obtain ⟨T9, h9, X9, e9, W9, st9⟩ := stI X8 hx hZ e8 A9 (j := (0 : Int32)) (inb_of S9 ⟨by decide, by decide⟩) (g := (mkF m 56 #[.val (.long jp0), .second, .val (.long jp1), .second, .val (.long jp2), .second, .val (.long jp3), .second, .val (.int ip4), .val (.int ip5), .val (.int ((ip5 &&& (2147483647 : Int32)) % (4 : Int32))), .val (.int ((ip4 &&& (2147483647 : Int32)) % (6 : Int32))), .val (.ref b1), .unset, .unset, .unset, .unset, .unset, .unset, .unset, .unset] [(.int (1 : Int32)), (.int (0 : Int32)), (.ref b8), (.ref b8)])) rfl rfl (hb hby at_56)
  refine own_st st9 ?_
  have K9 : Keep h0 h9 [] := K8.wr W9 (Or.inr sz_b8)
  have Z9 := Nat.le_trans Z8 (Keep.of_wr W9).1
  have N9 := Fr.snoc X9 N7 g_b8
  have V9 : Arv Z h9 b8 k8 .int (6 : Int32) [(.int (1 : Int32)), (.int (0 : Int32)), (.int (0 : Int32)), (.int (0 : Int32)), (.int (0 : Int32)), (.int (0 : Int32))] (.int (0 : Int32)) := Arv.set A9 q9 S9 M9 H9 G9 rfl W9 0 rfl (Nat.le_of_ble_eq_true rfl)
  refine own_st (fun t k => XS.dup X9.here hx rfl (hb hby at_57) rfl rfl (XS.iconst X9.here hx rfl (hb hby at_58) k)) ?_
  show own_Go _ _ _ _ T9 (mkF m 59 #[.val (.long jp0), .second, .val (.long jp1), .second, .val (.long jp2), .second, .val (.long jp3), .second, .val (.int ip4), .val (.int ip5), .val (.int ((ip5 &&& (2147483647 : Int32)) % (4 : Int32))), .val (.int ((ip4 &&& (2147483647 : Int32)) % (6 : Int32))), .val (.ref b1), .unset, .unset, .unset, .unset, .unset, .unset, .unset, .unset] [(.int (1 : Int32)), (.ref b8), (.ref b8)])
  refine own_st (fun t k => XS.iconst X9.here hx rfl (hb hby at_59) k) ?_
  obtain ⟨c10, A10, q10, S10, M10, H10, G10⟩ := V9
  obtain ⟨T10, h10, X10, e10, W10, st10⟩ := stI X9 hx hZ e9 A10 (j := (1 : Int32)) (inb_of S10 ⟨by decide, by decide⟩) (g := (mkF m 60 #[.val (.long jp0), .second, .val (.long jp1), .second, .val (.long jp2), .second, .val (.long jp3), .second, .val (.int ip4), .val (.int ip5), .val (.int ((ip5 &&& (2147483647 : Int32)) % (4 : Int32))), .val (.int ((ip4 &&& (2147483647 : Int32)) % (6 : Int32))), .val (.ref b1), .unset, .unset, .unset, .unset, .unset, .unset, .unset, .unset] [(.int (2 : Int32)), (.int (1 : Int32)), (.ref b8), (.ref b8)])) rfl rfl (hb hby at_60)
  refine own_st st10 ?_
  have K10 : Keep h0 h10 [] := K9.wr W10 (Or.inr sz_b8)
  have Z10 := Nat.le_trans Z9 (Keep.of_wr W10).1
  have N10 := Fr.snoc X10 N9 g_b8
  have V10 : Arv Z h10 b8 k8 .int (6 : Int32) [(.int (1 : Int32)), (.int (2 : Int32)), (.int (0 : Int32)), (.int (0 : Int32)), (.int (0 : Int32)), (.int (0 : Int32))] (.int (0 : Int32)) := Arv.set A10 q10 S10 M10 H10 G10 rfl W10 1 rfl (Nat.le_of_ble_eq_true rfl)
  refine own_st (fun t k => XS.dup X10.here hx rfl (hb hby at_61) rfl rfl k) ?_
  show own_Go _ _ _ _ T10 (mkF m 62 #[.val (.long jp0), .second, .val (.long jp1), .second, .val (.long jp2), .second, .val (.long jp3), .second, .val (.int ip4), .val (.int ip5), .val (.int ((ip5 &&& (2147483647 : Int32)) % (4 : Int32))), .val (.int ((ip4 &&& (2147483647 : Int32)) % (6 : Int32))), .val (.ref b1), .unset, .unset, .unset, .unset, .unset, .unset, .unset, .unset] [(.ref b8), (.ref b8)])
  refine own_st (fun t k => XS.iconst X10.here hx rfl (hb hby at_62) (XS.iconst X10.here hx rfl (hb hby at_63) k)) ?_
  obtain ⟨c11, A11, q11, S11, M11, H11, G11⟩ := V10
  obtain ⟨T11, h11, X11, e11, W11, st11⟩ := stI X10 hx hZ e10 A11 (j := (2 : Int32)) (inb_of S11 ⟨by decide, by decide⟩) (g := (mkF m 64 #[.val (.long jp0), .second, .val (.long jp1), .second, .val (.long jp2), .second, .val (.long jp3), .second, .val (.int ip4), .val (.int ip5), .val (.int ((ip5 &&& (2147483647 : Int32)) % (4 : Int32))), .val (.int ((ip4 &&& (2147483647 : Int32)) % (6 : Int32))), .val (.ref b1), .unset, .unset, .unset, .unset, .unset, .unset, .unset, .unset] [(.int (0 : Int32)), (.int (2 : Int32)), (.ref b8), (.ref b8)])) rfl rfl (hb hby at_64)
  refine own_st st11 ?_
  have K11 : Keep h0 h11 [] := K10.wr W11 (Or.inr sz_b8)
  have Z11 := Nat.le_trans Z10 (Keep.of_wr W11).1
  have N11 := Fr.snoc X11 N10 g_b8
  have V11 : Arv Z h11 b8 k8 .int (6 : Int32) [(.int (1 : Int32)), (.int (2 : Int32)), (.int (0 : Int32)), (.int (0 : Int32)), (.int (0 : Int32)), (.int (0 : Int32))] (.int (0 : Int32)) := Arv.set A11 q11 S11 M11 H11 G11 rfl W11 2 rfl (Nat.le_of_ble_eq_true rfl)
  show own_Go _ _ _ _ T11 (mkF m 65 #[.val (.long jp0), .second, .val (.long jp1), .second, .val (.long jp2), .second, .val (.long jp3), .second, .val (.int ip4), .val (.int ip5), .val (.int ((ip5 &&& (2147483647 : Int32)) % (4 : Int32))), .val (.int ((ip4 &&& (2147483647 : Int32)) % (6 : Int32))), .val (.ref b1), .unset, .unset, .unset, .unset, .unset, .unset, .unset, .unset] [(.ref b8)])
  refine own_st (fun t k => XS.dup X11.here hx rfl (hb hby at_65) rfl rfl (XS.iconst X11.here hx rfl (hb hby at_66) (XS.iconst X11.here hx rfl (hb hby at_67) k))) ?_
  show own_Go _ _ _ _ T11 (mkF m 68 #[.val (.long jp0), .second, .val (.long jp1), .second, .val (.long jp2), .second, .val (.long jp3), .second, .val (.int ip4), .val (.int ip5), .val (.int ((ip5 &&& (2147483647 : Int32)) % (4 : Int32))), .val (.int ((ip4 &&& (2147483647 : Int32)) % (6 : Int32))), .val (.ref b1), .unset, .unset, .unset, .unset, .unset, .unset, .unset, .unset] [(.int (2 : Int32)), (.int (3 : Int32)), (.ref b8), (.ref b8)])
  obtain ⟨c12, A12, q12, S12, M12, H12, G12⟩ := V11
  obtain ⟨T12, h12, X12, e12, W12, st12⟩ := stI X11 hx hZ e11 A12 (j := (3 : Int32)) (inb_of S12 ⟨by decide, by decide⟩) (g := (mkF m 68 #[.val (.long jp0), .second, .val (.long jp1), .second, .val (.long jp2), .second, .val (.long jp3), .second, .val (.int ip4), .val (.int ip5), .val (.int ((ip5 &&& (2147483647 : Int32)) % (4 : Int32))), .val (.int ((ip4 &&& (2147483647 : Int32)) % (6 : Int32))), .val (.ref b1), .unset, .unset, .unset, .unset, .unset, .unset, .unset, .unset] [(.int (2 : Int32)), (.int (3 : Int32)), (.ref b8), (.ref b8)])) rfl rfl (hb hby at_68)
  refine own_st st12 ?_
  have K12 : Keep h0 h12 [] := K11.wr W12 (Or.inr sz_b8)
  have Z12 := Nat.le_trans Z11 (Keep.of_wr W12).1
  have N12 := Fr.snoc X12 N11 g_b8
  have V12 : Arv Z h12 b8 k8 .int (6 : Int32) [(.int (1 : Int32)), (.int (2 : Int32)), (.int (0 : Int32)), (.int (2 : Int32)), (.int (0 : Int32)), (.int (0 : Int32))] (.int (0 : Int32)) := Arv.set A12 q12 S12 M12 H12 G12 rfl W12 3 rfl (Nat.le_of_ble_eq_true rfl)
  refine own_st (fun t k => XS.dup X12.here hx rfl (hb hby at_69) rfl rfl (XS.iconst X12.here hx rfl (hb hby at_70) k)) ?_
  show own_Go _ _ _ _ T12 (mkF m 71 #[.val (.long jp0), .second, .val (.long jp1), .second, .val (.long jp2), .second, .val (.long jp3), .second, .val (.int ip4), .val (.int ip5), .val (.int ((ip5 &&& (2147483647 : Int32)) % (4 : Int32))), .val (.int ((ip4 &&& (2147483647 : Int32)) % (6 : Int32))), .val (.ref b1), .unset, .unset, .unset, .unset, .unset, .unset, .unset, .unset] [(.int (4 : Int32)), (.ref b8), (.ref b8)])
  refine own_st (fun t k => XS.iconst X12.here hx rfl (hb hby at_71) k) ?_
  obtain ⟨c13, A13, q13, S13, M13, H13, G13⟩ := V12
  obtain ⟨T13, h13, X13, e13, W13, st13⟩ := stI X12 hx hZ e12 A13 (j := (4 : Int32)) (inb_of S13 ⟨by decide, by decide⟩) (g := (mkF m 72 #[.val (.long jp0), .second, .val (.long jp1), .second, .val (.long jp2), .second, .val (.long jp3), .second, .val (.int ip4), .val (.int ip5), .val (.int ((ip5 &&& (2147483647 : Int32)) % (4 : Int32))), .val (.int ((ip4 &&& (2147483647 : Int32)) % (6 : Int32))), .val (.ref b1), .unset, .unset, .unset, .unset, .unset, .unset, .unset, .unset] [(.int (0 : Int32)), (.int (4 : Int32)), (.ref b8), (.ref b8)])) rfl rfl (hb hby at_72)
  refine own_st st13 ?_
  have K13 : Keep h0 h13 [] := K12.wr W13 (Or.inr sz_b8)
  have Z13 := Nat.le_trans Z12 (Keep.of_wr W13).1
  have N13 := Fr.snoc X13 N12 g_b8
  have V13 : Arv Z h13 b8 k8 .int (6 : Int32) [(.int (1 : Int32)), (.int (2 : Int32)), (.int (0 : Int32)), (.int (2 : Int32)), (.int (0 : Int32)), (.int (0 : Int32))] (.int (0 : Int32)) := Arv.set A13 q13 S13 M13 H13 G13 rfl W13 4 rfl (Nat.le_of_ble_eq_true rfl)
  refine own_st (fun t k => XS.dup X13.here hx rfl (hb hby at_73) rfl rfl k) ?_
  show own_Go _ _ _ _ T13 (mkF m 74 #[.val (.long jp0), .second, .val (.long jp1), .second, .val (.long jp2), .second, .val (.long jp3), .second, .val (.int ip4), .val (.int ip5), .val (.int ((ip5 &&& (2147483647 : Int32)) % (4 : Int32))), .val (.int ((ip4 &&& (2147483647 : Int32)) % (6 : Int32))), .val (.ref b1), .unset, .unset, .unset, .unset, .unset, .unset, .unset, .unset] [(.ref b8), (.ref b8)])
  refine own_st (fun t k => XS.iconst X13.here hx rfl (hb hby at_74) (XS.iconst X13.here hx rfl (hb hby at_75) k)) ?_
  obtain ⟨c14, A14, q14, S14, M14, H14, G14⟩ := V13
  obtain ⟨T14, h14, X14, e14, W14, st14⟩ := stI X13 hx hZ e13 A14 (j := (5 : Int32)) (inb_of S14 ⟨by decide, by decide⟩) (g := (mkF m 76 #[.val (.long jp0), .second, .val (.long jp1), .second, .val (.long jp2), .second, .val (.long jp3), .second, .val (.int ip4), .val (.int ip5), .val (.int ((ip5 &&& (2147483647 : Int32)) % (4 : Int32))), .val (.int ((ip4 &&& (2147483647 : Int32)) % (6 : Int32))), .val (.ref b1), .unset, .unset, .unset, .unset, .unset, .unset, .unset, .unset] [(.int (1 : Int32)), (.int (5 : Int32)), (.ref b8), (.ref b8)])) rfl rfl (hb hby at_76)
  refine own_st st14 ?_
  have K14 : Keep h0 h14 [] := K13.wr W14 (Or.inr sz_b8)
  have Z14 := Nat.le_trans Z13 (Keep.of_wr W14).1
  have N14 := Fr.snoc X14 N13 g_b8
  have V14 : Arv Z h14 b8 k8 .int (6 : Int32) [(.int (1 : Int32)), (.int (2 : Int32)), (.int (0 : Int32)), (.int (2 : Int32)), (.int (0 : Int32)), (.int (1 : Int32))] (.int (0 : Int32)) := Arv.set A14 q14 S14 M14 H14 G14 rfl W14 5 rfl (Nat.le_of_ble_eq_true rfl)
  show own_Go _ _ _ _ T14 (mkF m 77 #[.val (.long jp0), .second, .val (.long jp1), .second, .val (.long jp2), .second, .val (.long jp3), .second, .val (.int ip4), .val (.int ip5), .val (.int ((ip5 &&& (2147483647 : Int32)) % (4 : Int32))), .val (.int ((ip4 &&& (2147483647 : Int32)) % (6 : Int32))), .val (.ref b1), .unset, .unset, .unset, .unset, .unset, .unset, .unset, .unset] [(.ref b8)])
  refine own_st (fun t k => XS.astore X14.here hx rfl (hb hby at_77) rfl rfl (l' := #[.val (.long jp0), .second, .val (.long jp1), .second, .val (.long jp2), .second, .val (.long jp3), .second, .val (.int ip4), .val (.int ip5), .val (.int ((ip5 &&& (2147483647 : Int32)) % (4 : Int32))), .val (.int ((ip4 &&& (2147483647 : Int32)) % (6 : Int32))), .val (.ref b1), .val (.ref b8), .unset, .unset, .unset, .unset, .unset, .unset, .unset]) rfl (XS.bipush X14.here hx rfl (hb hby at_79) k)) ?_
  obtain ⟨T15, h15, k15, X15, e15, E15, A15, Ex15, st15⟩ := newPE X14 hx hZ (own_w hw 1 rfl) e14 (g := (mkF m 81 #[.val (.long jp0), .second, .val (.long jp1), .second, .val (.long jp2), .second, .val (.long jp3), .second, .val (.int ip4), .val (.int ip5), .val (.int ((ip5 &&& (2147483647 : Int32)) % (4 : Int32))), .val (.int ((ip4 &&& (2147483647 : Int32)) % (6 : Int32))), .val (.ref b1), .val (.ref b8), .unset, .unset, .unset, .unset, .unset, .unset, .unset] [(.int (6 : Int32))])) rfl (hb hby at_81) rfl (by decide) (cap := 6) (by decide) (by decide) (by decide) (by decide) (ad := "[I") (by decide +kernel)
  obtain ⟨b15, g15⟩ : ∃ z, z = h14.size := ⟨_, rfl⟩
  rw [← g15] at A15 Ex15 st15
  have g_b15 : n0 ≤ b15 := Nat.le_trans Z14 (Nat.le_of_eq g15.symm)
  have sz_b15 : h0.size ≤ b15 := Nat.le_trans K14.1 (Nat.le_of_eq g15.symm)
  refine own_st st15 ?_
  have K15 : Keep h0 h15 [] := K14.ext E15
  have Z15 := Nat.le_trans Z14 E15.1
  have V15 : Arv Z h15 b15 k15 .int (6 : Int32) [(.int (0 : Int32)), (.int (0 : Int32)), (.int (0 : Int32)), (.int (0 : Int32)), (.int (0 : Int32)), (.int (0 : Int32))] (.int (0 : Int32)) := (Arv.new A15 (by decide)).pad (pad_rep [] (.int (0 : Int32)) 6)
  show own_Go _ _ _ _ T15 (mkF m 83 #[.val (.long jp0), .second, .val (.long jp1), .second, .val (.long jp2), .second, .val (.long jp3), .second, .val (.int ip4), .val (.int ip5), .val (.int ((ip5 &&& (2147483647 : Int32)) % (4 : Int32))), .val (.int ((ip4 &&& (2147483647 : Int32)) % (6 : Int32))), .val (.ref b1), .val (.ref b8), .unset, .unset, .unset, .unset, .unset, .unset, .unset] [(.ref b15)])
  refine own_st (fun t k => XS.dup X15.here hx rfl (hb hby at_83) rfl rfl (XS.iconst X15.here hx rfl (hb hby at_84) (XS.iconst X15.here hx rfl (hb hby at_85) k))) ?_
  show own_Go _ _ _ _ T15 (mkF m 86 #[.val (.long jp0), .second, .val (.long jp1), .second, .val (.long jp2), .second, .val (.long jp3), .second, .val (.int ip4), .val (.int ip5), .val (.int ((ip5 &&& (2147483647 : Int32)) % (4 : Int32))), .val (.int ((ip4 &&& (2147483647 : Int32)) % (6 : Int32))), .val (.ref b1), .val (.ref b8), .unset, .unset, .unset, .unset, .unset, .unset, .unset] [(.int (2 : Int32)), (.int (0 : Int32)), (.ref b15), (.ref b15)])
  obtain ⟨c16, A16, q16, S16, M16, H16, G16⟩ := V15
  obtain ⟨T16, h16, X16, e16, W16, st16⟩ := stI X15 hx hZ e15 A16 (j := (0 : Int32)) (inb_of S16 ⟨by decide, by decide⟩) (g := (mkF m 86 #[.val (.long jp0), .second, .val (.long jp1), .second, .val (.long jp2), .second, .val (.long jp3), .second, .val (.int ip4), .val (.int ip5), .val (.int ((ip5 &&& (2147483647 : Int32)) % (4 : Int32))), .val (.int ((ip4 &&& (2147483647 : Int32)) % (6 : Int32))), .val (.ref b1), .val (.ref b8), .unset, .unset, .unset, .unset, .unset, .unset, .unset] [(.int (2 : Int32)), (.int (0 : Int32)), (.ref b15), (.ref b15)])) rfl rfl (hb hby at_86)
  refine own_st st16 ?_
  have K16 : Keep h0 h16 [] := K15.wr W16 (Or.inr sz_b15)
  have Z16 := Nat.le_trans Z15 (Keep.of_wr W16).1
  have N16 := Fr.snoc X16 N14 g_b15
  have V16 : Arv Z h16 b15 k15 .int (6 : Int32) [(.int (2 : Int32)), (.int (0 : Int32)), (.int (0 : Int32)), (.int (0 : Int32)), (.int (0 : Int32)), (.int (0 : Int32))] (.int (0 : Int32)) := Arv.set A16 q16 S16 M16 H16 G16 rfl W16 0 rfl (Nat.le_of_ble_eq_true rfl)
  refine own_st (fun t k => XS.dup X16.here hx rfl (hb hby at_87) rfl rfl (XS.iconst X16.here hx rfl (hb hby at_88) k)) ?_
  show own_Go _ _ _ _ T16 (mkF m 89 #[.val (.long jp0), .second, .val (.long jp1), .second, .val (.long jp2), .second, .val (.long jp3), .second, .val (.int ip4), .val (.int ip5), .val (.int ((ip5 &&& (2147483647 : Int32)) % (4 : Int32))), .val (.int ((ip4 &&& (2147483647 : Int32)) % (6 : Int32))), .val (.ref b1), .val (.ref b8), .unset, .unset, .unset, .unset, .unset, .unset, .unset] [(.int (1 : Int32)), (.ref b15), (.ref b15)])
  refine own_st (fun t k => XS.iconst X16.here hx rfl (hb hby at_89) k) ?_
  obtain ⟨c17, A17, q17, S17, M17, H17, G17⟩ := V16
  obtain ⟨T17, h17, X17, e17, W17, st17⟩ := stI X16 hx hZ e16 A17 (j := (1 : Int32)) (inb_of S17 ⟨by decide, by decide⟩) (g := (mkF m 90 #[.val (.long jp0), .second, .val (.long jp1), .second, .val (.long jp2), .second, .val (.long jp3), .second, .val (.int ip4), .val (.int ip5), .val (.int ((ip5 &&& (2147483647 : Int32)) % (4 : Int32))), .val (.int ((ip4 &&& (2147483647 : Int32)) % (6 : Int32))), .val (.ref b1), .val (.ref b8), .unset, .unset, .unset, .unset, .unset, .unset, .unset] [(.int (1 : Int32)), (.int (1 : Int32)), (.ref b15), (.ref b15)])) rfl rfl (hb hby at_90)
  refine own_st st17 ?_
  have K17 : Keep h0 h17 [] := K16.wr W17 (Or.inr sz_b15)
  have Z17 := Nat.le_trans Z16 (Keep.of_wr W17).1
  have N17 := Fr.snoc X17 N16 g_b15
  have V17 : Arv Z h17 b15 k15 .int (6 : Int32) [(.int (2 : Int32)), (.int (1 : Int32)), (.int (0 : Int32)), (.int (0 : Int32)), (.int (0 : Int32)), (.int (0 : Int32))] (.int (0 : Int32)) := Arv.set A17 q17 S17 M17 H17 G17 rfl W17 1 rfl (Nat.le_of_ble_eq_true rfl)
  refine own_st (fun t k => XS.dup X17.here hx rfl (hb hby at_91) rfl rfl k) ?_
  show own_Go _ _ _ _ T17 (mkF m 92 #[.val (.long jp0), .second, .val (.long jp1), .second, .val (.long jp2), .second, .val (.long jp3), .second, .val (.int ip4), .val (.int ip5), .val (.int ((ip5 &&& (2147483647 : Int32)) % (4 : Int32))), .val (.int ((ip4 &&& (2147483647 : Int32)) % (6 : Int32))), .val (.ref b1), .val (.ref b8), .unset, .unset, .unset, .unset, .unset, .unset, .unset] [(.ref b15), (.ref b15)])
  refine own_st (fun t k => XS.iconst X17.here hx rfl (hb hby at_92) (XS.iconst X17.here hx rfl (hb hby at_93) k)) ?_
  obtain ⟨c18, A18, q18, S18, M18, H18, G18⟩ := V17
  obtain ⟨T18, h18, X18, e18, W18, st18⟩ := stI X17 hx hZ e17 A18 (j := (2 : Int32)) (inb_of S18 ⟨by decide, by decide⟩) (g := (mkF m 94 #[.val (.long jp0), .second, .val (.long jp1), .second, .val (.long jp2), .second, .val (.long jp3), .second, .val (.int ip4), .val (.int ip5), .val (.int ((ip5 &&& (2147483647 : Int32)) % (4 : Int32))), .val (.int ((ip4 &&& (2147483647 : Int32)) % (6 : Int32))), .val (.ref b1), .val (.ref b8), .unset, .unset, .unset, .unset, .unset, .unset, .unset] [(.int (2 : Int32)), (.int (2 : Int32)), (.ref b15), (.ref b15)])) rfl rfl (hb hby at_94)
  refine own_st st18 ?_
  have K18 : Keep h0 h18 [] := K17.wr W18 (Or.inr sz_b15)
  have Z18 := Nat.le_trans Z17 (Keep.of_wr W18).1
  have N18 := Fr.snoc X18 N17 g_b15
  have V18 : Arv Z h18 b15 k15 .int (6 : Int32) [(.int (2 : Int32)), (.int (1 : Int32)), (.int (2 : Int32)), (.int (0 : Int32)), (.int (0 : Int32)), (.int (0 : Int32))] (.int (0 : Int32)) := Arv.set A18 q18 S18 M18 H18 G18 rfl W18 2 rfl (Nat.le_of_ble_eq_true rfl)
  show own_Go _ _ _ _ T18 (mkF m 95 #[.val (.long jp0), .second, .val (.long jp1), .second, .val (.long jp2), .second, .val (.long jp3), .second, .val (.int ip4), .val (.int ip5), .val (.int ((ip5 &&& (2147483647 : Int32)) % (4 : Int32))), .val (.int ((ip4 &&& (2147483647 : Int32)) % (6 : Int32))), .val (.ref b1), .val (.ref b8), .unset, .unset, .unset, .unset, .unset, .unset, .unset] [(.ref b15)])
  refine own_st (fun t k => XS.dup X18.here hx rfl (hb hby at_95) rfl rfl (XS.iconst X18.here hx rfl (hb hby at_96) (XS.iconst X18.here hx rfl (hb hby at_97) k))) ?_
  show own_Go _ _ _ _ T18 (mkF m 98 #[.val (.long jp0), .second, .val (.long jp1), .second, .val (.long jp2), .second, .val (.long jp3), .second, .val (.int ip4), .val (.int ip5), .val (.int ((ip5 &&& (2147483647 : Int32)) % (4 : Int32))), .val (.int ((ip4 &&& (2147483647 : Int32)) % (6 : Int32))), .val (.ref b1), .val (.ref b8), .unset, .unset, .unset, .unset, .unset, .unset, .unset] [(.int (0 : Int32)), (.int (3 : Int32)), (.ref b15), (.ref b15)])
  obtain ⟨c19, A19, q19, S19, M19, H19, G19⟩ := V18
  obtain ⟨T19, h19, X19, e19, W19, st19⟩ := stI X18 hx hZ e18 A19 (j := (3 : Int32)) (inb_of S19 ⟨by decide, by decide⟩) (g := (mkF m 98 #[.val (.long jp0), .second, .val (.long jp1), .second, .val (.long jp2), .second, .val (.long jp3), .second, .val (.int ip4), .val (.int ip5), .val (.int ((ip5 &&& (2147483647 : Int32)) % (4 : Int32))), .val (.int ((ip4 &&& (2147483647 : Int32)) % (6 : Int32))), .val (.ref b1), .val (.ref b8), .unset, .unset, .unset, .unset, .unset, .unset, .unset] [(.int (0 : Int32)), (.int (3 : Int32)), (.ref b15), (.ref b15)])) rfl rfl (hb hby at_98)
  refine own_st st19 ?_
  have K19 : Keep h0 h19 [] := K18.wr W19 (Or.inr sz_b15)
  have Z19 := Nat.le_trans Z18 (Keep.of_wr W19).1
  have N19 := Fr.snoc X19 N18 g_b15
  have V19 : Arv Z h19 b15 k15 .int (6 : Int32) [(.int (2 : Int32)), (.int (1 : Int32)), (.int (2 : Int32)), (.int (0 : Int32)), (.int (0 : Int32)), (.int (0 : Int32))] (.int (0 : Int32)) := Arv.set A19 q19 S19 M19 H19 G19 rfl W19 3 rfl (Nat.le_of_ble_eq_true rfl)
  refine own_st (fun t k => XS.dup X19.here hx rfl (hb hby at_99) rfl rfl (XS.iconst X19.here hx rfl (hb hby at_100) k)) ?_
  show own_Go _ _ _ _ T19 (mkF m 101 #[.val (.long jp0), .second, .val (.long jp1), .second, .val (.long jp2), .second, .val (.long jp3), .second, .val (.int ip4), .val (.int ip5), .val (.int ((ip5 &&& (2147483647 : Int32)) % (4 : Int32))), .val (.int ((ip4 &&& (2147483647 : Int32)) % (6 : Int32))), .val (.ref b1), .val (.ref b8), .unset, .unset, .unset, .unset, .unset, .unset, .unset] [(.int (4 : Int32)), (.ref b15), (.ref b15)])
  refine own_st (fun t k => XS.iconst X19.here hx rfl (hb hby at_101) k) ?_
  obtain ⟨c20, A20, q20, S20, M20, H20, G20⟩ := V19
  obtain ⟨T20, h20, X20, e20, W20, st20⟩ := stI X19 hx hZ e19 A20 (j := (4 : Int32)) (inb_of S20 ⟨by decide, by decide⟩) (g := (mkF m 102 #[.val (.long jp0), .second, .val (.long jp1), .second, .val (.long jp2), .second, .val (.long jp3), .second, .val (.int ip4), .val (.int ip5), .val (.int ((ip5 &&& (2147483647 : Int32)) % (4 : Int32))), .val (.int ((ip4 &&& (2147483647 : Int32)) % (6 : Int32))), .val (.ref b1), .val (.ref b8), .unset, .unset, .unset, .unset, .unset, .unset, .unset] [(.int (1 : Int32)), (.int (4 : Int32)), (.ref b15), (.ref b15)])) rfl rfl (hb hby at_102)
  refine own_st st20 ?_
  have K20 : Keep h0 h20 [] := K19.wr W20 (Or.inr sz_b15)
  have Z20 := Nat.le_trans Z19 (Keep.of_wr W20).1
  have N20 := Fr.snoc X20 N19 g_b15
  have V20 : Arv Z h20 b15 k15 .int (6 : Int32) [(.int (2 : Int32)), (.int (1 : Int32)), (.int (2 : Int32)), (.int (0 : Int32)), (.int (1 : Int32)), (.int (0 : Int32))] (.int (0 : Int32)) := Arv.set A20 q20 S20 M20 H20 G20 rfl W20 4 rfl (Nat.le_of_ble_eq_true rfl)
  refine own_st (fun t k => XS.dup X20.here hx rfl (hb hby at_103) rfl rfl k) ?_
  show own_Go _ _ _ _ T20 (mkF m 104 #[.val (.long jp0), .second, .val (.long jp1), .second, .val (.long jp2), .second, .val (.long jp3), .second, .val (.int ip4), .val (.int ip5), .val (.int ((ip5 &&& (2147483647 : Int32)) % (4 : Int32))), .val (.int ((ip4 &&& (2147483647 : Int32)) % (6 : Int32))), .val (.ref b1), .val (.ref b8), .unset, .unset, .unset, .unset, .unset, .unset, .unset] [(.ref b15), (.ref b15)])
  refine own_st (fun t k => XS.iconst X20.here hx rfl (hb hby at_104) (XS.iconst X20.here hx rfl (hb hby at_105) k)) ?_
  obtain ⟨c21, A21, q21, S21, M21, H21, G21⟩ := V20
  obtain ⟨T21, h21, X21, e21, W21, st21⟩ := stI X20 hx hZ e20 A21 (j := (5 : Int32)) (inb_of S21 ⟨by decide, by decide⟩) (g := (mkF m 106 #[.val (.long jp0), .second, .val (.long jp1), .second, .val (.long jp2), .second, .val (.long jp3), .second, .val (.int ip4), .val (.int ip5), .val (.int ((ip5 &&& (2147483647 : Int32)) % (4 : Int32))), .val (.int ((ip4 &&& (2147483647 : Int32)) % (6 : Int32))), .val (.ref b1), .val (.ref b8), .unset, .unset, .unset, .unset, .unset, .unset, .unset] [(.int (0 : Int32)), (.int (5 : Int32)), (.ref b15), (.ref b15)])) rfl rfl (hb hby at_106)
  refine own_st st21 ?_
  have K21 : Keep h0 h21 [] := K20.wr W21 (Or.inr sz_b15)
  have Z21 := Nat.le_trans Z20 (Keep.of_wr W21).1
  have N21 := Fr.snoc X21 N20 g_b15
  have V21 : Arv Z h21 b15 k15 .int (6 : Int32) [(.int (2 : Int32)), (.int (1 : Int32)), (.int (2 : Int32)), (.int (0 : Int32)), (.int (1 : Int32)), (.int (0 : Int32))] (.int (0 : Int32)) := Arv.set A21 q21 S21 M21 H21 G21 rfl W21 5 rfl (Nat.le_of_ble_eq_true rfl)
  show own_Go _ _ _ _ T21 (mkF m 107 #[.val (.long jp0), .second, .val (.long jp1), .second, .val (.long jp2), .second, .val (.long jp3), .second, .val (.int ip4), .val (.int ip5), .val (.int ((ip5 &&& (2147483647 : Int32)) % (4 : Int32))), .val (.int ((ip4 &&& (2147483647 : Int32)) % (6 : Int32))), .val (.ref b1), .val (.ref b8), .unset, .unset, .unset, .unset, .unset, .unset, .unset] [(.ref b15)])
  refine own_st (fun t k => XS.astore X21.here hx rfl (hb hby at_107) rfl rfl (l' := #[.val (.long jp0), .second, .val (.long jp1), .second, .val (.long jp2), .second, .val (.long jp3), .second, .val (.int ip4), .val (.int ip5), .val (.int ((ip5 &&& (2147483647 : Int32)) % (4 : Int32))), .val (.int ((ip4 &&& (2147483647 : Int32)) % (6 : Int32))), .val (.ref b1), .val (.ref b8), .val (.ref b15), .unset, .unset, .unset, .unset, .unset, .unset]) rfl (XS.iconst X21.here hx rfl (hb hby at_109) k)) ?_
  obtain ⟨T22, h22, k22, X22, e22, E22, A22, Ex22, st22⟩ := newPE X21 hx hZ (own_w hw 2 rfl) e21 (g := (mkF m 110 #[.val (.long jp0), .second, .val (.long jp1), .second, .val (.long jp2), .second, .val (.long jp3), .second, .val (.int ip4), .val (.int ip5), .val (.int ((ip5 &&& (2147483647 : Int32)) % (4 : Int32))), .val (.int ((ip4 &&& (2147483647 : Int32)) % (6 : Int32))), .val (.ref b1), .val (.ref b8), .val (.ref b15), .unset, .unset, .unset, .unset, .unset, .unset] [(.int (3 : Int32))])) rfl (hb hby at_110) rfl (by decide) (cap := 3) (by decide) (by decide) (by decide) (by decide) (ad := "[J") (by decide +kernel)
  obtain ⟨b22, g22⟩ : ∃ z, z = h21.size := ⟨_, rfl⟩
  rw [← g22] at A22 Ex22 st22
  have g_b22 : n0 ≤ b22 := Nat.le_trans Z21 (Nat.le_of_eq g22.symm)
  have sz_b22 : h0.size ≤ b22 := Nat.le_trans K21.1 (Nat.le_of_eq g22.symm)
  refine own_st st22 ?_
  have K22 : Keep h0 h22 [] := K21.ext E22
  have Z22 := Nat.le_trans Z21 E22.1
  have V22 : Arv Z h22 b22 k22 .long (3 : Int32) [(.long (0 : Int64)), (.long (0 : Int64)), (.long (0 : Int64))] (.long (0 : Int64)) := (Arv.new A22 (by decide)).pad (pad_rep [] (.long (0 : Int64)) 3)
  show own_Go _ _ _ _ T22 (mkF m 112 #[.val (.long jp0), .second, .val (.long jp1), .second, .val (.long jp2), .second, .val (.long jp3), .second, .val (.int ip4), .val (.int ip5), .val (.int ((ip5 &&& (2147483647 : Int32)) % (4 : Int32))), .val (.int ((ip4 &&& (2147483647 : Int32)) % (6 : Int32))), .val (.ref b1), .val (.ref b8), .val (.ref b15), .unset, .unset, .unset, .unset, .unset, .unset] [(.ref b22)])
  refine own_st (fun t k => XS.dup X22.here hx rfl (hb hby at_112) rfl rfl (XS.iconst X22.here hx rfl (hb hby at_113) (XS.lloadN X22.here hx rfl (hb hby at_114) rfl k))) ?_
  show own_Go _ _ _ _ T22 (mkF m 115 #[.val (.long jp0), .second, .val (.long jp1), .second, .val (.long jp2), .second, .val (.long jp3), .second, .val (.int ip4), .val (.int ip5), .val (.int ((ip5 &&& (2147483647 : Int32)) % (4 : Int32))), .val (.int ((ip4 &&& (2147483647 : Int32)) % (6 : Int32))), .val (.ref b1), .val (.ref b8), .val (.ref b15), .unset, .unset, .unset, .unset, .unset, .unset] [(.long jp0), (.int (0 : Int32)), (.ref b22), (.ref b22)])
  obtain ⟨c23, A23, q23, S23, M23, H23, G23⟩ := V22
  obtain ⟨T23, h23, X23, e23, W23, st23⟩ := stJ X22 hx hZ e22 A23 (j := (0 : Int32)) (inb_of S23 ⟨by decide, by decide⟩) (g := (mkF m 115 #[.val (.long jp0), .second, .val (.long jp1), .second, .val (.long jp2), .second, .val (.long jp3), .second, .val (.int ip4), .val (.int ip5), .val (.int ((ip5 &&& (2147483647 : Int32)) % (4 : Int32))), .val (.int ((ip4 &&& (2147483647 : Int32)) % (6 : Int32))), .val (.ref b1), .val (.ref b8), .val (.ref b15), .unset, .unset, .unset, .unset, .unset, .unset] [(.long jp0), (.int (0 : Int32)), (.ref b22), (.ref b22)])) rfl rfl (hb hby at_115)
  refine own_st st23 ?_
  have K23 : Keep h0 h23 [] := K22.wr W23 (Or.inr sz_b22)
  have Z23 := Nat.le_trans Z22 (Keep.of_wr W23).1
  have N23 := Fr.snoc X23 N21 g_b22
  have V23 : Arv Z h23 b22 k22 .long (3 : Int32) [(.long jp0), (.long (0 : Int64)), (.long (0 : Int64))] (.long (0 : Int64)) := Arv.set A23 q23 S23 M23 H23 G23 rfl W23 0 rfl (Nat.le_of_ble_eq_true rfl)
  refine own_st (fun t k => XS.dup X23.here hx rfl (hb hby at_116) rfl rfl (XS.iconst X23.here hx rfl (hb hby at_117) k)) ?_
  show own_Go _ _ _ _ T23 (mkF m 118 #[.val (.long jp0), .second, .val (.long jp1), .second, .val (.long jp2), .second, .val (.long jp3), .second, .val (.int ip4), .val (.int ip5), .val (.int ((ip5 &&& (2147483647 : Int32)) % (4 : Int32))), .val (.int ((ip4 &&& (2147483647 : Int32)) % (6 : Int32))), .val (.ref b1), .val (.ref b8), .val (.ref b15), .unset, .unset, .unset, .unset, .unset, .unset] [(.int (1 : Int32)), (.ref b22), (.ref b22)])
  refine own_st (fun t k => XS.lloadN X23.here hx rfl (hb hby at_118) rfl k) ?_
  obtain ⟨c24, A24, q24, S24, M24, H24, G24⟩ := V23
  obtain ⟨T24, h24, X24, e24, W24, st24⟩ := stJ X23 hx hZ e23 A24 (j := (1 : Int32)) (inb_of S24 ⟨by decide, by decide⟩) (g := (mkF m 119 #[.val (.long jp0), .second, .val (.long jp1), .second, .val (.long jp2), .second, .val (.long jp3), .second, .val (.int ip4), .val (.int ip5), .val (.int ((ip5 &&& (2147483647 : Int32)) % (4 : Int32))), .val (.int ((ip4 &&& (2147483647 : Int32)) % (6 : Int32))), .val (.ref b1), .val (.ref b8), .val (.ref b15), .unset, .unset, .unset, .unset, .unset, .unset] [(.long jp1), (.int (1 : Int32)), (.ref b22), (.ref b22)])) rfl rfl (hb hby at_119)
  refine own_st st24 ?_
  have K24 : Keep h0 h24 [] := K23.wr W24 (Or.inr sz_b22)
  have Z24 := Nat.le_trans Z23 (Keep.of_wr W24).1
  have N24 := Fr.snoc X24 N23 g_b22
  have V24 : Arv Z h24 b22 k22 .long (3 : Int32) [(.long jp0), (.long jp1), (.long (0 : Int64))] (.long (0 : Int64)) := Arv.set A24 q24 S24 M24 H24 G24 rfl W24 1 rfl (Nat.le_of_ble_eq_true rfl)
  refine own_st (fun t k => XS.dup X24.here hx rfl (hb hby at_120) rfl rfl k) ?_
  show own_Go _ _ _ _ T24 (mkF m 121 #[.val (.long jp0), .second, .val (.long jp1), .second, .val (.long jp2), .second, .val (.long jp3), .second, .val (.int ip4), .val (.int ip5), .val (.int ((ip5 &&& (2147483647 : Int32)) % (4 : Int32))), .val (.int ((ip4 &&& (2147483647 : Int32)) % (6 : Int32))), .val (.ref b1), .val (.ref b8), .val (.ref b15), .unset, .unset, .unset, .unset, .unset, .unset] [(.ref b22), (.ref b22)])
  refine own_st (fun t k => XS.iconst X24.here hx rfl (hb hby at_121) (XS.lload X24.here hx rfl (hb hby at_122) rfl k)) ?_
  obtain ⟨c25, A25, q25, S25, M25, H25, G25⟩ := V24
  obtain ⟨T25, h25, X25, e25, W25, st25⟩ := stJ X24 hx hZ e24 A25 (j := (2 : Int32)) (inb_of S25 ⟨by decide, by decide⟩) (g := (mkF m 124 #[.val (.long jp0), .second, .val (.long jp1), .second, .val (.long jp2), .second, .val (.long jp3), .second, .val (.int ip4), .val (.int ip5), .val (.int ((ip5 &&& (2147483647 : Int32)) % (4 : Int32))), .val (.int ((ip4 &&& (2147483647 : Int32)) % (6 : Int32))), .val (.ref b1), .val (.ref b8), .val (.ref b15), .unset, .unset, .unset, .unset, .unset, .unset] [(.long jp2), (.int (2 : Int32)), (.ref b22), (.ref b22)])) rfl rfl (hb hby at_124)
  refine own_st st25 ?_
  have K25 : Keep h0 h25 [] := K24.wr W25 (Or.inr sz_b22)
  have Z25 := Nat.le_trans Z24 (Keep.of_wr W25).1
  have N25 := Fr.snoc X25 N24 g_b22
  have V25 : Arv Z h25 b22 k22 .long (3 : Int32) [(.long jp0), (.long jp1), (.long jp2)] (.long (0 : Int64)) := Arv.set A25 q25 S25 M25 H25 G25 rfl W25 2 rfl (Nat.le_of_ble_eq_true rfl)
  show own_Go _ _ _ _ T25 (mkF m 125 #[.val (.long jp0), .second, .val (.long jp1), .second, .val (.long jp2), .second, .val (.long jp3), .second, .val (.int ip4), .val (.int ip5), .val (.int ((ip5 &&& (2147483647 : Int32)) % (4 : Int32))), .val (.int ((ip4 &&& (2147483647 : Int32)) % (6 : Int32))), .val (.ref b1), .val (.ref b8), .val (.ref b15), .unset, .unset, .unset, .unset, .unset, .unset] [(.ref b22)])
  refine own_st (fun t k => XS.astore X25.here hx rfl (hb hby at_125) rfl rfl (l' := #[.val (.long jp0), .second, .val (.long jp1), .second, .val (.long jp2), .second, .val (.long jp3), .second, .val (.int ip4), .val (.int ip5), .val (.int ((ip5 &&& (2147483647 : Int32)) % (4 : Int32))), .val (.int ((ip4 &&& (2147483647 : Int32)) % (6 : Int32))), .val (.ref b1), .val (.ref b8), .val (.ref b15), .val (.ref b22), .unset, .unset, .unset, .unset, .unset]) rfl (XS.iconst X25.here hx rfl (hb hby at_127) k)) ?_
  obtain ⟨T26, h26, k26, X26, e26, E26, A26, Ex26, st26⟩ := newPE X25 hx hZ (own_w hw 2 rfl) e25 (g := (mkF m 128 #[.val (.long jp0), .second, .val (.long jp1), .second, .val (.long jp2), .second, .val (.long jp3), .second, .val (.int ip4), .val (.int ip5), .val (.int ((ip5 &&& (2147483647 : Int32)) % (4 : Int32))), .val (.int ((ip4 &&& (2147483647 : Int32)) % (6 : Int32))), .val (.ref b1), .val (.ref b8), .val (.ref b15), .val (.ref b22), .unset, .unset, .unset, .unset, .unset] [(.int (3 : Int32))])) rfl (hb hby at_128) rfl (by decide) (cap := 3) (by decide) (by decide) (by decide) (by decide) (ad := "[J") (by decide +kernel)
  obtain ⟨b26, g26⟩ : ∃ z, z = h25.size := ⟨_, rfl⟩
  rw [← g26] at A26 Ex26 st26
  have g_b26 : n0 ≤ b26 := Nat.le_trans Z25 (Nat.le_of_eq g26.symm)
  have sz_b26 : h0.size ≤ b26 := Nat.le_trans K25.1 (Nat.le_of_eq g26.symm)
  refine own_st st26 ?_
  have K26 : Keep h0 h26 [] := K25.ext E26
  have Z26 := Nat.le_trans Z25 E26.1
  have V26 : Arv Z h26 b26 k26 .long (3 : Int32) [(.long (0 : Int64)), (.long (0 : Int64)), (.long (0 : Int64))] (.long (0 : Int64)) := (Arv.new A26 (by decide)).pad (pad_rep [] (.long (0 : Int64)) 3)
  show own_Go _ _ _ _ T26 (mkF m 130 #[.val (.long jp0), .second, .val (.long jp1), .second, .val (.long jp2), .second, .val (.long jp3), .second, .val (.int ip4), .val (.int ip5), .val (.int ((ip5 &&& (2147483647 : Int32)) % (4 : Int32))), .val (.int ((ip4 &&& (2147483647 : Int32)) % (6 : Int32))), .val (.ref b1), .val (.ref b8), .val (.ref b15), .val (.ref b22), .unset, .unset, .unset, .unset, .unset] [(.ref b26)])
  refine own_st (fun t k => XS.dup X26.here hx rfl (hb hby at_130) rfl rfl (XS.iconst X26.here hx rfl (hb hby at_131) (XS.lload X26.here hx rfl (hb hby at_132) rfl k))) ?_
  show own_Go _ _ _ _ T26 (mkF m 134 #[.val (.long jp0), .second, .val (.long jp1), .second, .val (.long jp2), .second, .val (.long jp3), .second, .val (.int ip4), .val (.int ip5), .val (.int ((ip5 &&& (2147483647 : Int32)) % (4 : Int32))), .val (.int ((ip4 &&& (2147483647 : Int32)) % (6 : Int32))), .val (.ref b1), .val (.ref b8), .val (.ref b15), .val (.ref b22), .unset, .unset, .unset, .unset, .unset] [(.long jp3), (.int (0 : Int32)), (.ref b26), (.ref b26)])
  rcases own_rem0 ip4 with qr27 | qr27 | qr27 | qr27 | qr27 | qr27
  · rw [qr27]
    refine own_st (fun t k => XS.aload X26.here hx rfl (hb hby at_134) rfl rfl (XS.iload X26.here hx rfl (hb hby at_136) rfl k)) ?_
    show own_Go _ _ _ _ T26 (mkF m 138 #[.val (.long jp0), .second, .val (.long jp1), .second, .val (.long jp2), .second, .val (.long jp3), .second, .val (.int ip4), .val (.int ip5), .val (.int ((ip5 &&& (2147483647 : Int32)) % (4 : Int32))), .val (.int (0 : Int32)), .val (.ref b1), .val (.ref b8), .val (.ref b15), .val (.ref b22), .unset, .unset, .unset, .unset, .unset] [(.int (0 : Int32)), (.ref b1), (.long jp3), (.int (0 : Int32)), (.ref b26), (.ref b26)])
    have ne28 : b1 ≠ b8 := Nat.ne_of_lt (Nat.lt_of_lt_of_le V7.lt (Nat.le_of_eq g8.symm))
    have ne29 : b1 ≠ b15 := Nat.ne_of_lt (Nat.lt_of_lt_of_le (((((((V7.ext E8).other W9 ne28).other W10 ne28).other W11 ne28).other W12 ne28).other W13 ne28).other W14 ne28).lt (Nat.le_of_eq g15.symm))
    have ne30 : b1 ≠ b22 := Nat.ne_of_lt (Nat.lt_of_lt_of_le ((((((((((((((V7.ext E8).other W9 ne28).other W10 ne28).other W11 ne28).other W12 ne28).other W13 ne28).other W14 ne28).ext E15).other W16 ne29).other W17 ne29).other W18 ne29).other W19 ne29).other W20 ne29).other W21 ne29).lt (Nat.le_of_eq g22.symm))
    have f31 := (((((((((((((((((((V7.ext E8).other W9 ne28).other W10 ne28).other W11 ne28).other W12 ne28).other W13 ne28).other W14 ne28).ext E15).other W16 ne29).other W17 ne29).other W18 ne29).other W19 ne29).other W20 ne29).other W21 ne29).ext E22).other W23 ne30).other W24 ne30).other W25 ne30).ext E26)
    refine own_st (own_iaload X26 hx hZ e26 f31 (j := (0 : Int32)) (v := (.int (0 : Int32))) ⟨by decide, by decide⟩ rfl (g := (mkF m 138 #[.val (.long jp0), .second, .val (.long jp1), .second, .val (.long jp2), .second, .val (.long jp3), .second, .val (.int ip4), .val (.int ip5), .val (.int ((ip5 &&& (2147483647 : Int32)) % (4 : Int32))), .val (.int (0 : Int32)), .val (.ref b1), .val (.ref b8), .val (.ref b15), .val (.ref b22), .unset, .unset, .unset, .unset, .unset] [(.int (0 : Int32)), (.ref b1), (.long jp3), (.int (0 : Int32)), (.ref b26), (.ref b26)])) rfl rfl (hb hby at_138)) ?_
    refine own_st (fun t k => XS.i2l X26.here hx rfl (hb hby at_139) rfl (XS.ladd X26.here hx rfl (hb hby at_140) rfl k)) ?_
    show own_Go _ _ _ _ T26 (mkF m 141 #[.val (.long jp0), .second, .val (.long jp1), .second, .val (.long jp2), .second, .val (.long jp3), .second, .val (.int ip4), .val (.int ip5), .val (.int ((ip5 &&& (2147483647 : Int32)) % (4 : Int32))), .val (.int (0 : Int32)), .val (.ref b1), .val (.ref b8), .val (.ref b15), .val (.ref b22), .unset, .unset, .unset, .unset, .unset] [(.long (jp3 + ((0 : Int32).toInt64))), (.int (0 : Int32)), (.ref b26), (.ref b26)])
    obtain ⟨c32, A32, q32, S32, M32, H32, G32⟩ := V26
    obtain ⟨T32, h32, X32, e32, W32, st32⟩ := stJ X26 hx hZ e26 A32 (j := (0 : Int32)) (inb_of S32 ⟨by decide, by decide⟩) (g := (mkF m 141 #[.val (.long jp0), .second, .val (.long jp1), .second, .val (.long jp2), .second, .val (.long jp3), .second, .val (.int ip4), .val (.int ip5), .val (.int ((ip5 &&& (2147483647 : Int32)) % (4 : Int32))), .val (.int (0 : Int32)), .val (.ref b1), .val (.ref b8), .val (.ref b15), .val (.ref b22), .unset, .unset, .unset, .unset, .unset] [(.long (jp3 + ((0 : Int32).toInt64))), (.int (0 : Int32)), (.ref b26), (.ref b26)])) rfl rfl (hb hby at_141)
    refine own_st st32 ?_
    have K32 : Keep h0 h32 [] := K26.wr W32 (Or.inr sz_b26)
    have Z32 := Nat.le_trans Z26 (Keep.of_wr W32).1
    have N32 := Fr.snoc X32 N25 g_b26
    have V32 : Arv Z h32 b26 k26 .long (3 : Int32) [(.long (jp3 + ((0 : Int32).toInt64))), (.long (0 : Int64)), (.long (0 : Int64))] (.long (0 : Int64)) := Arv.set A32 q32 S32 M32 H32 G32 rfl W32 0 rfl (Nat.le_of_ble_eq_true rfl)
    refine own_st (fun t k => XS.dup X32.here hx rfl (hb hby at_142) rfl rfl (XS.iconst X32.here hx rfl (hb hby at_143) k)) ?_
    show own_Go _ _ _ _ T32 (mkF m 144 #[.val (.long jp0), .second, .val (.long jp1), .second, .val (.long jp2), .second, .val (.long jp3), .second, .val (.int ip4), .val (.int ip5), .val (.int ((ip5 &&& (2147483647 : Int32)) % (4 : Int32))), .val (.int (0 : Int32)), .val (.ref b1), .val (.ref b8), .val (.ref b15), .val (.ref b22), .unset, .unset, .unset, .unset, .unset] [(.int (1 : Int32)), (.ref b26), (.ref b26)])
    refine own_st (fun t k => XS.lload X32.here hx rfl (hb hby at_144) rfl (XS.aload X32.here hx rfl (hb hby at_146) rfl rfl (XS.iload X32.here hx rfl (hb hby at_148) rfl k))) ?_
    show own_Go _ _ _ _ T32 (mkF m 150 #[.val (.long jp0), .second, .val (.long jp1), .second, .val (.long jp2), .second, .val (.long jp3), .second, .val (.int ip4), .val (.int ip5), .val (.int ((ip5 &&& (2147483647 : Int32)) % (4 : Int32))), .val (.int (0 : Int32)), .val (.ref b1), .val (.ref b8), .val (.ref b15), .val (.ref b22), .unset, .unset, .unset, .unset, .unset] [(.int (0 : Int32)), (.ref b8), (.long jp3), (.int (1 : Int32)), (.ref b26), (.ref b26)])
    have ne33 : b8 ≠ b15 := Nat.ne_of_lt (Nat.lt_of_lt_of_le V14.lt (Nat.le_of_eq g15.symm))
    have ne34 : b8 ≠ b22 := Nat.ne_of_lt (Nat.lt_of_lt_of_le (((((((V14.ext E15).other W16 ne33).other W17 ne33).other W18 ne33).other W19 ne33).other W20 ne33).other W21 ne33).lt (Nat.le_of_eq g22.symm))
    have ne35 : b8 ≠ b26 := Nat.ne_of_lt (Nat.lt_of_lt_of_le (((((((((((V14.ext E15).other W16 ne33).other W17 ne33).other W18 ne33).other W19 ne33).other W20 ne33).other W21 ne33).ext E22).other W23 ne34).other W24 ne34).other W25 ne34).lt (Nat.le_of_eq g26.symm))
    have f36 := (((((((((((((V14.ext E15).other W16 ne33).other W17 ne33).other W18 ne33).other W19 ne33).other W20 ne33).other W21 ne33).ext E22).other W23 ne34).other W24 ne34).other W25 ne34).ext E26).other W32 ne35)
    refine own_st (own_iaload X32 hx hZ e32 f36 (j := (0 : Int32)) (v := (.int (1 : Int32))) ⟨by decide, by decide⟩ rfl (g := (mkF m 150 #[.val (.long jp0), .second, .val (.long jp1), .second, .val (.long jp2), .second, .val (.long jp3), .second, .val (.int ip4), .val (.int ip5), .val (.int ((ip5 &&& (2147483647 : Int32)) % (4 : Int32))), .val (.int (0 : Int32)), .val (.ref b1), .val (.ref b8), .val (.ref b15), .val (.ref b22), .unset, .unset, .unset, .unset, .unset] [(.int (0 : Int32)), (.ref b8), (.long jp3), (.int (1 : Int32)), (.ref b26), (.ref b26)])) rfl rfl (hb hby at_150)) ?_
    refine own_st (fun t k => XS.i2l X32.here hx rfl (hb hby at_151) rfl (XS.ladd X32.here hx rfl (hb hby at_152) rfl k)) ?_
    show own_Go _ _ _ _ T32 (mkF m 153 #[.val (.long jp0), .second, .val (.long jp1), .second, .val (.long jp2), .second, .val (.long jp3), .second, .val (.int ip4), .val (.int ip5), .val (.int ((ip5 &&& (2147483647 : Int32)) % (4 : Int32))), .val (.int (0 : Int32)), .val (.ref b1), .val (.ref b8), .val (.ref b15), .val (.ref b22), .unset, .unset, .unset, .unset, .unset] [(.long (jp3 + ((1 : Int32).toInt64))), (.int (1 : Int32)), (.ref b26), (.ref b26)])
    obtain ⟨c37, A37, q37, S37, M37, H37, G37⟩ := V32
    obtain ⟨T37, h37, X37, e37, W37, st37⟩ := stJ X32 hx hZ e32 A37 (j := (1 : Int32)) (inb_of S37 ⟨by decide, by decide⟩) (g := (mkF m 153 #[.val (.long jp0), .second, .val (.long jp1), .second, .val (.long jp2), .second, .val (.long jp3), .second, .val (.int ip4), .val (.int ip5), .val (.int ((ip5 &&& (2147483647 : Int32)) % (4 : Int32))), .val (.int (0 : Int32)), .val (.ref b1), .val (.ref b8), .val (.ref b15), .val (.ref b22), .unset, .unset, .unset, .unset, .unset] [(.long (jp3 + ((1 : Int32).toInt64))), (.int (1 : Int32)), (.ref b26), (.ref b26)])) rfl rfl (hb hby at_153)
    refine own_st st37 ?_
    have K37 : Keep h0 h37 [] := K32.wr W37 (Or.inr sz_b26)
    have Z37 := Nat.le_trans Z32 (Keep.of_wr W37).1
    have N37 := Fr.snoc X37 N32 g_b26
    have V37 : Arv Z h37 b26 k26 .long (3 : Int32) [(.long (jp3 + ((0 : Int32).toInt64))), (.long (jp3 + ((1 : Int32).toInt64))), (.long (0 : Int64))] (.long (0 : Int64)) := Arv.set A37 q37 S37 M37 H37 G37 rfl W37 1 rfl (Nat.le_of_ble_eq_true rfl)
    refine own_st (fun t k => XS.dup X37.here hx rfl (hb hby at_154) rfl rfl (XS.iconst X37.here hx rfl (hb hby at_155) k)) ?_
    show own_Go _ _ _ _ T37 (mkF m 156 #[.val (.long jp0), .second, .val (.long jp1), .second, .val (.long jp2), .second, .val (.long jp3), .second, .val (.int ip4), .val (.int ip5), .val (.int ((ip5 &&& (2147483647 : Int32)) % (4 : Int32))), .val (.int (0 : Int32)), .val (.ref b1), .val (.ref b8), .val (.ref b15), .val (.ref b22), .unset, .unset, .unset, .unset, .unset] [(.int (2 : Int32)), (.ref b26), (.ref b26)])
    refine own_st (fun t k => XS.lload X37.here hx rfl (hb hby at_156) rfl (XS.aload X37.here hx rfl (hb hby at_158) rfl rfl (XS.iload X37.here hx rfl (hb hby at_160) rfl k))) ?_
    show own_Go _ _ _ _ T37 (mkF m 162 #[.val (.long jp0), .second, .val (.long jp1), .second, .val (.long jp2), .second, .val (.long jp3), .second, .val (.int ip4), .val (.int ip5), .val (.int ((ip5 &&& (2147483647 : Int32)) % (4 : Int32))), .val (.int (0 : Int32)), .val (.ref b1), .val (.ref b8), .val (.ref b15), .val (.ref b22), .unset, .unset, .unset, .unset, .unset] [(.int (0 : Int32)), (.ref b15), (.long jp3), (.int (2 : Int32)), (.ref b26), (.ref b26)])
    have ne38 : b15 ≠ b22 := Nat.ne_of_lt (Nat.lt_of_lt_of_le V21.lt (Nat.le_of_eq g22.symm))
    have ne39 : b15 ≠ b26 := Nat.ne_of_lt (Nat.lt_of_lt_of_le ((((V21.ext E22).other W23 ne38).other W24 ne38).other W25 ne38).lt (Nat.le_of_eq g26.symm))
    have f40 := (((((((V21.ext E22).other W23 ne38).other W24 ne38).other W25 ne38).ext E26).other W32 ne39).other W37 ne39)
    refine own_st (own_iaload X37 hx hZ e37 f40 (j := (0 : Int32)) (v := (.int (2 : Int32))) ⟨by decide, by decide⟩ rfl (g := (mkF m 162 #[.val (.long jp0), .second, .val (.long jp1), .second, .val (.long jp2), .second, .val (.long jp3), .second, .val (.int ip4), .val (.int ip5), .val (.int ((ip5 &&& (2147483647 : Int32)) % (4 : Int32))), .val (.int (0 : Int32)), .val (.ref b1), .val (.ref b8), .val (.ref b15), .val (.ref b22), .unset, .unset, .unset, .unset, .unset] [(.int (0 : Int32)), (.ref b15), (.long jp3), (.int (2 : Int32)), (.ref b26), (.ref b26)])) rfl rfl (hb hby at_162)) ?_
    refine own_st (fun t k => XS.i2l X37.here hx rfl (hb hby at_163) rfl (XS.ladd X37.here hx rfl (hb hby at_164) rfl k)) ?_
    show own_Go _ _ _ _ T37 (mkF m 165 #[.val (.long jp0), .second, .val (.long jp1), .second, .val (.long jp2), .second, .val (.long jp3), .second, .val (.int ip4), .val (.int ip5), .val (.int ((ip5 &&& (2147483647 : Int32)) % (4 : Int32))), .val (.int (0 : Int32)), .val (.ref b1), .val (.ref b8), .val (.ref b15), .val (.ref b22), .unset, .unset, .unset, .unset, .unset] [(.long (jp3 + ((2 : Int32).toInt64))), (.int (2 : Int32)), (.ref b26), (.ref b26)])
    obtain ⟨c41, A41, q41, S41, M41, H41, G41⟩ := V37
    obtain ⟨T41, h41, X41, e41, W41, st41⟩ := stJ X37 hx hZ e37 A41 (j := (2 : Int32)) (inb_of S41 ⟨by decide, by decide⟩) (g := (mkF m 165 #[.val (.long jp0), .second, .val (.long jp1), .second, .val (.long jp2), .second, .val (.long jp3), .second, .val (.int ip4), .val (.int ip5), .val (.int ((ip5 &&& (2147483647 : Int32)) % (4 : Int32))), .val (.int (0 : Int32)), .val (.ref b1), .val (.ref b8), .val (.ref b15), .val (.ref b22), .unset, .unset, .unset, .unset, .unset] [(.long (jp3 + ((2 : Int32).toInt64))), (.int (2 : Int32)), (.ref b26), (.ref b26)])) rfl rfl (hb hby at_165)
    refine own_st st41 ?_
    have K41 : Keep h0 h41 [] := K37.wr W41 (Or.inr sz_b26)
    have Z41 := Nat.le_trans Z37 (Keep.of_wr W41).1
    have N41 := Fr.snoc X41 N37 g_b26
    have V41 : Arv Z h41 b26 k26 .long (3 : Int32) [(.long (jp3 + ((0 : Int32).toInt64))), (.long (jp3 + ((1 : Int32).toInt64))), (.long (jp3 + ((2 : Int32).toInt64)))] (.long (0 : Int64)) := Arv.set A41 q41 S41 M41 H41 G41 rfl W41 2 rfl (Nat.le_of_ble_eq_true rfl)
    refine own_st (fun t k => XS.astore X41.here hx rfl (hb hby at_166) rfl rfl (l' := #[.val (.long jp0), .second, .val (.long jp1), .second, .val (.long jp2), .second, .val (.long jp3), .second, .val (.int ip4), .val (.int ip5), .val (.int ((ip5 &&& (2147483647 : Int32)) % (4 : Int32))), .val (.int (0 : Int32)), .val (.ref b1), .val (.ref b8), .val (.ref b15), .val (.ref b22), .val (.ref b26), .unset, .unset, .unset, .unset]) rfl k) ?_
    show own_Go _ _ _ _ T41 (mkF m 168 #[.val (.long jp0), .second, .val (.long jp1), .second, .val (.long jp2), .second, .val (.long jp3), .second, .val (.int ip4), .val (.int ip5), .val (.int ((ip5 &&& (2147483647 : Int32)) % (4 : Int32))), .val (.int (0 : Int32)), .val (.ref b1), .val (.ref b8), .val (.ref b15), .val (.ref b22), .val (.ref b26), .unset, .unset, .unset, .unset] [])
    have f42 := (own_stak S_NONE K41 all0)
    have f43 := (E_w_NONE.keep K41)
    have f44 := (own_stak S_EMPTY K41 all0)
    have f45 := (E_w_EMPTY.keep K41)
    have f46 := (F_parts_w_EMPTY.keep K41 nin0)
    have f47 := (F_names_w_NONE.keep K41 nin0)
    have f48 := (V_w_EMPTY_parts.keep K41 nin0)
    have f49 := (V_w_NONE_names.keep K41 nin0)
    have ne50 : b1 ≠ b26 := Nat.ne_of_lt (Nat.lt_of_lt_of_le ((((((((((((((((((V7.ext E8).other W9 ne28).other W10 ne28).other W11 ne28).other W12 ne28).other W13 ne28).other W14 ne28).ext E15).other W16 ne29).other W17 ne29).other W18 ne29).other W19 ne29).other W20 ne29).other W21 ne29).ext E22).other W23 ne30).other W24 ne30).other W25 ne30).lt (Nat.le_of_eq g26.symm))
    have f51 := (((f31.other W32 ne50).other W37 ne50).other W41 ne50)
    have f52 := ((((((((((((((((((((((((((((Ex1.wr W2).wr W3).wr W4).wr W5).wr W6).wr W7).ext E8).wr W9).wr W10).wr W11).wr W12).wr W13).wr W14).ext E15).wr W16).wr W17).wr W18).wr W19).wr W20).wr W21).ext E22).wr W23).wr W24).wr W25).ext E26).wr W32).wr W37).wr W41)
    have f53 := ((f36.other W37 ne35).other W41 ne35)
    have f54 := (((((((((((((((((((((Ex8.wr W9).wr W10).wr W11).wr W12).wr W13).wr W14).ext E15).wr W16).wr W17).wr W18).wr W19).wr W20).wr W21).ext E22).wr W23).wr W24).wr W25).ext E26).wr W32).wr W37).wr W41)
    have f55 := (f40.other W41 ne39)
    have f56 := ((((((((((((((Ex15.wr W16).wr W17).wr W18).wr W19).wr W20).wr W21).ext E22).wr W23).wr W24).wr W25).ext E26).wr W32).wr W37).wr W41)
    have ne57 : b22 ≠ b26 := Nat.ne_of_lt (Nat.lt_of_lt_of_le V25.lt (Nat.le_of_eq g26.symm))
    have f58 := ((((V25.ext E26).other W32 ne57).other W37 ne57).other W41 ne57)
    have f59 := (((((((Ex22.wr W23).wr W24).wr W25).ext E26).wr W32).wr W37).wr W41)
    have f60 := (((Ex26.wr W32).wr W37).wr W41)
    exact own_cut168 jp0 jp1 jp2 jp3 ip4 ip5 ((ip5 &&& (2147483647 : Int32)) % (4 : Int32)) (0 : Int32) b1 b8 b15 b22 b26 w_NONE w_EMPTY w_EMPTY_parts w_NONE_names k_w_EMPTY_parts k_w_NONE_names k1 k8 k15 k22 k26 (jp3 + ((0 : Int32).toInt64)) (jp3 + ((1 : Int32).toInt64)) (jp3 + ((2 : Int32).toInt64)) X41 hx hZ hw hby hml hown hlk hret N41 Z41 e41 f42 f43 f44 f45 f46 f47 f48 f49 f51 f52 f53 f54 f55 f56 f58 f59 V41 f60 (own_rem1 _) (own_addne (by decide)) (own_addne (by decide)) (own_addne (by decide))
  · rw [qr27]
    show own_Go _ _ _ _ T26 (mkF m 134 #[.val (.long jp0), .second, .val (.long jp1), .second, .val (.long jp2), .second, .val (.long jp3), .second, .val (.int ip4), .val (.int ip5), .val (.int ((ip5 &&& (2147483647 : Int32)) % (4 : Int32))), .val (.int (1 : Int32)), .val (.ref b1), .val (.ref b8), .val (.ref b15), .val (.ref b22), .unset, .unset, .unset, .unset, .unset] [(.long jp3), (.int (0 : Int32)), (.ref b26), (.ref b26)])
    refine own_st (fun t k => XS.aload X26.here hx rfl (hb hby at_134) rfl rfl (XS.iload X26.here hx rfl (hb hby at_136) rfl k)) ?_
    have ne61 : b1 ≠ b8 := Nat.ne_of_lt (Nat.lt_of_lt_of_le V7.lt (Nat.le_of_eq g8.symm))
    have ne62 : b1 ≠ b15 := Nat.ne_of_lt (Nat.lt_of_lt_of_le (((((((V7.ext E8).other W9 ne61).other W10 ne61).other W11 ne61).other W12 ne61).other W13 ne61).other W14 ne61).lt (Nat.le_of_eq g15.symm))
    have ne63 : b1 ≠ b22 := Nat.ne_of_lt (Nat.lt_of_lt_of_le ((((((((((((((V7.ext E8).other W9 ne61).other W10 ne61).other W11 ne61).other W12 ne61).other W13 ne61).other W14 ne61).ext E15).other W16 ne62).other W17 ne62).other W18 ne62).other W19 ne62).other W20 ne62).other W21 ne62).lt (Nat.le_of_eq g22.symm))
    have f64 := (((((((((((((((((((V7.ext E8).other W9 ne61).other W10 ne61).other W11 ne61).other W12 ne61).other W13 ne61).other W14 ne61).ext E15).other W16 ne62).other W17 ne62).other W18 ne62).other W19 ne62).other W20 ne62).other W21 ne62).ext E22).other W23 ne63).other W24 ne63).other W25 ne63).ext E26)
    refine own_st (own_iaload X26 hx hZ e26 f64 (j := (1 : Int32)) (v := (.int (0 : Int32))) ⟨by decide, by decide⟩ rfl (g := (mkF m 138 #[.val (.long jp0), .second, .val (.long jp1), .second, .val (.long jp2), .second, .val (.long jp3), .second, .val (.int ip4), .val (.int ip5), .val (.int ((ip5 &&& (2147483647 : Int32)) % (4 : Int32))), .val (.int (1 : Int32)), .val (.ref b1), .val (.ref b8), .val (.ref b15), .val (.ref b22), .unset, .unset, .unset, .unset, .unset] [(.int (1 : Int32)), (.ref b1), (.long jp3), (.int (0 : Int32)), (.ref b26), (.ref b26)])) rfl rfl (hb hby at_138)) ?_
    show own_Go _ _ _ _ T26 (mkF m 139 #[.val (.long jp0), .second, .val (.long jp1), .second, .val (.long jp2), .second, .val (.long jp3), .second, .val (.int ip4), .val (.int ip5), .val (.int ((ip5 &&& (2147483647 : Int32)) % (4 : Int32))), .val (.int (1 : Int32)), .val (.ref b1), .val (.ref b8), .val (.ref b15), .val (.ref b22), .unset, .unset, .unset, .unset, .unset] [(.int (0 : Int32)), (.long jp3), (.int (0 : Int32)), (.ref b26), (.ref b26)])
    refine own_st (fun t k => XS.i2l X26.here hx rfl (hb hby at_139) rfl (XS.ladd X26.here hx rfl (hb hby at_140) rfl k)) ?_
    obtain ⟨c65, A65, q65, S65, M65, H65, G65⟩ := V26
    obtain ⟨T65, h65, X65, e65, W65, st65⟩ := stJ X26 hx hZ e26 A65 (j := (0 : Int32)) (inb_of S65 ⟨by decide, by decide⟩) (g := (mkF m 141 #[.val (.long jp0), .second, .val (.long jp1), .second, .val (.long jp2), .second, .val (.long jp3), .second, .val (.int ip4), .val (.int ip5), .val (.int ((ip5 &&& (2147483647 : Int32)) % (4 : Int32))), .val (.int (1 : Int32)), .val (.ref b1), .val (.ref b8), .val (.ref b15), .val (.ref b22), .unset, .unset, .unset, .unset, .unset] [(.long (jp3 + ((0 : Int32).toInt64))), (.int (0 : Int32)), (.ref b26), (.ref b26)])) rfl rfl (hb hby at_141)
    refine own_st st65 ?_
    have K65 : Keep h0 h65 [] := K26.wr W65 (Or.inr sz_b26)
    have Z65 := Nat.le_trans Z26 (Keep.of_wr W65).1
    have N65 := Fr.snoc X65 N25 g_b26
    have V65 : Arv Z h65 b26 k26 .long (3 : Int32) [(.long (jp3 + ((0 : Int32).toInt64))), (.long (0 : Int64)), (.long (0 : Int64))] (.long (0 : Int64)) := Arv.set A65 q65 S65 M65 H65 G65 rfl W65 0 rfl (Nat.le_of_ble_eq_true rfl)
    show own_Go _ _ _ _ T65 (mkF m 142 #[.val (.long jp0), .second, .val (.long jp1), .second, .val (.long jp2), .second, .val (.long jp3), .second, .val (.int ip4), .val (.int ip5), .val (.int ((ip5 &&& (2147483647 : Int32)) % (4 : Int32))), .val (.int (1 : Int32)), .val (.ref b1), .val (.ref b8), .val (.ref b15), .val (.ref b22), .unset, .unset, .unset, .unset, .unset] [(.ref b26)])
    refine own_st (fun t k => XS.dup X65.here hx rfl (hb hby at_142) rfl rfl (XS.iconst X65.here hx rfl (hb hby at_143) (XS.lload X65.here hx rfl (hb hby at_144) rfl k))) ?_
    show own_Go _ _ _ _ T65 (mkF m 146 #[.val (.long jp0), .second, .val (.long jp1), .second, .val (.long jp2), .second, .val (.long jp3), .second, .val (.int ip4), .val (.int ip5), .val (.int ((ip5 &&& (2147483647 : Int32)) % (4 : Int32))), .val (.int (1 : Int32)), .val (.ref b1), .val (.ref b8), .val (.ref b15), .val (.ref b22), .unset, .unset, .unset, .unset, .unset] [(.long jp3), (.int (1 : Int32)), (.ref b26), (.ref b26)])
    refine own_st (fun t k => XS.aload X65.here hx rfl (hb hby at_146) rfl rfl (XS.iload X65.here hx rfl (hb hby at_148) rfl k)) ?_
    have ne66 : b8 ≠ b15 := Nat.ne_of_lt (Nat.lt_of_lt_of_le V14.lt (Nat.le_of_eq g15.symm))
    have ne67 : b8 ≠ b22 := Nat.ne_of_lt (Nat.lt_of_lt_of_le (((((((V14.ext E15).other W16 ne66).other W17 ne66).other W18 ne66).other W19 ne66).other W20 ne66).other W21 ne66).lt (Nat.le_of_eq g22.symm))
    have ne68 : b8 ≠ b26 := Nat.ne_of_lt (Nat.lt_of_lt_of_le (((((((((((V14.ext E15).other W16 ne66).other W17 ne66).other W18 ne66).other W19 ne66).other W20 ne66).other W21 ne66).ext E22).other W23 ne67).other W24 ne67).other W25 ne67).lt (Nat.le_of_eq g26.symm))
    have f69 := (((((((((((((V14.ext E15).other W16 ne66).other W17 ne66).other W18 ne66).other W19 ne66).other W20 ne66).other W21 ne66).ext E22).other W23 ne67).other W24 ne67).other W25 ne67).ext E26).other W65 ne68)
    refine own_st (own_iaload X65 hx hZ e65 f69 (j := (1 : Int32)) (v := (.int (2 : Int32))) ⟨by decide, by decide⟩ rfl (g := (mkF m 150 #[.val (.long jp0), .second, .val (.long jp1), .second, .val (.long jp2), .second, .val (.long jp3), .second, .val (.int ip4), .val (.int ip5), .val (.int ((ip5 &&& (2147483647 : Int32)) % (4 : Int32))), .val (.int (1 : Int32)), .val (.ref b1), .val (.ref b8), .val (.ref b15), .val (.ref b22), .unset, .unset, .unset, .unset, .unset] [(.int (1 : Int32)), (.ref b8), (.long jp3), (.int (1 : Int32)), (.ref b26), (.ref b26)])) rfl rfl (hb hby at_150)) ?_
    show own_Go _ _ _ _ T65 (mkF m 151 #[.val (.long jp0), .second, .val (.long jp1), .second, .val (.long jp2), .second, .val (.long jp3), .second, .val (.int ip4), .val (.int ip5), .val (.int ((ip5 &&& (2147483647 : Int32)) % (4 : Int32))), .val (.int (1 : Int32)), .val (.ref b1), .val (.ref b8), .val (.ref b15), .val (.ref b22), .unset, .unset, .unset, .unset, .unset] [(.int (2 : Int32)), (.long jp3), (.int (1 : Int32)), (.ref b26), (.ref b26)])
    refine own_st (fun t k => XS.i2l X65.here hx rfl (hb hby at_151) rfl (XS.ladd X65.here hx rfl (hb hby at_152) rfl k)) ?_
    obtain ⟨c70, A70, q70, S70, M70, H70, G70⟩ := V65
    obtain ⟨T70, h70, X70, e70, W70, st70⟩ := stJ X65 hx hZ e65 A70 (j := (1 : Int32)) (inb_of S70 ⟨by decide, by decide⟩) (g := (mkF m 153 #[.val (.long jp0), .second, .val (.long jp1), .second, .val (.long jp2), .second, .val (.long jp3), .second, .val (.int ip4), .val (.int ip5), .val (.int ((ip5 &&& (2147483647 : Int32)) % (4 : Int32))), .val (.int (1 : Int32)), .val (.ref b1), .val (.ref b8), .val (.ref b15), .val (.ref b22), .unset, .unset, .unset, .unset, .unset] [(.long (jp3 + ((2 : Int32).toInt64))), (.int (1 : Int32)), (.ref b26), (.ref b26)])) rfl rfl (hb hby at_153)
    refine own_st st70 ?_
    have K70 : Keep h0 h70 [] := K65.wr W70 (Or.inr sz_b26)
    have Z70 := Nat.le_trans Z65 (Keep.of_wr W70).1
    have N70 := Fr.snoc X70 N65 g_b26
    have V70 : Arv Z h70 b26 k26 .long (3 : Int32) [(.long (jp3 + ((0 : Int32).toInt64))), (.long (jp3 + ((2 : Int32).toInt64))), (.long (0 : Int64))] (.long (0 : Int64)) := Arv.set A70 q70 S70 M70 H70 G70 rfl W70 1 rfl (Nat.le_of_ble_eq_true rfl)
    show own_Go _ _ _ _ T70 (mkF m 154 #[.val (.long jp0), .second, .val (.long jp1), .second, .val (.long jp2), .second, .val (.long jp3), .second, .val (.int ip4), .val (.int ip5), .val (.int ((ip5 &&& (2147483647 : Int32)) % (4 : Int32))), .val (.int (1 : Int32)), .val (.ref b1), .val (.ref b8), .val (.ref b15), .val (.ref b22), .unset, .unset, .unset, .unset, .unset] [(.ref b26)])
    refine own_st (fun t k => XS.dup X70.here hx rfl (hb hby at_154) rfl rfl (XS.iconst X70.here hx rfl (hb hby at_155) (XS.lload X70.here hx rfl (hb hby at_156) rfl k))) ?_
    show own_Go _ _ _ _ T70 (mkF m 158 #[.val (.long jp0), .second, .val (.long jp1), .second, .val (.long jp2), .second, .val (.long jp3), .second, .val (.int ip4), .val (.int ip5), .val (.int ((ip5 &&& (2147483647 : Int32)) % (4 : Int32))), .val (.int (1 : Int32)), .val (.ref b1), .val (.ref b8), .val (.ref b15), .val (.ref b22), .unset, .unset, .unset, .unset, .unset] [(.long jp3), (.int (2 : Int32)), (.ref b26), (.ref b26)])
    refine own_st (fun t k => XS.aload X70.here hx rfl (hb hby at_158) rfl rfl (XS.iload X70.here hx rfl (hb hby at_160) rfl k)) ?_
    have ne71 : b15 ≠ b22 := Nat.ne_of_lt (Nat.lt_of_lt_of_le V21.lt (Nat.le_of_eq g22.symm))
    have ne72 : b15 ≠ b26 := Nat.ne_of_lt (Nat.lt_of_lt_of_le ((((V21.ext E22).other W23 ne71).other W24 ne71).other W25 ne71).lt (Nat.le_of_eq g26.symm))
    have f73 := (((((((V21.ext E22).other W23 ne71).other W24 ne71).other W25 ne71).ext E26).other W65 ne72).other W70 ne72)
    refine own_st (own_iaload X70 hx hZ e70 f73 (j := (1 : Int32)) (v := (.int (1 : Int32))) ⟨by decide, by decide⟩ rfl (g := (mkF m 162 #[.val (.long jp0), .second, .val (.long jp1), .second, .val (.long jp2), .second, .val (.long jp3), .second, .val (.int ip4), .val (.int ip5), .val (.int ((ip5 &&& (2147483647 : Int32)) % (4 : Int32))), .val (.int (1 : Int32)), .val (.ref b1), .val (.ref b8), .val (.ref b15), .val (.ref b22), .unset, .unset, .unset, .unset, .unset] [(.int (1 : Int32)), (.ref b15), (.long jp3), (.int (2 : Int32)), (.ref b26), (.ref b26)])) rfl rfl (hb hby at_162)) ?_
    show own_Go _ _ _ _ T70 (mkF m 163 #[.val (.long jp0), .second, .val (.long jp1), .second, .val (.long jp2), .second, .val (.long jp3), .second, .val (.int ip4), .val (.int ip5), .val (.int ((ip5 &&& (2147483647 : Int32)) % (4 : Int32))), .val (.int (1 : Int32)), .val (.ref b1), .val (.ref b8), .val (.ref b15), .val (.ref b22), .unset, .unset, .unset, .unset, .unset] [(.int (1 : Int32)), (.long jp3), (.int (2 : Int32)), (.ref b26), (.ref b26)])
    refine own_st (fun t k => XS.i2l X70.here hx rfl (hb hby at_163) rfl (XS.ladd X70.here hx rfl (hb hby at_164) rfl k)) ?_
    obtain ⟨c74, A74, q74, S74, M74, H74, G74⟩ := V70
    obtain ⟨T74, h74, X74, e74, W74, st74⟩ := stJ X70 hx hZ e70 A74 (j := (2 : Int32)) (inb_of S74 ⟨by decide, by decide⟩) (g := (mkF m 165 #[.val (.long jp0), .second, .val (.long jp1), .second, .val (.long jp2), .second, .val (.long jp3), .second, .val (.int ip4), .val (.int ip5), .val (.int ((ip5 &&& (2147483647 : Int32)) % (4 : Int32))), .val (.int (1 : Int32)), .val (.ref b1), .val (.ref b8), .val (.ref b15), .val (.ref b22), .unset, .unset, .unset, .unset, .unset] [(.long (jp3 + ((1 : Int32).toInt64))), (.int (2 : Int32)), (.ref b26), (.ref b26)])) rfl rfl (hb hby at_165)
    refine own_st st74 ?_
    have K74 : Keep h0 h74 [] := K70.wr W74 (Or.inr sz_b26)
    have Z74 := Nat.le_trans Z70 (Keep.of_wr W74).1
    have N74 := Fr.snoc X74 N70 g_b26
    have V74 : Arv Z h74 b26 k26 .long (3 : Int32) [(.long (jp3 + ((0 : Int32).toInt64))), (.long (jp3 + ((2 : Int32).toInt64))), (.long (jp3 + ((1 : Int32).toInt64)))] (.long (0 : Int64)) := Arv.set A74 q74 S74 M74 H74 G74 rfl W74 2 rfl (Nat.le_of_ble_eq_true rfl)
    show own_Go _ _ _ _ T74 (mkF m 166 #[.val (.long jp0), .second, .val (.long jp1), .second, .val (.long jp2), .second, .val (.long jp3), .second, .val (.int ip4), .val (.int ip5), .val (.int ((ip5 &&& (2147483647 : Int32)) % (4 : Int32))), .val (.int (1 : Int32)), .val (.ref b1), .val (.ref b8), .val (.ref b15), .val (.ref b22), .unset, .unset, .unset, .unset, .unset] [(.ref b26)])
    refine own_st (fun t k => XS.astore X74.here hx rfl (hb hby at_166) rfl rfl (l' := #[.val (.long jp0), .second, .val (.long jp1), .second, .val (.long jp2), .second, .val (.long jp3), .second, .val (.int ip4), .val (.int ip5), .val (.int ((ip5 &&& (2147483647 : Int32)) % (4 : Int32))), .val (.int (1 : Int32)), .val (.ref b1), .val (.ref b8), .val (.ref b15), .val (.ref b22), .val (.ref b26), .unset, .unset, .unset, .unset]) rfl k) ?_
    show own_Go _ _ _ _ T74 (mkF m 168 #[.val (.long jp0), .second, .val (.long jp1), .second, .val (.long jp2), .second, .val (.long jp3), .second, .val (.int ip4), .val (.int ip5), .val (.int ((ip5 &&& (2147483647 : Int32)) % (4 : Int32))), .val (.int (1 : Int32)), .val (.ref b1), .val (.ref b8), .val (.ref b15), .val (.ref b22), .val (.ref b26), .unset, .unset, .unset, .unset] [])
    have f75 := (own_stak S_NONE K74 all0)
    have f76 := (E_w_NONE.keep K74)
    have f77 := (own_stak S_EMPTY K74 all0)
    have f78 := (E_w_EMPTY.keep K74)
    have f79 := (F_parts_w_EMPTY.keep K74 nin0)
    have f80 := (F_names_w_NONE.keep K74 nin0)
    have f81 := (V_w_EMPTY_parts.keep K74 nin0)
    have f82 := (V_w_NONE_names.keep K74 nin0)
    have ne83 : b1 ≠ b26 := Nat.ne_of_lt (Nat.lt_of_lt_of_le ((((((((((((((((((V7.ext E8).other W9 ne61).other W10 ne61).other W11 ne61).other W12 ne61).other W13 ne61).other W14 ne61).ext E15).other W16 ne62).other W17 ne62).other W18 ne62).other W19 ne62).other W20 ne62).other W21 ne62).ext E22).other W23 ne63).other W24 ne63).other W25 ne63).lt (Nat.le_of_eq g26.symm))
    have f84 := (((f64.other W65 ne83).other W70 ne83).other W74 ne83)
    have f85 := ((((((((((((((((((((((((((((Ex1.wr W2).wr W3).wr W4).wr W5).wr W6).wr W7).ext E8).wr W9).wr W10).wr W11).wr W12).wr W13).wr W14).ext E15).wr W16).wr W17).wr W18).wr W19).wr W20).wr W21).ext E22).wr W23).wr W24).wr W25).ext E26).wr W65).wr W70).wr W74)
    have f86 := ((f69.other W70 ne68).other W74 ne68)
    have f87 := (((((((((((((((((((((Ex8.wr W9).wr W10).wr W11).wr W12).wr W13).wr W14).ext E15).wr W16).wr W17).wr W18).wr W19).wr W20).wr W21).ext E22).wr W23).wr W24).wr W25).ext E26).wr W65).wr W70).wr W74)
    have f88 := (f73.other W74 ne72)
    have f89 := ((((((((((((((Ex15.wr W16).wr W17).wr W18).wr W19).wr W20).wr W21).ext E22).wr W23).wr W24).wr W25).ext E26).wr W65).wr W70).wr W74)
    have ne90 : b22 ≠ b26 := Nat.ne_of_lt (Nat.lt_of_lt_of_le V25.lt (Nat.le_of_eq g26.symm))
    have f91 := ((((V25.ext E26).other W65 ne90).other W70 ne90).other W74 ne90)
    have f92 := (((((((Ex22.wr W23).wr W24).wr W25).ext E26).wr W65).wr W70).wr W74)
    have f93 := (((Ex26.wr W65).wr W70).wr W74)
    exact own_cut168 jp0 jp1 jp2 jp3 ip4 ip5 ((ip5 &&& (2147483647 : Int32)) % (4 : Int32)) (1 : Int32) b1 b8 b15 b22 b26 w_NONE w_EMPTY w_EMPTY_parts w_NONE_names k_w_EMPTY_parts k_w_NONE_names k1 k8 k15 k22 k26 (jp3 + ((0 : Int32).toInt64)) (jp3 + ((2 : Int32).toInt64)) (jp3 + ((1 : Int32).toInt64)) X74 hx hZ hw hby hml hown hlk hret N74 Z74 e74 f75 f76 f77 f78 f79 f80 f81 f82 f84 f85 f86 f87 f88 f89 f91 f92 V74 f93 (own_rem1 _) (own_addne (by decide)) (own_addne (by decide)) (own_addne (by decide))
  · rw [qr27]
    refine own_st (fun t k => XS.aload X26.here hx rfl (hb hby at_134) rfl rfl k) ?_
    show own_Go _ _ _ _ T26 (mkF m 136 #[.val (.long jp0), .second, .val (.long jp1), .second, .val (.long jp2), .second, .val (.long jp3), .second, .val (.int ip4), .val (.int ip5), .val (.int ((ip5 &&& (2147483647 : Int32)) % (4 : Int32))), .val (.int (2 : Int32)), .val (.ref b1), .val (.ref b8), .val (.ref b15), .val (.ref b22), .unset, .unset, .unset, .unset, .unset] [(.ref b1), (.long jp3), (.int (0 : Int32)), (.ref b26), (.ref b26)])
    refine own_st (fun t k => XS.iload X26.here hx rfl (hb hby at_136) rfl k) ?_
    have ne94 : b1 ≠ b8 := Nat.ne_of_lt (Nat.lt_of_lt_of_le V7.lt (Nat.le_of_eq g8.symm))
    have ne95 : b1 ≠ b15 := Nat.ne_of_lt (Nat.lt_of_lt_of_le (((((((V7.ext E8).other W9 ne94).other W10 ne94).other W11 ne94).other W12 ne94).other W13 ne94).other W14 ne94).lt (Nat.le_of_eq g15.symm))
    have ne96 : b1 ≠ b22 := Nat.ne_of_lt (Nat.lt_of_lt_of_le ((((((((((((((V7.ext E8).other W9 ne94).other W10 ne94).other W11 ne94).other W12 ne94).other W13 ne94).other W14 ne94).ext E15).other W16 ne95).other W17 ne95).other W18 ne95).other W19 ne95).other W20 ne95).other W21 ne95).lt (Nat.le_of_eq g22.symm))
    have f97 := (((((((((((((((((((V7.ext E8).other W9 ne94).other W10 ne94).other W11 ne94).other W12 ne94).other W13 ne94).other W14 ne94).ext E15).other W16 ne95).other W17 ne95).other W18 ne95).other W19 ne95).other W20 ne95).other W21 ne95).ext E22).other W23 ne96).other W24 ne96).other W25 ne96).ext E26)
    refine own_st (own_iaload X26 hx hZ e26 f97 (j := (2 : Int32)) (v := (.int (1 : Int32))) ⟨by decide, by decide⟩ rfl (g := (mkF m 138 #[.val (.long jp0), .second, .val (.long jp1), .second, .val (.long jp2), .second, .val (.long jp3), .second, .val (.int ip4), .val (.int ip5), .val (.int ((ip5 &&& (2147483647 : Int32)) % (4 : Int32))), .val (.int (2 : Int32)), .val (.ref b1), .val (.ref b8), .val (.ref b15), .val (.ref b22), .unset, .unset, .unset, .unset, .unset] [(.int (2 : Int32)), (.ref b1), (.long jp3), (.int (0 : Int32)), (.ref b26), (.ref b26)])) rfl rfl (hb hby at_138)) ?_
    refine own_st (fun t k => XS.i2l X26.here hx rfl (hb hby at_139) rfl k) ?_
    show own_Go _ _ _ _ T26 (mkF m 140 #[.val (.long jp0), .second, .val (.long jp1), .second, .val (.long jp2), .second, .val (.long jp3), .second, .val (.int ip4), .val (.int ip5), .val (.int ((ip5 &&& (2147483647 : Int32)) % (4 : Int32))), .val (.int (2 : Int32)), .val (.ref b1), .val (.ref b8), .val (.ref b15), .val (.ref b22), .unset, .unset, .unset, .unset, .unset] [(.long ((1 : Int32).toInt64)), (.long jp3), (.int (0 : Int32)), (.ref b26), (.ref b26)])
    refine own_st (fun t k => XS.ladd X26.here hx rfl (hb hby at_140) rfl k) ?_
    obtain ⟨c98, A98, q98, S98, M98, H98, G98⟩ := V26
    obtain ⟨T98, h98, X98, e98, W98, st98⟩ := stJ X26 hx hZ e26 A98 (j := (0 : Int32)) (inb_of S98 ⟨by decide, by decide⟩) (g := (mkF m 141 #[.val (.long jp0), .second, .val (.long jp1), .second, .val (.long jp2), .second, .val (.long jp3), .second, .val (.int ip4), .val (.int ip5), .val (.int ((ip5 &&& (2147483647 : Int32)) % (4 : Int32))), .val (.int (2 : Int32)), .val (.ref b1), .val (.ref b8), .val (.ref b15), .val (.ref b22), .unset, .unset, .unset, .unset, .unset] [(.long (jp3 + ((1 : Int32).toInt64))), (.int (0 : Int32)), (.ref b26), (.ref b26)])) rfl rfl (hb hby at_141)
    refine own_st st98 ?_
    have K98 : Keep h0 h98 [] := K26.wr W98 (Or.inr sz_b26)
    have Z98 := Nat.le_trans Z26 (Keep.of_wr W98).1
    have N98 := Fr.snoc X98 N25 g_b26
    have V98 : Arv Z h98 b26 k26 .long (3 : Int32) [(.long (jp3 + ((1 : Int32).toInt64))), (.long (0 : Int64)), (.long (0 : Int64))] (.long (0 : Int64)) := Arv.set A98 q98 S98 M98 H98 G98 rfl W98 0 rfl (Nat.le_of_ble_eq_true rfl)
    refine own_st (fun t k => XS.dup X98.here hx rfl (hb hby at_142) rfl rfl k) ?_
    show own_Go _ _ _ _ T98 (mkF m 143 #[.val (.long jp0), .second, .val (.long jp1), .second, .val (.long jp2), .second, .val (.long jp3), .second, .val (.int ip4), .val (.int ip5), .val (.int ((ip5 &&& (2147483647 : Int32)) % (4 : Int32))), .val (.int (2 : Int32)), .val (.ref b1), .val (.ref b8), .val (.ref b15), .val (.ref b22), .unset, .unset, .unset, .unset, .unset] [(.ref b26), (.ref b26)])
    refine own_st (fun t k => XS.iconst X98.here hx rfl (hb hby at_143) (XS.lload X98.here hx rfl (hb hby at_144) rfl (XS.aload X98.here hx rfl (hb hby at_146) rfl rfl k))) ?_
    show own_Go _ _ _ _ T98 (mkF m 148 #[.val (.long jp0), .second, .val (.long jp1), .second, .val (.long jp2), .second, .val (.long jp3), .second, .val (.int ip4), .val (.int ip5), .val (.int ((ip5 &&& (2147483647 : Int32)) % (4 : Int32))), .val (.int (2 : Int32)), .val (.ref b1), .val (.ref b8), .val (.ref b15), .val (.ref b22), .unset, .unset, .unset, .unset, .unset] [(.ref b8), (.long jp3), (.int (1 : Int32)), (.ref b26), (.ref b26)])
    refine own_st (fun t k => XS.iload X98.here hx rfl (hb hby at_148) rfl k) ?_
    have ne99 : b8 ≠ b15 := Nat.ne_of_lt (Nat.lt_of_lt_of_le V14.lt (Nat.le_of_eq g15.symm))
    have ne100 : b8 ≠ b22 := Nat.ne_of_lt (Nat.lt_of_lt_of_le (((((((V14.ext E15).other W16 ne99).other W17 ne99).other W18 ne99).other W19 ne99).other W20 ne99).other W21 ne99).lt (Nat.le_of_eq g22.symm))
    have ne101 : b8 ≠ b26 := Nat.ne_of_lt (Nat.lt_of_lt_of_le (((((((((((V14.ext E15).other W16 ne99).other W17 ne99).other W18 ne99).other W19 ne99).other W20 ne99).other W21 ne99).ext E22).other W23 ne100).other W24 ne100).other W25 ne100).lt (Nat.le_of_eq g26.symm))
    have f102 := (((((((((((((V14.ext E15).other W16 ne99).other W17 ne99).other W18 ne99).other W19 ne99).other W20 ne99).other W21 ne99).ext E22).other W23 ne100).other W24 ne100).other W25 ne100).ext E26).other W98 ne101)
    refine own_st (own_iaload X98 hx hZ e98 f102 (j := (2 : Int32)) (v := (.int (0 : Int32))) ⟨by decide, by decide⟩ rfl (g := (mkF m 150 #[.val (.long jp0), .second, .val (.long jp1), .second, .val (.long jp2), .second, .val (.long jp3), .second, .val (.int ip4), .val (.int ip5), .val (.int ((ip5 &&& (2147483647 : Int32)) % (4 : Int32))), .val (.int (2 : Int32)), .val (.ref b1), .val (.ref b8), .val (.ref b15), .val (.ref b22), .unset, .unset, .unset, .unset, .unset] [(.int (2 : Int32)), (.ref b8), (.long jp3), (.int (1 : Int32)), (.ref b26), (.ref b26)])) rfl rfl (hb hby at_150)) ?_
    refine own_st (fun t k => XS.i2l X98.here hx rfl (hb hby at_151) rfl k) ?_
    show own_Go _ _ _ _ T98 (mkF m 152 #[.val (.long jp0), .second, .val (.long jp1), .second, .val (.long jp2), .second, .val (.long jp3), .second, .val (.int ip4), .val (.int ip5), .val (.int ((ip5 &&& (2147483647 : Int32)) % (4 : Int32))), .val (.int (2 : Int32)), .val (.ref b1), .val (.ref b8), .val (.ref b15), .val (.ref b22), .unset, .unset, .unset, .unset, .unset] [(.long ((0 : Int32).toInt64)), (.long jp3), (.int (1 : Int32)), (.ref b26), (.ref b26)])
    refine own_st (fun t k => XS.ladd X98.here hx rfl (hb hby at_152) rfl k) ?_
    obtain ⟨c103, A103, q103, S103, M103, H103, G103⟩ := V98
    obtain ⟨T103, h103, X103, e103, W103, st103⟩ := stJ X98 hx hZ e98 A103 (j := (1 : Int32)) (inb_of S103 ⟨by decide, by decide⟩) (g := (mkF m 153 #[.val (.long jp0), .second, .val (.long jp1), .second, .val (.long jp2), .second, .val (.long jp3), .second, .val (.int ip4), .val (.int ip5), .val (.int ((ip5 &&& (2147483647 : Int32)) % (4 : Int32))), .val (.int (2 : Int32)), .val (.ref b1), .val (.ref b8), .val (.ref b15), .val (.ref b22), .unset, .unset, .unset, .unset, .unset] [(.long (jp3 + ((0 : Int32).toInt64))), (.int (1 : Int32)), (.ref b26), (.ref b26)])) rfl rfl (hb hby at_153)
    refine own_st st103 ?_
    have K103 : Keep h0 h103 [] := K98.wr W103 (Or.inr sz_b26)
    have Z103 := Nat.le_trans Z98 (Keep.of_wr W103).1
    have N103 := Fr.snoc X103 N98 g_b26
    have V103 : Arv Z h103 b26 k26 .long (3 : Int32) [(.long (jp3 + ((1 : Int32).toInt64))), (.long (jp3 + ((0 : Int32).toInt64))), (.long (0 : Int64))] (.long (0 : Int64)) := Arv.set A103 q103 S103 M103 H103 G103 rfl W103 1 rfl (Nat.le_of_ble_eq_true rfl)
    refine own_st (fun t k => XS.dup X103.here hx rfl (hb hby at_154) rfl rfl k) ?_
    show own_Go _ _ _ _ T103 (mkF m 155 #[.val (.long jp0), .second, .val (.long jp1), .second, .val (.long jp2), .second, .val (.long jp3), .second, .val (.int ip4), .val (.int ip5), .val (.int ((ip5 &&& (2147483647 : Int32)) % (4 : Int32))), .val (.int (2 : Int32)), .val (.ref b1), .val (.ref b8), .val (.ref b15), .val (.ref b22), .unset, .unset, .unset, .unset, .unset] [(.ref b26), (.ref b26)])
    refine own_st (fun t k => XS.iconst X103.here hx rfl (hb hby at_155) (XS.lload X103.here hx rfl (hb hby at_156) rfl (XS.aload X103.here hx rfl (hb hby at_158) rfl rfl k))) ?_
    show own_Go _ _ _ _ T103 (mkF m 160 #[.val (.long jp0), .second, .val (.long jp1), .second, .val (.long jp2), .second, .val (.long jp3), .second, .val (.int ip4), .val (.int ip5), .val (.int ((ip5 &&& (2147483647 : Int32)) % (4 : Int32))), .val (.int (2 : Int32)), .val (.ref b1), .val (.ref b8), .val (.ref b15), .val (.ref b22), .unset, .unset, .unset, .unset, .unset] [(.ref b15), (.long jp3), (.int (2 : Int32)), (.ref b26), (.ref b26)])
    refine own_st (fun t k => XS.iload X103.here hx rfl (hb hby at_160) rfl k) ?_
    have ne104 : b15 ≠ b22 := Nat.ne_of_lt (Nat.lt_of_lt_of_le V21.lt (Nat.le_of_eq g22.symm))
    have ne105 : b15 ≠ b26 := Nat.ne_of_lt (Nat.lt_of_lt_of_le ((((V21.ext E22).other W23 ne104).other W24 ne104).other W25 ne104).lt (Nat.le_of_eq g26.symm))
    have f106 := (((((((V21.ext E22).other W23 ne104).other W24 ne104).other W25 ne104).ext E26).other W98 ne105).other W103 ne105)
    refine own_st (own_iaload X103 hx hZ e103 f106 (j := (2 : Int32)) (v := (.int (2 : Int32))) ⟨by decide, by decide⟩ rfl (g := (mkF m 162 #[.val (.long jp0), .second, .val (.long jp1), .second, .val (.long jp2), .second, .val (.long jp3), .second, .val (.int ip4), .val (.int ip5), .val (.int ((ip5 &&& (2147483647 : Int32)) % (4 : Int32))), .val (.int (2 : Int32)), .val (.ref b1), .val (.ref b8), .val (.ref b15), .val (.ref b22), .unset, .unset, .unset, .unset, .unset] [(.int (2 : Int32)), (.ref b15), (.long jp3), (.int (2 : Int32)), (.ref b26), (.ref b26)])) rfl rfl (hb hby at_162)) ?_
    refine own_st (fun t k => XS.i2l X103.here hx rfl (hb hby at_163) rfl k) ?_
    show own_Go _ _ _ _ T103 (mkF m 164 #[.val (.long jp0), .second, .val (.long jp1), .second, .val (.long jp2), .second, .val (.long jp3), .second, .val (.int ip4), .val (.int ip5), .val (.int ((ip5 &&& (2147483647 : Int32)) % (4 : Int32))), .val (.int (2 : Int32)), .val (.ref b1), .val (.ref b8), .val (.ref b15), .val (.ref b22), .unset, .unset, .unset, .unset, .unset] [(.long ((2 : Int32).toInt64)), (.long jp3), (.int (2 : Int32)), (.ref b26), (.ref b26)])
    refine own_st (fun t k => XS.ladd X103.here hx rfl (hb hby at_164) rfl k) ?_
    obtain ⟨c107, A107, q107, S107, M107, H107, G107⟩ := V103
    obtain ⟨T107, h107, X107, e107, W107, st107⟩ := stJ X103 hx hZ e103 A107 (j := (2 : Int32)) (inb_of S107 ⟨by decide, by decide⟩) (g := (mkF m 165 #[.val (.long jp0), .second, .val (.long jp1), .second, .val (.long jp2), .second, .val (.long jp3), .second, .val (.int ip4), .val (.int ip5), .val (.int ((ip5 &&& (2147483647 : Int32)) % (4 : Int32))), .val (.int (2 : Int32)), .val (.ref b1), .val (.ref b8), .val (.ref b15), .val (.ref b22), .unset, .unset, .unset, .unset, .unset] [(.long (jp3 + ((2 : Int32).toInt64))), (.int (2 : Int32)), (.ref b26), (.ref b26)])) rfl rfl (hb hby at_165)
    refine own_st st107 ?_
    have K107 : Keep h0 h107 [] := K103.wr W107 (Or.inr sz_b26)
    have Z107 := Nat.le_trans Z103 (Keep.of_wr W107).1
    have N107 := Fr.snoc X107 N103 g_b26
    have V107 : Arv Z h107 b26 k26 .long (3 : Int32) [(.long (jp3 + ((1 : Int32).toInt64))), (.long (jp3 + ((0 : Int32).toInt64))), (.long (jp3 + ((2 : Int32).toInt64)))] (.long (0 : Int64)) := Arv.set A107 q107 S107 M107 H107 G107 rfl W107 2 rfl (Nat.le_of_ble_eq_true rfl)
    refine own_st (fun t k => XS.astore X107.here hx rfl (hb hby at_166) rfl rfl (l' := #[.val (.long jp0), .second, .val (.long jp1), .second, .val (.long jp2), .second, .val (.long jp3), .second, .val (.int ip4), .val (.int ip5), .val (.int ((ip5 &&& (2147483647 : Int32)) % (4 : Int32))), .val (.int (2 : Int32)), .val (.ref b1), .val (.ref b8), .val (.ref b15), .val (.ref b22), .val (.ref b26), .unset, .unset, .unset, .unset]) rfl k) ?_
    show own_Go _ _ _ _ T107 (mkF m 168 #[.val (.long jp0), .second, .val (.long jp1), .second, .val (.long jp2), .second, .val (.long jp3), .second, .val (.int ip4), .val (.int ip5), .val (.int ((ip5 &&& (2147483647 : Int32)) % (4 : Int32))), .val (.int (2 : Int32)), .val (.ref b1), .val (.ref b8), .val (.ref b15), .val (.ref b22), .val (.ref b26), .unset, .unset, .unset, .unset] [])
    have f108 := (own_stak S_NONE K107 all0)
    have f109 := (E_w_NONE.keep K107)
    have f110 := (own_stak S_EMPTY K107 all0)
    have f111 := (E_w_EMPTY.keep K107)
    have f112 := (F_parts_w_EMPTY.keep K107 nin0)
    have f113 := (F_names_w_NONE.keep K107 nin0)
    have f114 := (V_w_EMPTY_parts.keep K107 nin0)
    have f115 := (V_w_NONE_names.keep K107 nin0)
    have ne116 : b1 ≠ b26 := Nat.ne_of_lt (Nat.lt_of_lt_of_le ((((((((((((((((((V7.ext E8).other W9 ne94).other W10 ne94).other W11 ne94).other W12 ne94).other W13 ne94).other W14 ne94).ext E15).other W16 ne95).other W17 ne95).other W18 ne95).other W19 ne95).other W20 ne95).other W21 ne95).ext E22).other W23 ne96).other W24 ne96).other W25 ne96).lt (Nat.le_of_eq g26.symm))
    have f117 := (((f97.other W98 ne116).other W103 ne116).other W107 ne116)
    have f118 := ((((((((((((((((((((((((((((Ex1.wr W2).wr W3).wr W4).wr W5).wr W6).wr W7).ext E8).wr W9).wr W10).wr W11).wr W12).wr W13).wr W14).ext E15).wr W16).wr W17).wr W18).wr W19).wr W20).wr W21).ext E22).wr W23).wr W24).wr W25).ext E26).wr W98).wr W103).wr W107)
    have f119 := ((f102.other W103 ne101).other W107 ne101)
    have f120 := (((((((((((((((((((((Ex8.wr W9).wr W10).wr W11).wr W12).wr W13).wr W14).ext E15).wr W16).wr W17).wr W18).wr W19).wr W20).wr W21).ext E22).wr W23).wr W24).wr W25).ext E26).wr W98).wr W103).wr W107)
    have f121 := (f106.other W107 ne105)
    have f122 := ((((((((((((((Ex15.wr W16).wr W17).wr W18).wr W19).wr W20).wr W21).ext E22).wr W23).wr W24).wr W25).ext E26).wr W98).wr W103).wr W107)
    have ne123 : b22 ≠ b26 := Nat.ne_of_lt (Nat.lt_of_lt_of_le V25.lt (Nat.le_of_eq g26.symm))
    have f124 := ((((V25.ext E26).other W98 ne123).other W103 ne123).other W107 ne123)
    have f125 := (((((((Ex22.wr W23).wr W24).wr W25).ext E26).wr W98).wr W103).wr W107)
    have f126 := (((Ex26.wr W98).wr W103).wr W107)
    exact own_cut168 jp0 jp1 jp2 jp3 ip4 ip5 ((ip5 &&& (2147483647 : Int32)) % (4 : Int32)) (2 : Int32) b1 b8 b15 b22 b26 w_NONE w_EMPTY w_EMPTY_parts w_NONE_names k_w_EMPTY_parts k_w_NONE_names k1 k8 k15 k22 k26 (jp3 + ((1 : Int32).toInt64)) (jp3 + ((0 : Int32).toInt64)) (jp3 + ((2 : Int32).toInt64)) X107 hx hZ hw hby hml hown hlk hret N107 Z107 e107 f108 f109 f110 f111 f112 f113 f114 f115 f117 f118 f119 f120 f121 f122 f124 f125 V107 f126 (own_rem1 _) (own_addne (by decide)) (own_addne (by decide)) (own_addne (by decide))
  · rw [qr27]
    refine own_st (fun t k => XS.aload X26.here hx rfl (hb hby at_134) rfl rfl (XS.iload X26.here hx rfl (hb hby at_136) rfl k)) ?_
    show own_Go _ _ _ _ T26 (mkF m 138 #[.val (.long jp0), .second, .val (.long jp1), .second, .val (.long jp2), .second, .val (.long jp3), .second, .val (.int ip4), .val (.int ip5), .val (.int ((ip5 &&& (2147483647 : Int32)) % (4 : Int32))), .val (.int (3 : Int32)), .val (.ref b1), .val (.ref b8), .val (.ref b15), .val (.ref b22), .unset, .unset, .unset, .unset, .unset] [(.int (3 : Int32)), (.ref b1), (.long jp3), (.int (0 : Int32)), (.ref b26), (.ref b26)])
    have ne127 : b1 ≠ b8 := Nat.ne_of_lt (Nat.lt_of_lt_of_le V7.lt (Nat.le_of_eq g8.symm))
    have ne128 : b1 ≠ b15 := Nat.ne_of_lt (Nat.lt_of_lt_of_le (((((((V7.ext E8).other W9 ne127).other W10 ne127).other W11 ne127).other W12 ne127).other W13 ne127).other W14 ne127).lt (Nat.le_of_eq g15.symm))
    have ne129 : b1 ≠ b22 := Nat.ne_of_lt (Nat.lt_of_lt_of_le ((((((((((((((V7.ext E8).other W9 ne127).other W10 ne127).other W11 ne127).other W12 ne127).other W13 ne127).other W14 ne127).ext E15).other W16 ne128).other W17 ne128).other W18 ne128).other W19 ne128).other W20 ne128).other W21 ne128).lt (Nat.le_of_eq g22.symm))
    have f130 := (((((((((((((((((((V7.ext E8).other W9 ne127).other W10 ne127).other W11 ne127).other W12 ne127).other W13 ne127).other W14 ne127).ext E15).other W16 ne128).other W17 ne128).other W18 ne128).other W19 ne128).other W20 ne128).other W21 ne128).ext E22).other W23 ne129).other W24 ne129).other W25 ne129).ext E26)
    refine own_st (own_iaload X26 hx hZ e26 f130 (j := (3 : Int32)) (v := (.int (1 : Int32))) ⟨by decide, by decide⟩ rfl (g := (mkF m 138 #[.val (.long jp0), .second, .val (.long jp1), .second, .val (.long jp2), .second, .val (.long jp3), .second, .val (.int ip4), .val (.int ip5), .val (.int ((ip5 &&& (2147483647 : Int32)) % (4 : Int32))), .val (.int (3 : Int32)), .val (.ref b1), .val (.ref b8), .val (.ref b15), .val (.ref b22), .unset, .unset, .unset, .unset, .unset] [(.int (3 : Int32)), (.ref b1), (.long jp3), (.int (0 : Int32)), (.ref b26), (.ref b26)])) rfl rfl (hb hby at_138)) ?_
    refine own_st (fun t k => XS.i2l X26.here hx rfl (hb hby at_139) rfl (XS.ladd X26.here hx rfl (hb hby at_140) rfl k)) ?_
    show own_Go _ _ _ _ T26 (mkF m 141 #[.val (.long jp0), .second, .val (.long jp1), .second, .val (.long jp2), .second, .val (.long jp3), .second, .val (.int ip4), .val (.int ip5), .val (.int ((ip5 &&& (2147483647 : Int32)) % (4 : Int32))), .val (.int (3 : Int32)), .val (.ref b1), .val (.ref b8), .val (.ref b15), .val (.ref b22), .unset, .unset, .unset, .unset, .unset] [(.long (jp3 + ((1 : Int32).toInt64))), (.int (0 : Int32)), (.ref b26), (.ref b26)])
    obtain ⟨c131, A131, q131, S131, M131, H131, G131⟩ := V26
    obtain ⟨T131, h131, X131, e131, W131, st131⟩ := stJ X26 hx hZ e26 A131 (j := (0 : Int32)) (inb_of S131 ⟨by decide, by decide⟩) (g := (mkF m 141 #[.val (.long jp0), .second, .val (.long jp1), .second, .val (.long jp2), .second, .val (.long jp3), .second, .val (.int ip4), .val (.int ip5), .val (.int ((ip5 &&& (2147483647 : Int32)) % (4 : Int32))), .val (.int (3 : Int32)), .val (.ref b1), .val (.ref b8), .val (.ref b15), .val (.ref b22), .unset, .unset, .unset, .unset, .unset] [(.long (jp3 + ((1 : Int32).toInt64))), (.int (0 : Int32)), (.ref b26), (.ref b26)])) rfl rfl (hb hby at_141)
    refine own_st st131 ?_
    have K131 : Keep h0 h131 [] := K26.wr W131 (Or.inr sz_b26)
    have Z131 := Nat.le_trans Z26 (Keep.of_wr W131).1
    have N131 := Fr.snoc X131 N25 g_b26
    have V131 : Arv Z h131 b26 k26 .long (3 : Int32) [(.long (jp3 + ((1 : Int32).toInt64))), (.long (0 : Int64)), (.long (0 : Int64))] (.long (0 : Int64)) := Arv.set A131 q131 S131 M131 H131 G131 rfl W131 0 rfl (Nat.le_of_ble_eq_true rfl)
    refine own_st (fun t k => XS.dup X131.here hx rfl (hb hby at_142) rfl rfl (XS.iconst X131.here hx rfl (hb hby at_143) k)) ?_
    show own_Go _ _ _ _ T131 (mkF m 144 #[.val (.long jp0), .second, .val (.long jp1), .second, .val (.long jp2), .second, .val (.long jp3), .second, .val (.int ip4), .val (.int ip5), .val (.int ((ip5 &&& (2147483647 : Int32)) % (4 : Int32))), .val (.int (3 : Int32)), .val (.ref b1), .val (.ref b8), .val (.ref b15), .val (.ref b22), .unset, .unset, .unset, .unset, .unset] [(.int (1 : Int32)), (.ref b26), (.ref b26)])
    refine own_st (fun t k => XS.lload X131.here hx rfl (hb hby at_144) rfl (XS.aload X131.here hx rfl (hb hby at_146) rfl rfl (XS.iload X131.here hx rfl (hb hby at_148) rfl k))) ?_
    show own_Go _ _ _ _ T131 (mkF m 150 #[.val (.long jp0), .second, .val (.long jp1), .second, .val (.long jp2), .second, .val (.long jp3), .second, .val (.int ip4), .val (.int ip5), .val (.int ((ip5 &&& (2147483647 : Int32)) % (4 : Int32))), .val (.int (3 : Int32)), .val (.ref b1), .val (.ref b8), .val (.ref b15), .val (.ref b22), .unset, .unset, .unset, .unset, .unset] [(.int (3 : Int32)), (.ref b8), (.long jp3), (.int (1 : Int32)), (.ref b26), (.ref b26)])
    have ne132 : b8 ≠ b15 := Nat.ne_of_lt (Nat.lt_of_lt_of_le V14.lt (Nat.le_of_eq g15.symm))
    have ne133 : b8 ≠ b22 := Nat.ne_of_lt (Nat.lt_of_lt_of_le (((((((V14.ext E15).other W16 ne132).other W17 ne132).other W18 ne132).other W19 ne132).other W20 ne132).other W21 ne132).lt (Nat.le_of_eq g22.symm))
    have ne134 : b8 ≠ b26 := Nat.ne_of_lt (Nat.lt_of_lt_of_le (((((((((((V14.ext E15).other W16 ne132).other W17 ne132).other W18 ne132).other W19 ne132).other W20 ne132).other W21 ne132).ext E22).other W23 ne133).other W24 ne133).other W25 ne133).lt (Nat.le_of_eq g26.symm))
    have f135 := (((((((((((((V14.ext E15).other W16 ne132).other W17 ne132).other W18 ne132).other W19 ne132).other W20 ne132).other W21 ne132).ext E22).other W23 ne133).other W24 ne133).other W25 ne133).ext E26).other W131 ne134)
    refine own_st (own_iaload X131 hx hZ e131 f135 (j := (3 : Int32)) (v := (.int (2 : Int32))) ⟨by decide, by decide⟩ rfl (g := (mkF m 150 #[.val (.long jp0), .second, .val (.long jp1), .second, .val (.long jp2), .second, .val (.long jp3), .second, .val (.int ip4), .val (.int ip5), .val (.int ((ip5 &&& (2147483647 : Int32)) % (4 : Int32))), .val (.int (3 : Int32)), .val (.ref b1), .val (.ref b8), .val (.ref b15), .val (.ref b22), .unset, .unset, .unset, .unset, .unset] [(.int (3 : Int32)), (.ref b8), (.long jp3), (.int (1 : Int32)), (.ref b26), (.ref b26)])) rfl rfl (hb hby at_150)) ?_
    refine own_st (fun t k => XS.i2l X131.here hx rfl (hb hby at_151) rfl (XS.ladd X131.here hx rfl (hb hby at_152) rfl k)) ?_
    show own_Go _ _ _ _ T131 (mkF m 153 #[.val (.long jp0), .second, .val (.long jp1), .second, .val (.long jp2), .second, .val (.long jp3), .second, .val (.int ip4), .val (.int ip5), .val (.int ((ip5 &&& (2147483647 : Int32)) % (4 : Int32))), .val (.int (3 : Int32)), .val (.ref b1), .val (.ref b8), .val (.ref b15), .val (.ref b22), .unset, .unset, .unset, .unset, .unset] [(.long (jp3 + ((2 : Int32).toInt64))), (.int (1 : Int32)), (.ref b26), (.ref b26)])
    obtain ⟨c136, A136, q136, S136, M136, H136, G136⟩ := V131
    obtain ⟨T136, h136, X136, e136, W136, st136⟩ := stJ X131 hx hZ e131 A136 (j := (1 : Int32)) (inb_of S136 ⟨by decide, by decide⟩) (g := (mkF m 153 #[.val (.long jp0), .second, .val (.long jp1), .second, .val (.long jp2), .second, .val (.long jp3), .second, .val (.int ip4), .val (.int ip5), .val (.int ((ip5 &&& (2147483647 : Int32)) % (4 : Int32))), .val (.int (3 : Int32)), .val (.ref b1), .val (.ref b8), .val (.ref b15), .val (.ref b22), .unset, .unset, .unset, .unset, .unset] [(.long (jp3 + ((2 : Int32).toInt64))), (.int (1 : Int32)), (.ref b26), (.ref b26)])) rfl rfl (hb hby at_153)
    refine own_st st136 ?_
    have K136 : Keep h0 h136 [] := K131.wr W136 (Or.inr sz_b26)
    have Z136 := Nat.le_trans Z131 (Keep.of_wr W136).1
    have N136 := Fr.snoc X136 N131 g_b26
    have V136 : Arv Z h136 b26 k26 .long (3 : Int32) [(.long (jp3 + ((1 : Int32).toInt64))), (.long (jp3 + ((2 : Int32).toInt64))), (.long (0 : Int64))] (.long (0 : Int64)) := Arv.set A136 q136 S136 M136 H136 G136 rfl W136 1 rfl (Nat.le_of_ble_eq_true rfl)
    refine own_st (fun t k => XS.dup X136.here hx rfl (hb hby at_154) rfl rfl (XS.iconst X136.here hx rfl (hb hby at_155) k)) ?_
    show own_Go _ _ _ _ T136 (mkF m 156 #[.val (.long jp0), .second, .val (.long jp1), .second, .val (.long jp2), .second, .val (.long jp3), .second, .val (.int ip4), .val (.int ip5), .val (.int ((ip5 &&& (2147483647 : Int32)) % (4 : Int32))), .val (.int (3 : Int32)), .val (.ref b1), .val (.ref b8), .val (.ref b15), .val (.ref b22), .unset, .unset, .unset, .unset, .unset] [(.int (2 : Int32)), (.ref b26), (.ref b26)])
    refine own_st (fun t k => XS.lload X136.here hx rfl (hb hby at_156) rfl (XS.aload X136.here hx rfl (hb hby at_158) rfl rfl (XS.iload X136.here hx rfl (hb hby at_160) rfl k))) ?_
    show own_Go _ _ _ _ T136 (mkF m 162 #[.val (.long jp0), .second, .val (.long jp1), .second, .val (.long jp2), .second, .val (.long jp3), .second, .val (.int ip4), .val (.int ip5), .val (.int ((ip5 &&& (2147483647 : Int32)) % (4 : Int32))), .val (.int (3 : Int32)), .val (.ref b1), .val (.ref b8), .val (.ref b15), .val (.ref b22), .unset, .unset, .unset, .unset, .unset] [(.int (3 : Int32)), (.ref b15), (.long jp3), (.int (2 : Int32)), (.ref b26), (.ref b26)])
    have ne137 : b15 ≠ b22 := Nat.ne_of_lt (Nat.lt_of_lt_of_le V21.lt (Nat.le_of_eq g22.symm))
    have ne138 : b15 ≠ b26 := Nat.ne_of_lt (Nat.lt_of_lt_of_le ((((V21.ext E22).other W23 ne137).other W24 ne137).other W25 ne137).lt (Nat.le_of_eq g26.symm))
    have f139 := (((((((V21.ext E22).other W23 ne137).other W24 ne137).other W25 ne137).ext E26).other W131 ne138).other W136 ne138)
    refine own_st (own_iaload X136 hx hZ e136 f139 (j := (3 : Int32)) (v := (.int (0 : Int32))) ⟨by decide, by decide⟩ rfl (g := (mkF m 162 #[.val (.long jp0), .second, .val (.long jp1), .second, .val (.long jp2), .second, .val (.long jp3), .second, .val (.int ip4), .val (.int ip5), .val (.int ((ip5 &&& (2147483647 : Int32)) % (4 : Int32))), .val (.int (3 : Int32)), .val (.ref b1), .val (.ref b8), .val (.ref b15), .val (.ref b22), .unset, .unset, .unset, .unset, .unset] [(.int (3 : Int32)), (.ref b15), (.long jp3), (.int (2 : Int32)), (.ref b26), (.ref b26)])) rfl rfl (hb hby at_162)) ?_
    refine own_st (fun t k => XS.i2l X136.here hx rfl (hb hby at_163) rfl (XS.ladd X136.here hx rfl (hb hby at_164) rfl k)) ?_
    show own_Go _ _ _ _ T136 (mkF m 165 #[.val (.long jp0), .second, .val (.long jp1), .second, .val (.long jp2), .second, .val (.long jp3), .second, .val (.int ip4), .val (.int ip5), .val (.int ((ip5 &&& (2147483647 : Int32)) % (4 : Int32))), .val (.int (3 : Int32)), .val (.ref b1), .val (.ref b8), .val (.ref b15), .val (.ref b22), .unset, .unset, .unset, .unset, .unset] [(.long (jp3 + ((0 : Int32).toInt64))), (.int (2 : Int32)), (.ref b26), (.ref b26)])
    obtain ⟨c140, A140, q140, S140, M140, H140, G140⟩ := V136
    obtain ⟨T140, h140, X140, e140, W140, st140⟩ := stJ X136 hx hZ e136 A140 (j := (2 : Int32)) (inb_of S140 ⟨by decide, by decide⟩) (g := (mkF m 165 #[.val (.long jp0), .second, .val (.long jp1), .second, .val (.long jp2), .second, .val (.long jp3), .second, .val (.int ip4), .val (.int ip5), .val (.int ((ip5 &&& (2147483647 : Int32)) % (4 : Int32))), .val (.int (3 : Int32)), .val (.ref b1), .val (.ref b8), .val (.ref b15), .val (.ref b22), .unset, .unset, .unset, .unset, .unset] [(.long (jp3 + ((0 : Int32).toInt64))), (.int (2 : Int32)), (.ref b26), (.ref b26)])) rfl rfl (hb hby at_165)
    refine own_st st140 ?_
    have K140 : Keep h0 h140 [] := K136.wr W140 (Or.inr sz_b26)
    have Z140 := Nat.le_trans Z136 (Keep.of_wr W140).1
    have N140 := Fr.snoc X140 N136 g_b26
    have V140 : Arv Z h140 b26 k26 .long (3 : Int32) [(.long (jp3 + ((1 : Int32).toInt64))), (.long (jp3 + ((2 : Int32).toInt64))), (.long (jp3 + ((0 : Int32).toInt64)))] (.long (0 : Int64)) := Arv.set A140 q140 S140 M140 H140 G140 rfl W140 2 rfl (Nat.le_of_ble_eq_true rfl)
    refine own_st (fun t k => XS.astore X140.here hx rfl (hb hby at_166) rfl rfl (l' := #[.val (.long jp0), .second, .val (.long jp1), .second, .val (.long jp2), .second, .val (.long jp3), .second, .val (.int ip4), .val (.int ip5), .val (.int ((ip5 &&& (2147483647 : Int32)) % (4 : Int32))), .val (.int (3 : Int32)), .val (.ref b1), .val (.ref b8), .val (.ref b15), .val (.ref b22), .val (.ref b26), .unset, .unset, .unset, .unset]) rfl k) ?_
    show own_Go _ _ _ _ T140 (mkF m 168 #[.val (.long jp0), .second, .val (.long jp1), .second, .val (.long jp2), .second, .val (.long jp3), .second, .val (.int ip4), .val (.int ip5), .val (.int ((ip5 &&& (2147483647 : Int32)) % (4 : Int32))), .val (.int (3 : Int32)), .val (.ref b1), .val (.ref b8), .val (.ref b15), .val (.ref b22), .val (.ref b26), .unset, .unset, .unset, .unset] [])
    have f141 := (own_stak S_NONE K140 all0)
    have f142 := (E_w_NONE.keep K140)
    have f143 := (own_stak S_EMPTY K140 all0)
    have f144 := (E_w_EMPTY.keep K140)
    have f145 := (F_parts_w_EMPTY.keep K140 nin0)
    have f146 := (F_names_w_NONE.keep K140 nin0)
    have f147 := (V_w_EMPTY_parts.keep K140 nin0)
    have f148 := (V_w_NONE_names.keep K140 nin0)
    have ne149 : b1 ≠ b26 := Nat.ne_of_lt (Nat.lt_of_lt_of_le ((((((((((((((((((V7.ext E8).other W9 ne127).other W10 ne127).other W11 ne127).other W12 ne127).other W13 ne127).other W14 ne127).ext E15).other W16 ne128).other W17 ne128).other W18 ne128).other W19 ne128).other W20 ne128).other W21 ne128).ext E22).other W23 ne129).other W24 ne129).other W25 ne129).lt (Nat.le_of_eq g26.symm))
    have f150 := (((f130.other W131 ne149).other W136 ne149).other W140 ne149)
    have f151 := ((((((((((((((((((((((((((((Ex1.wr W2).wr W3).wr W4).wr W5).wr W6).wr W7).ext E8).wr W9).wr W10).wr W11).wr W12).wr W13).wr W14).ext E15).wr W16).wr W17).wr W18).wr W19).wr W20).wr W21).ext E22).wr W23).wr W24).wr W25).ext E26).wr W131).wr W136).wr W140)
    have f152 := ((f135.other W136 ne134).other W140 ne134)
    have f153 := (((((((((((((((((((((Ex8.wr W9).wr W10).wr W11).wr W12).wr W13).wr W14).ext E15).wr W16).wr W17).wr W18).wr W19).wr W20).wr W21).ext E22).wr W23).wr W24).wr W25).ext E26).wr W131).wr W136).wr W140)
    have f154 := (f139.other W140 ne138)
    have f155 := ((((((((((((((Ex15.wr W16).wr W17).wr W18).wr W19).wr W20).wr W21).ext E22).wr W23).wr W24).wr W25).ext E26).wr W131).wr W136).wr W140)
    have ne156 : b22 ≠ b26 := Nat.ne_of_lt (Nat.lt_of_lt_of_le V25.lt (Nat.le_of_eq g26.symm))
    have f157 := ((((V25.ext E26).other W131 ne156).other W136 ne156).other W140 ne156)
    have f158 := (((((((Ex22.wr W23).wr W24).wr W25).ext E26).wr W131).wr W136).wr W140)
    have f159 := (((Ex26.wr W131).wr W136).wr W140)
    exact own_cut168 jp0 jp1 jp2 jp3 ip4 ip5 ((ip5 &&& (2147483647 : Int32)) % (4 : Int32)) (3 : Int32) b1 b8 b15 b22 b26 w_NONE w_EMPTY w_EMPTY_parts w_NONE_names k_w_EMPTY_parts k_w_NONE_names k1 k8 k15 k22 k26 (jp3 + ((1 : Int32).toInt64)) (jp3 + ((2 : Int32).toInt64)) (jp3 + ((0 : Int32).toInt64)) X140 hx hZ hw hby hml hown hlk hret N140 Z140 e140 f141 f142 f143 f144 f145 f146 f147 f148 f150 f151 f152 f153 f154 f155 f157 f158 V140 f159 (own_rem1 _) (own_addne (by decide)) (own_addne (by decide)) (own_addne (by decide))
  · rw [qr27]
    show own_Go _ _ _ _ T26 (mkF m 134 #[.val (.long jp0), .second, .val (.long jp1), .second, .val (.long jp2), .second, .val (.long jp3), .second, .val (.int ip4), .val (.int ip5), .val (.int ((ip5 &&& (2147483647 : Int32)) % (4 : Int32))), .val (.int (4 : Int32)), .val (.ref b1), .val (.ref b8), .val (.ref b15), .val (.ref b22), .unset, .unset, .unset, .unset, .unset] [(.long jp3), (.int (0 : Int32)), (.ref b26), (.ref b26)])
    refine own_st (fun t k => XS.aload X26.here hx rfl (hb hby at_134) rfl rfl (XS.iload X26.here hx rfl (hb hby at_136) rfl k)) ?_
    have ne160 : b1 ≠ b8 := Nat.ne_of_lt (Nat.lt_of_lt_of_le V7.lt (Nat.le_of_eq g8.symm))
    have ne161 : b1 ≠ b15 := Nat.ne_of_lt (Nat.lt_of_lt_of_le (((((((V7.ext E8).other W9 ne160).other W10 ne160).other W11 ne160).other W12 ne160).other W13 ne160).other W14 ne160).lt (Nat.le_of_eq g15.symm))
    have ne162 : b1 ≠ b22 := Nat.ne_of_lt (Nat.lt_of_lt_of_le ((((((((((((((V7.ext E8).other W9 ne160).other W10 ne160).other W11 ne160).other W12 ne160).other W13 ne160).other W14 ne160).ext E15).other W16 ne161).other W17 ne161).other W18 ne161).other W19 ne161).other W20 ne161).other W21 ne161).lt (Nat.le_of_eq g22.symm))
    have f163 := (((((((((((((((((((V7.ext E8).other W9 ne160).other W10 ne160).other W11 ne160).other W12 ne160).other W13 ne160).other W14 ne160).ext E15).other W16 ne161).other W17 ne161).other W18 ne161).other W19 ne161).other W20 ne161).other W21 ne161).ext E22).other W23 ne162).other W24 ne162).other W25 ne162).ext E26)
    refine own_st (own_iaload X26 hx hZ e26 f163 (j := (4 : Int32)) (v := (.int (2 : Int32))) ⟨by decide, by decide⟩ rfl (g := (mkF m 138 #[.val (.long jp0), .second, .val (.long jp1), .second, .val (.long jp2), .second, .val (.long jp3), .second, .val (.int ip4), .val (.int ip5), .val (.int ((ip5 &&& (2147483647 : Int32)) % (4 : Int32))), .val (.int (4 : Int32)), .val (.ref b1), .val (.ref b8), .val (.ref b15), .val (.ref b22), .unset, .unset, .unset, .unset, .unset] [(.int (4 : Int32)), (.ref b1), (.long jp3), (.int (0 : Int32)), (.ref b26), (.ref b26)])) rfl rfl (hb hby at_138)) ?_
    show own_Go _ _ _ _ T26 (mkF m 139 #[.val (.long jp0), .second, .val (.long jp1), .second, .val (.long jp2), .second, .val (.long jp3), .second, .val (.int ip4), .val (.int ip5), .val (.int ((ip5 &&& (2147483647 : Int32)) % (4 : Int32))), .val (.int (4 : Int32)), .val (.ref b1), .val (.ref b8), .val (.ref b15), .val (.ref b22), .unset, .unset, .unset, .unset, .unset] [(.int (2 : Int32)), (.long jp3), (.int (0 : Int32)), (.ref b26), (.ref b26)])
    refine own_st (fun t k => XS.i2l X26.here hx rfl (hb hby at_139) rfl (XS.ladd X26.here hx rfl (hb hby at_140) rfl k)) ?_
    obtain ⟨c164, A164, q164, S164, M164, H164, G164⟩ := V26
    obtain ⟨T164, h164, X164, e164, W164, st164⟩ := stJ X26 hx hZ e26 A164 (j := (0 : Int32)) (inb_of S164 ⟨by decide, by decide⟩) (g := (mkF m 141 #[.val (.long jp0), .second, .val (.long jp1), .second, .val (.long jp2), .second, .val (.long jp3), .second, .val (.int ip4), .val (.int ip5), .val (.int ((ip5 &&& (2147483647 : Int32)) % (4 : Int32))), .val (.int (4 : Int32)), .val (.ref b1), .val (.ref b8), .val (.ref b15), .val (.ref b22), .unset, .unset, .unset, .unset, .unset] [(.long (jp3 + ((2 : Int32).toInt64))), (.int (0 : Int32)), (.ref b26), (.ref b26)])) rfl rfl (hb hby at_141)
    refine own_st st164 ?_
    have K164 : Keep h0 h164 [] := K26.wr W164 (Or.inr sz_b26)
    have Z164 := Nat.le_trans Z26 (Keep.of_wr W164).1
    have N164 := Fr.snoc X164 N25 g_b26
    have V164 : Arv Z h164 b26 k26 .long (3 : Int32) [(.long (jp3 + ((2 : Int32).toInt64))), (.long (0 : Int64)), (.long (0 : Int64))] (.long (0 : Int64)) := Arv.set A164 q164 S164 M164 H164 G164 rfl W164 0 rfl (Nat.le_of_ble_eq_true rfl)
    show own_Go _ _ _ _ T164 (mkF m 142 #[.val (.long jp0), .second, .val (.long jp1), .second, .val (.long jp2), .second, .val (.long jp3), .second, .val (.int ip4), .val (.int ip5), .val (.int ((ip5 &&& (2147483647 : Int32)) % (4 : Int32))), .val (.int (4 : Int32)), .val (.ref b1), .val (.ref b8), .val (.ref b15), .val (.ref b22), .unset, .unset, .unset, .unset, .unset] [(.ref b26)])
    refine own_st (fun t k => XS.dup X164.here hx rfl (hb hby at_142) rfl rfl (XS.iconst X164.here hx rfl (hb hby at_143) (XS.lload X164.here hx rfl (hb hby at_144) rfl k))) ?_
    show own_Go _ _ _ _ T164 (mkF m 146 #[.val (.long jp0), .second, .val (.long jp1), .second, .val (.long jp2), .second, .val (.long jp3), .second, .val (.int ip4), .val (.int ip5), .val (.int ((ip5 &&& (2147483647 : Int32)) % (4 : Int32))), .val (.int (4 : Int32)), .val (.ref b1), .val (.ref b8), .val (.ref b15), .val (.ref b22), .unset, .unset, .unset, .unset, .unset] [(.long jp3), (.int (1 : Int32)), (.ref b26), (.ref b26)])
    refine own_st (fun t k => XS.aload X164.here hx rfl (hb hby at_146) rfl rfl (XS.iload X164.here hx rfl (hb hby at_148) rfl k)) ?_
    have ne165 : b8 ≠ b15 := Nat.ne_of_lt (Nat.lt_of_lt_of_le V14.lt (Nat.le_of_eq g15.symm))
    have ne166 : b8 ≠ b22 := Nat.ne_of_lt (Nat.lt_of_lt_of_le (((((((V14.ext E15).other W16 ne165).other W17 ne165).other W18 ne165).other W19 ne165).other W20 ne165).other W21 ne165).lt (Nat.le_of_eq g22.symm))
    have ne167 : b8 ≠ b26 := Nat.ne_of_lt (Nat.lt_of_lt_of_le (((((((((((V14.ext E15).other W16 ne165).other W17 ne165).other W18 ne165).other W19 ne165).other W20 ne165).other W21 ne165).ext E22).other W23 ne166).other W24 ne166).other W25 ne166).lt (Nat.le_of_eq g26.symm))
    have f168 := (((((((((((((V14.ext E15).other W16 ne165).other W17 ne165).other W18 ne165).other W19 ne165).other W20 ne165).other W21 ne165).ext E22).other W23 ne166).other W24 ne166).other W25 ne166).ext E26).other W164 ne167)
    refine own_st (own_iaload X164 hx hZ e164 f168 (j := (4 : Int32)) (v := (.int (0 : Int32))) ⟨by decide, by decide⟩ rfl (g := (mkF m 150 #[.val (.long jp0), .second, .val (.long jp1), .second, .val (.long jp2), .second, .val (.long jp3), .second, .val (.int ip4), .val (.int ip5), .val (.int ((ip5 &&& (2147483647 : Int32)) % (4 : Int32))), .val (.int (4 : Int32)), .val (.ref b1), .val (.ref b8), .val (.ref b15), .val (.ref b22), .unset, .unset, .unset, .unset, .unset] [(.int (4 : Int32)), (.ref b8), (.long jp3), (.int (1 : Int32)), (.ref b26), (.ref b26)])) rfl rfl (hb hby at_150)) ?_
    show own_Go _ _ _ _ T164 (mkF m 151 #[.val (.long jp0), .second, .val (.long jp1), .second, .val (.long jp2), .second, .val (.long jp3), .second, .val (.int ip4), .val (.int ip5), .val (.int ((ip5 &&& (2147483647 : Int32)) % (4 : Int32))), .val (.int (4 : Int32)), .val (.ref b1), .val (.ref b8), .val (.ref b15), .val (.ref b22), .unset, .unset, .unset, .unset, .unset] [(.int (0 : Int32)), (.long jp3), (.int (1 : Int32)), (.ref b26), (.ref b26)])
    refine own_st (fun t k => XS.i2l X164.here hx rfl (hb hby at_151) rfl (XS.ladd X164.here hx rfl (hb hby at_152) rfl k)) ?_
    obtain ⟨c169, A169, q169, S169, M169, H169, G169⟩ := V164
    obtain ⟨T169, h169, X169, e169, W169, st169⟩ := stJ X164 hx hZ e164 A169 (j := (1 : Int32)) (inb_of S169 ⟨by decide, by decide⟩) (g := (mkF m 153 #[.val (.long jp0), .second, .val (.long jp1), .second, .val (.long jp2), .second, .val (.long jp3), .second, .val (.int ip4), .val (.int ip5), .val (.int ((ip5 &&& (2147483647 : Int32)) % (4 : Int32))), .val (.int (4 : Int32)), .val (.ref b1), .val (.ref b8), .val (.ref b15), .val (.ref b22), .unset, .unset, .unset, .unset, .unset] [(.long (jp3 + ((0 : Int32).toInt64))), (.int (1 : Int32)), (.ref b26), (.ref b26)])) rfl rfl (hb hby at_153)
    refine own_st st169 ?_
    have K169 : Keep h0 h169 [] := K164.wr W169 (Or.inr sz_b26)
    have Z169 := Nat.le_trans Z164 (Keep.of_wr W169).1
    have N169 := Fr.snoc X169 N164 g_b26
    have V169 : Arv Z h169 b26 k26 .long (3 : Int32) [(.long (jp3 + ((2 : Int32).toInt64))), (.long (jp3 + ((0 : Int32).toInt64))), (.long (0 : Int64))] (.long (0 : Int64)) := Arv.set A169 q169 S169 M169 H169 G169 rfl W169 1 rfl (Nat.le_of_ble_eq_true rfl)
    show own_Go _ _ _ _ T169 (mkF m 154 #[.val (.long jp0), .second, .val (.long jp1), .second, .val (.long jp2), .second, .val (.long jp3), .second, .val (.int ip4), .val (.int ip5), .val (.int ((ip5 &&& (2147483647 : Int32)) % (4 : Int32))), .val (.int (4 : Int32)), .val (.ref b1), .val (.ref b8), .val (.ref b15), .val (.ref b22), .unset, .unset, .unset, .unset, .unset] [(.ref b26)])
    refine own_st (fun t k => XS.dup X169.here hx rfl (hb hby at_154) rfl rfl (XS.iconst X169.here hx rfl (hb hby at_155) (XS.lload X169.here hx rfl (hb hby at_156) rfl k))) ?_
    show own_Go _ _ _ _ T169 (mkF m 158 #[.val (.long jp0), .second, .val (.long jp1), .second, .val (.long jp2), .second, .val (.long jp3), .second, .val (.int ip4), .val (.int ip5), .val (.int ((ip5 &&& (2147483647 : Int32)) % (4 : Int32))), .val (.int (4 : Int32)), .val (.ref b1), .val (.ref b8), .val (.ref b15), .val (.ref b22), .unset, .unset, .unset, .unset, .unset] [(.long jp3), (.int (2 : Int32)), (.ref b26), (.ref b26)])
    refine own_st (fun t k => XS.aload X169.here hx rfl (hb hby at_158) rfl rfl (XS.iload X169.here hx rfl (hb hby at_160) rfl k)) ?_
    have ne170 : b15 ≠ b22 := Nat.ne_of_lt (Nat.lt_of_lt_of_le V21.lt (Nat.le_of_eq g22.symm))
    have ne171 : b15 ≠ b26 := Nat.ne_of_lt (Nat.lt_of_lt_of_le ((((V21.ext E22).other W23 ne170).other W24 ne170).other W25 ne170).lt (Nat.le_of_eq g26.symm))
    have f172 := (((((((V21.ext E22).other W23 ne170).other W24 ne170).other W25 ne170).ext E26).other W164 ne171).other W169 ne171)
    refine own_st (own_iaload X169 hx hZ e169 f172 (j := (4 : Int32)) (v := (.int (1 : Int32))) ⟨by decide, by decide⟩ rfl (g := (mkF m 162 #[.val (.long jp0), .second, .val (.long jp1), .second, .val (.long jp2), .second, .val (.long jp3), .second, .val (.int ip4), .val (.int ip5), .val (.int ((ip5 &&& (2147483647 : Int32)) % (4 : Int32))), .val (.int (4 : Int32)), .val (.ref b1), .val (.ref b8), .val (.ref b15), .val (.ref b22), .unset, .unset, .unset, .unset, .unset] [(.int (4 : Int32)), (.ref b15), (.long jp3), (.int (2 : Int32)), (.ref b26), (.ref b26)])) rfl rfl (hb hby at_162)) ?_
    show own_Go _ _ _ _ T169 (mkF m 163 #[.val (.long jp0), .second, .val (.long jp1), .second, .val (.long jp2), .second, .val (.long jp3), .second, .val (.int ip4), .val (.int ip5), .val (.int ((ip5 &&& (2147483647 : Int32)) % (4 : Int32))), .val (.int (4 : Int32)), .val (.ref b1), .val (.ref b8), .val (.ref b15), .val (.ref b22), .unset, .unset, .unset, .unset, .unset] [(.int (1 : Int32)), (.long jp3), (.int (2 : Int32)), (.ref b26), (.ref b26)])
    refine own_st (fun t k => XS.i2l X169.here hx rfl (hb hby at_163) rfl (XS.ladd X169.here hx rfl (hb hby at_164) rfl k)) ?_
    obtain ⟨c173, A173, q173, S173, M173, H173, G173⟩ := V169
    obtain ⟨T173, h173, X173, e173, W173, st173⟩ := stJ X169 hx hZ e169 A173 (j := (2 : Int32)) (inb_of S173 ⟨by decide, by decide⟩) (g := (mkF m 165 #[.val (.long jp0), .second, .val (.long jp1), .second, .val (.long jp2), .second, .val (.long jp3), .second, .val (.int ip4), .val (.int ip5), .val (.int ((ip5 &&& (2147483647 : Int32)) % (4 : Int32))), .val (.int (4 : Int32)), .val (.ref b1), .val (.ref b8), .val (.ref b15), .val (.ref b22), .unset, .unset, .unset, .unset, .unset] [(.long (jp3 + ((1 : Int32).toInt64))), (.int (2 : Int32)), (.ref b26), (.ref b26)])) rfl rfl (hb hby at_165)
    refine own_st st173 ?_
    have K173 : Keep h0 h173 [] := K169.wr W173 (Or.inr sz_b26)
    have Z173 := Nat.le_trans Z169 (Keep.of_wr W173).1
    have N173 := Fr.snoc X173 N169 g_b26
    have V173 : Arv Z h173 b26 k26 .long (3 : Int32) [(.long (jp3 + ((2 : Int32).toInt64))), (.long (jp3 + ((0 : Int32).toInt64))), (.long (jp3 + ((1 : Int32).toInt64)))] (.long (0 : Int64)) := Arv.set A173 q173 S173 M173 H173 G173 rfl W173 2 rfl (Nat.le_of_ble_eq_true rfl)
    show own_Go _ _ _ _ T173 (mkF m 166 #[.val (.long jp0), .second, .val (.long jp1), .second, .val (.long jp2), .second, .val (.long jp3), .second, .val (.int ip4), .val (.int ip5), .val (.int ((ip5 &&& (2147483647 : Int32)) % (4 : Int32))), .val (.int (4 : Int32)), .val (.ref b1), .val (.ref b8), .val (.ref b15), .val (.ref b22), .unset, .unset, .unset, .unset, .unset] [(.ref b26)])
    refine own_st (fun t k => XS.astore X173.here hx rfl (hb hby at_166) rfl rfl (l' := #[.val (.long jp0), .second, .val (.long jp1), .second, .val (.long jp2), .second, .val (.long jp3), .second, .val (.int ip4), .val (.int ip5), .val (.int ((ip5 &&& (2147483647 : Int32)) % (4 : Int32))), .val (.int (4 : Int32)), .val (.ref b1), .val (.ref b8), .val (.ref b15), .val (.ref b22), .val (.ref b26), .unset, .unset, .unset, .unset]) rfl k) ?_
    show own_Go _ _ _ _ T173 (mkF m 168 #[.val (.long jp0), .second, .val (.long jp1), .second, .val (.long jp2), .second, .val (.long jp3), .second, .val (.int ip4), .val (.int ip5), .val (.int ((ip5 &&& (2147483647 : Int32)) % (4 : Int32))), .val (.int (4 : Int32)), .val (.ref b1), .val (.ref b8), .val (.ref b15), .val (.ref b22), .val (.ref b26), .unset, .unset, .unset, .unset] [])
    have f174 := (own_stak S_NONE K173 all0)
    have f175 := (E_w_NONE.keep K173)
    have f176 := (own_stak S_EMPTY K173 all0)
    have f177 := (E_w_EMPTY.keep K173)
    have f178 := (F_parts_w_EMPTY.keep K173 nin0)
    have f179 := (F_names_w_NONE.keep K173 nin0)
    have f180 := (V_w_EMPTY_parts.keep K173 nin0)
    have f181 := (V_w_NONE_names.keep K173 nin0)
    have ne182 : b1 ≠ b26 := Nat.ne_of_lt (Nat.lt_of_lt_of_le ((((((((((((((((((V7.ext E8).other W9 ne160).other W10 ne160).other W11 ne160).other W12 ne160).other W13 ne160).other W14 ne160).ext E15).other W16 ne161).other W17 ne161).other W18 ne161).other W19 ne161).other W20 ne161).other W21 ne161).ext E22).other W23 ne162).other W24 ne162).other W25 ne162).lt (Nat.le_of_eq g26.symm))
    have f183 := (((f163.other W164 ne182).other W169 ne182).other W173 ne182)
    have f184 := ((((((((((((((((((((((((((((Ex1.wr W2).wr W3).wr W4).wr W5).wr W6).wr W7).ext E8).wr W9).wr W10).wr W11).wr W12).wr W13).wr W14).ext E15).wr W16).wr W17).wr W18).wr W19).wr W20).wr W21).ext E22).wr W23).wr W24).wr W25).ext E26).wr W164).wr W169).wr W173)
    have f185 := ((f168.other W169 ne167).other W173 ne167)
    have f186 := (((((((((((((((((((((Ex8.wr W9).wr W10).wr W11).wr W12).wr W13).wr W14).ext E15).wr W16).wr W17).wr W18).wr W19).wr W20).wr W21).ext E22).wr W23).wr W24).wr W25).ext E26).wr W164).wr W169).wr W173)
    have f187 := (f172.other W173 ne171)
    have f188 := ((((((((((((((Ex15.wr W16).wr W17).wr W18).wr W19).wr W20).wr W21).ext E22).wr W23).wr W24).wr W25).ext E26).wr W164).wr W169).wr W173)
    have ne189 : b22 ≠ b26 := Nat.ne_of_lt (Nat.lt_of_lt_of_le V25.lt (Nat.le_of_eq g26.symm))
    have f190 := ((((V25.ext E26).other W164 ne189).other W169 ne189).other W173 ne189)
    have f191 := (((((((Ex22.wr W23).wr W24).wr W25).ext E26).wr W164).wr W169).wr W173)
    have f192 := (((Ex26.wr W164).wr W169).wr W173)
    exact own_cut168 jp0 jp1 jp2 jp3 ip4 ip5 ((ip5 &&& (2147483647 : Int32)) % (4 : Int32)) (4 : Int32) b1 b8 b15 b22 b26 w_NONE w_EMPTY w_EMPTY_parts w_NONE_names k_w_EMPTY_parts k_w_NONE_names k1 k8 k15 k22 k26 (jp3 + ((2 : Int32).toInt64)) (jp3 + ((0 : Int32).toInt64)) (jp3 + ((1 : Int32).toInt64)) X173 hx hZ hw hby hml hown hlk hret N173 Z173 e173 f174 f175 f176 f177 f178 f179 f180 f181 f183 f184 f185 f186 f187 f188 f190 f191 V173 f192 (own_rem1 _) (own_addne (by decide)) (own_addne (by decide)) (own_addne (by decide))
  · rw [qr27]
    refine own_st (fun t k => XS.aload X26.here hx rfl (hb hby at_134) rfl rfl k) ?_
    show own_Go _ _ _ _ T26 (mkF m 136 #[.val (.long jp0), .second, .val (.long jp1), .second, .val (.long jp2), .second, .val (.long jp3), .second, .val (.int ip4), .val (.int ip5), .val (.int ((ip5 &&& (2147483647 : Int32)) % (4 : Int32))), .val (.int (5 : Int32)), .val (.ref b1), .val (.ref b8), .val (.ref b15), .val (.ref b22), .unset, .unset, .unset, .unset, .unset] [(.ref b1), (.long jp3), (.int (0 : Int32)), (.ref b26), (.ref b26)])
    refine own_st (fun t k => XS.iload X26.here hx rfl (hb hby at_136) rfl k) ?_
    have ne193 : b1 ≠ b8 := Nat.ne_of_lt (Nat.lt_of_lt_of_le V7.lt (Nat.le_of_eq g8.symm))
    have ne194 : b1 ≠ b15 := Nat.ne_of_lt (Nat.lt_of_lt_of_le (((((((V7.ext E8).other W9 ne193).other W10 ne193).other W11 ne193).other W12 ne193).other W13 ne193).other W14 ne193).lt (Nat.le_of_eq g15.symm))
    have ne195 : b1 ≠ b22 := Nat.ne_of_lt (Nat.lt_of_lt_of_le ((((((((((((((V7.ext E8).other W9 ne193).other W10 ne193).other W11 ne193).other W12 ne193).other W13 ne193).other W14 ne193).ext E15).other W16 ne194).other W17 ne194).other W18 ne194).other W19 ne194).other W20 ne194).other W21 ne194).lt (Nat.le_of_eq g22.symm))
    have f196 := (((((((((((((((((((V7.ext E8).other W9 ne193).other W10 ne193).other W11 ne193).other W12 ne193).other W13 ne193).other W14 ne193).ext E15).other W16 ne194).other W17 ne194).other W18 ne194).other W19 ne194).other W20 ne194).other W21 ne194).ext E22).other W23 ne195).other W24 ne195).other W25 ne195).ext E26)
    refine own_st (own_iaload X26 hx hZ e26 f196 (j := (5 : Int32)) (v := (.int (2 : Int32))) ⟨by decide, by decide⟩ rfl (g := (mkF m 138 #[.val (.long jp0), .second, .val (.long jp1), .second, .val (.long jp2), .second, .val (.long jp3), .second, .val (.int ip4), .val (.int ip5), .val (.int ((ip5 &&& (2147483647 : Int32)) % (4 : Int32))), .val (.int (5 : Int32)), .val (.ref b1), .val (.ref b8), .val (.ref b15), .val (.ref b22), .unset, .unset, .unset, .unset, .unset] [(.int (5 : Int32)), (.ref b1), (.long jp3), (.int (0 : Int32)), (.ref b26), (.ref b26)])) rfl rfl (hb hby at_138)) ?_
    refine own_st (fun t k => XS.i2l X26.here hx rfl (hb hby at_139) rfl k) ?_
    show own_Go _ _ _ _ T26 (mkF m 140 #[.val (.long jp0), .second, .val (.long jp1), .second, .val (.long jp2), .second, .val (.long jp3), .second, .val (.int ip4), .val (.int ip5), .val (.int ((ip5 &&& (2147483647 : Int32)) % (4 : Int32))), .val (.int (5 : Int32)), .val (.ref b1), .val (.ref b8), .val (.ref b15), .val (.ref b22), .unset, .unset, .unset, .unset, .unset] [(.long ((2 : Int32).toInt64)), (.long jp3), (.int (0 : Int32)), (.ref b26), (.ref b26)])
    refine own_st (fun t k => XS.ladd X26.here hx rfl (hb hby at_140) rfl k) ?_
    obtain ⟨c197, A197, q197, S197, M197, H197, G197⟩ := V26
    obtain ⟨T197, h197, X197, e197, W197, st197⟩ := stJ X26 hx hZ e26 A197 (j := (0 : Int32)) (inb_of S197 ⟨by decide, by decide⟩) (g := (mkF m 141 #[.val (.long jp0), .second, .val (.long jp1), .second, .val (.long jp2), .second, .val (.long jp3), .second, .val (.int ip4), .val (.int ip5), .val (.int ((ip5 &&& (2147483647 : Int32)) % (4 : Int32))), .val (.int (5 : Int32)), .val (.ref b1), .val (.ref b8), .val (.ref b15), .val (.ref b22), .unset, .unset, .unset, .unset, .unset] [(.long (jp3 + ((2 : Int32).toInt64))), (.int (0 : Int32)), (.ref b26), (.ref b26)])) rfl rfl (hb hby at_141)
    refine own_st st197 ?_
    have K197 : Keep h0 h197 [] := K26.wr W197 (Or.inr sz_b26)
    have Z197 := Nat.le_trans Z26 (Keep.of_wr W197).1
    have N197 := Fr.snoc X197 N25 g_b26
    have V197 : Arv Z h197 b26 k26 .long (3 : Int32) [(.long (jp3 + ((2 : Int32).toInt64))), (.long (0 : Int64)), (.long (0 : Int64))] (.long (0 : Int64)) := Arv.set A197 q197 S197 M197 H197 G197 rfl W197 0 rfl (Nat.le_of_ble_eq_true rfl)
    refine own_st (fun t k => XS.dup X197.here hx rfl (hb hby at_142) rfl rfl k) ?_
    show own_Go _ _ _ _ T197 (mkF m 143 #[.val (.long jp0), .second, .val (.long jp1), .second, .val (.long jp2), .second, .val (.long jp3), .second, .val (.int ip4), .val (.int ip5), .val (.int ((ip5 &&& (2147483647 : Int32)) % (4 : Int32))), .val (.int (5 : Int32)), .val (.ref b1), .val (.ref b8), .val (.ref b15), .val (.ref b22), .unset, .unset, .unset, .unset, .unset] [(.ref b26), (.ref b26)])
    refine own_st (fun t k => XS.iconst X197.here hx rfl (hb hby at_143) (XS.lload X197.here hx rfl (hb hby at_144) rfl (XS.aload X197.here hx rfl (hb hby at_146) rfl rfl k))) ?_
    show own_Go _ _ _ _ T197 (mkF m 148 #[.val (.long jp0), .second, .val (.long jp1), .second, .val (.long jp2), .second, .val (.long jp3), .second, .val (.int ip4), .val (.int ip5), .val (.int ((ip5 &&& (2147483647 : Int32)) % (4 : Int32))), .val (.int (5 : Int32)), .val (.ref b1), .val (.ref b8), .val (.ref b15), .val (.ref b22), .unset, .unset, .unset, .unset, .unset] [(.ref b8), (.long jp3), (.int (1 : Int32)), (.ref b26), (.ref b26)])
    refine own_st (fun t k => XS.iload X197.here hx rfl (hb hby at_148) rfl k) ?_
    have ne198 : b8 ≠ b15 := Nat.ne_of_lt (Nat.lt_of_lt_of_le V14.lt (Nat.le_of_eq g15.symm))
    have ne199 : b8 ≠ b22 := Nat.ne_of_lt (Nat.lt_of_lt_of_le (((((((V14.ext E15).other W16 ne198).other W17 ne198).other W18 ne198).other W19 ne198).other W20 ne198).other W21 ne198).lt (Nat.le_of_eq g22.symm))
    have ne200 : b8 ≠ b26 := Nat.ne_of_lt (Nat.lt_of_lt_of_le (((((((((((V14.ext E15).other W16 ne198).other W17 ne198).other W18 ne198).other W19 ne198).other W20 ne198).other W21 ne198).ext E22).other W23 ne199).other W24 ne199).other W25 ne199).lt (Nat.le_of_eq g26.symm))
    have f201 := (((((((((((((V14.ext E15).other W16 ne198).other W17 ne198).other W18 ne198).other W19 ne198).other W20 ne198).other W21 ne198).ext E22).other W23 ne199).other W24 ne199).other W25 ne199).ext E26).other W197 ne200)
    refine own_st (own_iaload X197 hx hZ e197 f201 (j := (5 : Int32)) (v := (.int (1 : Int32))) ⟨by decide, by decide⟩ rfl (g := (mkF m 150 #[.val (.long jp0), .second, .val (.long jp1), .second, .val (.long jp2), .second, .val (.long jp3), .second, .val (.int ip4), .val (.int ip5), .val (.int ((ip5 &&& (2147483647 : Int32)) % (4 : Int32))), .val (.int (5 : Int32)), .val (.ref b1), .val (.ref b8), .val (.ref b15), .val (.ref b22), .unset, .unset, .unset, .unset, .unset] [(.int (5 : Int32)), (.ref b8), (.long jp3), (.int (1 : Int32)), (.ref b26), (.ref b26)])) rfl rfl (hb hby at_150)) ?_
    refine own_st (fun t k => XS.i2l X197.here hx rfl (hb hby at_151) rfl k) ?_
    show own_Go _ _ _ _ T197 (mkF m 152 #[.val (.long jp0), .second, .val (.long jp1), .second, .val (.long jp2), .second, .val (.long jp3), .second, .val (.int ip4), .val (.int ip5), .val (.int ((ip5 &&& (2147483647 : Int32)) % (4 : Int32))), .val (.int (5 : Int32)), .val (.ref b1), .val (.ref b8), .val (.ref b15), .val (.ref b22), .unset, .unset, .unset, .unset, .unset] [(.long ((1 : Int32).toInt64)), (.long jp3), (.int (1 : Int32)), (.ref b26), (.ref b26)])
    refine own_st (fun t k => XS.ladd X197.here hx rfl (hb hby at_152) rfl k) ?_
    obtain ⟨c202, A202, q202, S202, M202, H202, G202⟩ := V197
    obtain ⟨T202, h202, X202, e202, W202, st202⟩ := stJ X197 hx hZ e197 A202 (j := (1 : Int32)) (inb_of S202 ⟨by decide, by decide⟩) (g := (mkF m 153 #[.val (.long jp0), .second, .val (.long jp1), .second, .val (.long jp2), .second, .val (.long jp3), .second, .val (.int ip4), .val (.int ip5), .val (.int ((ip5 &&& (2147483647 : Int32)) % (4 : Int32))), .val (.int (5 : Int32)), .val (.ref b1), .val (.ref b8), .val (.ref b15), .val (.ref b22), .unset, .unset, .unset, .unset, .unset] [(.long (jp3 + ((1 : Int32).toInt64))), (.int (1 : Int32)), (.ref b26), (.ref b26)])) rfl rfl (hb hby at_153)
    refine own_st st202 ?_
    have K202 : Keep h0 h202 [] := K197.wr W202 (Or.inr sz_b26)
    have Z202 := Nat.le_trans Z197 (Keep.of_wr W202).1
    have N202 := Fr.snoc X202 N197 g_b26
    have V202 : Arv Z h202 b26 k26 .long (3 : Int32) [(.long (jp3 + ((2 : Int32).toInt64))), (.long (jp3 + ((1 : Int32).toInt64))), (.long (0 : Int64))] (.long (0 : Int64)) := Arv.set A202 q202 S202 M202 H202 G202 rfl W202 1 rfl (Nat.le_of_ble_eq_true rfl)
    refine own_st (fun t k => XS.dup X202.here hx rfl (hb hby at_154) rfl rfl k) ?_
    show own_Go _ _ _ _ T202 (mkF m 155 #[.val (.long jp0), .second, .val (.long jp1), .second, .val (.long jp2), .second, .val (.long jp3), .second, .val (.int ip4), .val (.int ip5), .val (.int ((ip5 &&& (2147483647 : Int32)) % (4 : Int32))), .val (.int (5 : Int32)), .val (.ref b1), .val (.ref b8), .val (.ref b15), .val (.ref b22), .unset, .unset, .unset, .unset, .unset] [(.ref b26), (.ref b26)])
    refine own_st (fun t k => XS.iconst X202.here hx rfl (hb hby at_155) (XS.lload X202.here hx rfl (hb hby at_156) rfl (XS.aload X202.here hx rfl (hb hby at_158) rfl rfl k))) ?_
    show own_Go _ _ _ _ T202 (mkF m 160 #[.val (.long jp0), .second, .val (.long jp1), .second, .val (.long jp2), .second, .val (.long jp3), .second, .val (.int ip4), .val (.int ip5), .val (.int ((ip5 &&& (2147483647 : Int32)) % (4 : Int32))), .val (.int (5 : Int32)), .val (.ref b1), .val (.ref b8), .val (.ref b15), .val (.ref b22), .unset, .unset, .unset, .unset, .unset] [(.ref b15), (.long jp3), (.int (2 : Int32)), (.ref b26), (.ref b26)])
    refine own_st (fun t k => XS.iload X202.here hx rfl (hb hby at_160) rfl k) ?_
    have ne203 : b15 ≠ b22 := Nat.ne_of_lt (Nat.lt_of_lt_of_le V21.lt (Nat.le_of_eq g22.symm))
    have ne204 : b15 ≠ b26 := Nat.ne_of_lt (Nat.lt_of_lt_of_le ((((V21.ext E22).other W23 ne203).other W24 ne203).other W25 ne203).lt (Nat.le_of_eq g26.symm))
    have f205 := (((((((V21.ext E22).other W23 ne203).other W24 ne203).other W25 ne203).ext E26).other W197 ne204).other W202 ne204)
    refine own_st (own_iaload X202 hx hZ e202 f205 (j := (5 : Int32)) (v := (.int (0 : Int32))) ⟨by decide, by decide⟩ rfl (g := (mkF m 162 #[.val (.long jp0), .second, .val (.long jp1), .second, .val (.long jp2), .second, .val (.long jp3), .second, .val (.int ip4), .val (.int ip5), .val (.int ((ip5 &&& (2147483647 : Int32)) % (4 : Int32))), .val (.int (5 : Int32)), .val (.ref b1), .val (.ref b8), .val (.ref b15), .val (.ref b22), .unset, .unset, .unset, .unset, .unset] [(.int (5 : Int32)), (.ref b15), (.long jp3), (.int (2 : Int32)), (.ref b26), (.ref b26)])) rfl rfl (hb hby at_162)) ?_
    refine own_st (fun t k => XS.i2l X202.here hx rfl (hb hby at_163) rfl k) ?_
    show own_Go _ _ _ _ T202 (mkF m 164 #[.val (.long jp0), .second, .val (.long jp1), .second, .val (.long jp2), .second, .val (.long jp3), .second, .val (.int ip4), .val (.int ip5), .val (.int ((ip5 &&& (2147483647 : Int32)) % (4 : Int32))), .val (.int (5 : Int32)), .val (.ref b1), .val (.ref b8), .val (.ref b15), .val (.ref b22), .unset, .unset, .unset, .unset, .unset] [(.long ((0 : Int32).toInt64)), (.long jp3), (.int (2 : Int32)), (.ref b26), (.ref b26)])
    refine own_st (fun t k => XS.ladd X202.here hx rfl (hb hby at_164) rfl k) ?_
    obtain ⟨c206, A206, q206, S206, M206, H206, G206⟩ := V202
    obtain ⟨T206, h206, X206, e206, W206, st206⟩ := stJ X202 hx hZ e202 A206 (j := (2 : Int32)) (inb_of S206 ⟨by decide, by decide⟩) (g := (mkF m 165 #[.val (.long jp0), .second, .val (.long jp1), .second, .val (.long jp2), .second, .val (.long jp3), .second, .val (.int ip4), .val (.int ip5), .val (.int ((ip5 &&& (2147483647 : Int32)) % (4 : Int32))), .val (.int (5 : Int32)), .val (.ref b1), .val (.ref b8), .val (.ref b15), .val (.ref b22), .unset, .unset, .unset, .unset, .unset] [(.long (jp3 + ((0 : Int32).toInt64))), (.int (2 : Int32)), (.ref b26), (.ref b26)])) rfl rfl (hb hby at_165)
    refine own_st st206 ?_
    have K206 : Keep h0 h206 [] := K202.wr W206 (Or.inr sz_b26)
    have Z206 := Nat.le_trans Z202 (Keep.of_wr W206).1
    have N206 := Fr.snoc X206 N202 g_b26
    have V206 : Arv Z h206 b26 k26 .long (3 : Int32) [(.long (jp3 + ((2 : Int32).toInt64))), (.long (jp3 + ((1 : Int32).toInt64))), (.long (jp3 + ((0 : Int32).toInt64)))] (.long (0 : Int64)) := Arv.set A206 q206 S206 M206 H206 G206 rfl W206 2 rfl (Nat.le_of_ble_eq_true rfl)
    refine own_st (fun t k => XS.astore X206.here hx rfl (hb hby at_166) rfl rfl (l' := #[.val (.long jp0), .second, .val (.long jp1), .second, .val (.long jp2), .second, .val (.long jp3), .second, .val (.int ip4), .val (.int ip5), .val (.int ((ip5 &&& (2147483647 : Int32)) % (4 : Int32))), .val (.int (5 : Int32)), .val (.ref b1), .val (.ref b8), .val (.ref b15), .val (.ref b22), .val (.ref b26), .unset, .unset, .unset, .unset]) rfl k) ?_
    show own_Go _ _ _ _ T206 (mkF m 168 #[.val (.long jp0), .second, .val (.long jp1), .second, .val (.long jp2), .second, .val (.long jp3), .second, .val (.int ip4), .val (.int ip5), .val (.int ((ip5 &&& (2147483647 : Int32)) % (4 : Int32))), .val (.int (5 : Int32)), .val (.ref b1), .val (.ref b8), .val (.ref b15), .val (.ref b22), .val (.ref b26), .unset, .unset, .unset, .unset] [])
    have f207 := (own_stak S_NONE K206 all0)
    have f208 := (E_w_NONE.keep K206)
    have f209 := (own_stak S_EMPTY K206 all0)
    have f210 := (E_w_EMPTY.keep K206)
    have f211 := (F_parts_w_EMPTY.keep K206 nin0)
    have f212 := (F_names_w_NONE.keep K206 nin0)
    have f213 := (V_w_EMPTY_parts.keep K206 nin0)
    have f214 := (V_w_NONE_names.keep K206 nin0)
    have ne215 : b1 ≠ b26 := Nat.ne_of_lt (Nat.lt_of_lt_of_le ((((((((((((((((((V7.ext E8).other W9 ne193).other W10 ne193).other W11 ne193).other W12 ne193).other W13 ne193).other W14 ne193).ext E15).other W16 ne194).other W17 ne194).other W18 ne194).other W19 ne194).other W20 ne194).other W21 ne194).ext E22).other W23 ne195).other W24 ne195).other W25 ne195).lt (Nat.le_of_eq g26.symm))
    have f216 := (((f196.other W197 ne215).other W202 ne215).other W206 ne215)
    have f217 := ((((((((((((((((((((((((((((Ex1.wr W2).wr W3).wr W4).wr W5).wr W6).wr W7).ext E8).wr W9).wr W10).wr W11).wr W12).wr W13).wr W14).ext E15).wr W16).wr W17).wr W18).wr W19).wr W20).wr W21).ext E22).wr W23).wr W24).wr W25).ext E26).wr W197).wr W202).wr W206)
    have f218 := ((f201.other W202 ne200).other W206 ne200)
    have f219 := (((((((((((((((((((((Ex8.wr W9).wr W10).wr W11).wr W12).wr W13).wr W14).ext E15).wr W16).wr W17).wr W18).wr W19).wr W20).wr W21).ext E22).wr W23).wr W24).wr W25).ext E26).wr W197).wr W202).wr W206)
    have f220 := (f205.other W206 ne204)
    have f221 := ((((((((((((((Ex15.wr W16).wr W17).wr W18).wr W19).wr W20).wr W21).ext E22).wr W23).wr W24).wr W25).ext E26).wr W197).wr W202).wr W206)
    have ne222 : b22 ≠ b26 := Nat.ne_of_lt (Nat.lt_of_lt_of_le V25.lt (Nat.le_of_eq g26.symm))
    have f223 := ((((V25.ext E26).other W197 ne222).other W202 ne222).other W206 ne222)
    have f224 := (((((((Ex22.wr W23).wr W24).wr W25).ext E26).wr W197).wr W202).wr W206)
    have f225 := (((Ex26.wr W197).wr W202).wr W206)
    exact own_cut168 jp0 jp1 jp2 jp3 ip4 ip5 ((ip5 &&& (2147483647 : Int32)) % (4 : Int32)) (5 : Int32) b1 b8 b15 b22 b26 w_NONE w_EMPTY w_EMPTY_parts w_NONE_names k_w_EMPTY_parts k_w_NONE_names k1 k8 k15 k22 k26 (jp3 + ((2 : Int32).toInt64)) (jp3 + ((1 : Int32).toInt64)) (jp3 + ((0 : Int32).toInt64)) X206 hx hZ hw hby hml hown hlk hret N206 Z206 e206 f207 f208 f209 f210 f211 f212 f213 f214 f216 f217 f218 f219 f220 f221 f223 f224 V206 f225 (own_rem1 _) (own_addne (by decide)) (own_addne (by decide)) (own_addne (by decide))
set_option maxRecDepth 65536 in
set_option maxHeartbeats 40000000 in
theorem own_comes {Post : Tables → Env → Array Value → State → Outcome → State → Prop} (hpost : ∀ tb e args s v u, (limb_1_1.after args s (.returned v) u = true ∧ limb_1_2.after args s (.returned v) u = true ∧ True) → FrameEnd s (.returned v) u (Jvm.fieldLocs frame_1_writes args s ++ Jvm.arrayLocs frame_1_arrays args s ++ Jvm.staticLocs frame_1_statics s) 40 320 → Post tb e args s (.returned v) u) :
    ArmFor flags0 classFile x code maxLocals ret World_1 tables_1 room_1 Calls_1 rest_1 Pre_1 Post := by
  intro l hfl _ _ p e ha hc hk s m args below hf hA hF happ hP
  obtain ⟨hcalls, hrest, hpre⟩ := hP
  obtain ⟨-, -, -, hnamed, -, -, -, hat⟩ := (Spec.applies_iff hf).mp happ
  obtain ⟨hg, hn⟩ := and_e (Cond.before_iff.mp (show (Jvm.Cond.and given_1 narrow_1).before args s = true from hpre))
  obtain ⟨g11, g12⟩ := and_e hg
  obtain ⟨g13, g14⟩ := and_e g12
  obtain ⟨g15, g16⟩ := and_e g14
  obtain ⟨g17, g18⟩ := and_e g16
  obtain ⟨g19, g20⟩ := and_e g18
  obtain ⟨g21, g22⟩ := and_e g20
  obtain ⟨w0, w1, w2, w3, w4, w5, rfl⟩ : ∃ w0 w1 w2 w3 w4 w5 : Value, args = #[w0, w1, w2, w3, w4, w5] := by
    have hs : args.size = 6 := by simpa [Cond.value, given_1] using g11
    obtain ⟨L⟩ := args
    match L, hs with
    | [w0, w1, w2, w3, w4, w5], _ => exact ⟨w0, w1, w2, w3, w4, w5, rfl⟩
  have hw := fun d (hd : d ∈ tables_1) => atoms_spec (ws := Jvm.Cond.code x code maxLocals ret :: tables_1) hat d (List.mem_cons_of_mem _ hd)
  obtain ⟨i0, ei0⟩ := isL_v g13
  obtain rfl : w0 = (.long i0) := Option.some.inj ei0
  obtain ⟨i1, ei1⟩ := isL_v g15
  obtain rfl : w1 = (.long i1) := Option.some.inj ei1
  obtain ⟨i2, ei2⟩ := isL_v g17
  obtain rfl : w2 = (.long i2) := Option.some.inj ei2
  obtain ⟨i3, ei3⟩ := isL_v g19
  obtain rfl : w3 = (.long i3) := Option.some.inj ei3
  obtain ⟨i4, ei4⟩ := is_v g21
  obtain rfl : w4 = (.int i4) := Option.some.inj ei4
  obtain ⟨i5, ei5⟩ := is_v g22
  obtain rfl : w5 = (.int i5) := Option.some.inj ei5
  have hfit : Fit s := fun {y c} hc i hi => by
    obtain ⟨ha, rfl⟩ := Array.getElem?_eq_some_iff.mp hc
    have q := List.all_eq_true.mp ((Array.all_eq_true_iff_forall_mem.mp hF) _ (Array.getElem_mem ha)) i (List.mem_range.mpr hi)
    simpa [Array.getElem?_eq_getElem hi] using q
  obtain ⟨g1, g2⟩ := and_e hn
  obtain ⟨g3, g4⟩ := and_e g2
  obtain ⟨g5, g6⟩ := and_e g4
  obtain ⟨g7, g8⟩ := and_e g6
  obtain ⟨g9, g10⟩ := and_e g8
  obtain ⟨w_NONE, ev_w_NONE⟩ := exa_v g1
  have S_NONE := Sta.start ev_w_NONE (Or.inr ⟨(own_w hw 8 rfl), (own_w hw 9 rfl)⟩)
  have E_w_NONE := Exa.start ev_w_NONE g1
  obtain ⟨w_EMPTY, ev_w_EMPTY⟩ := exa_v g3
  have S_EMPTY := Sta.start ev_w_EMPTY (Or.inr ⟨(own_w hw 48 rfl), (own_w hw 49 rfl)⟩)
  have E_w_EMPTY := Exa.start ev_w_EMPTY g3
  obtain ⟨w_EMPTY_parts, ev_w_EMPTY_parts⟩ := arr_v g5
  have F_parts_w_EMPTY := Fld.start ((fld_at ev_w_EMPTY).symm.trans ev_w_EMPTY_parts)
  obtain ⟨cl_w_EMPTY_parts, Ar_w_EMPTY_parts⟩ := Arr.start ev_w_EMPTY_parts g5
  obtain ⟨w_NONE_names, ev_w_NONE_names⟩ := arr_v g9
  have F_names_w_NONE := Fld.start ((fld_at ev_w_NONE).symm.trans ev_w_NONE_names)
  obtain ⟨cl_w_NONE_names, Ar_w_NONE_names⟩ := Arr.start ev_w_NONE_names g9
  have V_w_EMPTY_parts : Arv s s.heap w_EMPTY_parts cl_w_EMPTY_parts.cls (.object own_s3) (0 : Int32) [] .null := Arv.start hfit Ar_w_EMPTY_parts (own_len g7 ev_w_EMPTY_parts Ar_w_EMPTY_parts).1 (own_len g7 ev_w_EMPTY_parts Ar_w_EMPTY_parts).2 (by decide) rfl trivial
  obtain ⟨k_w_EMPTY_parts, hk_w_EMPTY_parts⟩ : ∃ k, k = cl_w_EMPTY_parts.cls := ⟨_, rfl⟩
  rw [← hk_w_EMPTY_parts] at V_w_EMPTY_parts
  have V_w_NONE_names : Arv s s.heap w_NONE_names cl_w_NONE_names.cls (.object "java/lang/String") (0 : Int32) [] .null := Arv.start hfit Ar_w_NONE_names (own_len g10 ev_w_NONE_names Ar_w_NONE_names).1 (own_len g10 ev_w_NONE_names Ar_w_NONE_names).2 (by decide) rfl trivial
  obtain ⟨k_w_NONE_names, hk_w_NONE_names⟩ : ∃ k, k = cl_w_NONE_names.cls := ⟨_, rfl⟩
  rw [← hk_w_NONE_names] at V_w_NONE_names
  obtain ⟨n, o, h1, h2, h3, _, L, rfl, ⟨rfl, N⟩, hq⟩ := own_rm0 l s _ hw tables_1 i0 i1 i2 i3 i4 i5 w_NONE w_EMPTY w_EMPTY_parts w_NONE_names k_w_EMPTY_parts k_w_NONE_names s.heap s.heap.size (Nat.le_refl _) S_NONE E_w_NONE S_EMPTY E_w_EMPTY F_parts_w_EMPTY F_names_w_NONE V_w_EMPTY_parts V_w_NONE_names p e ha hc hk s m _ below hf ((Spec.applies_iff_loose hf).mp happ).1 ⟨rfl, State.Warmed39.refl s, rfl⟩ trivial
  exact ⟨n, _, h1, h2, h3, hpost _ _ _ _ _ _ ⟨Cond.after_iff.mpr rfl, Cond.after_iff.mpr (eq_i res_at (Term.int_eval (1)) rfl), trivial⟩ ⟨hq.1, hq.2.1, (hq.2.2.sift fun y hy => Or.inr (N y hy)).mono (by decide) (by decide)⟩⟩
theorem main_1_1 : Claimed_1_1 := own_comes fun _ _ _ _ _ _ h hF => ⟨h.1, hF⟩
theorem main_1_2 : Claimed_1_2 := own_comes fun _ _ _ _ _ _ h hF => ⟨h.2.1, hF⟩
end Jvm.Pilot.@@N@@
namespace Jvm.Pilot.@@N@@
open Jvm Jvm.ClassFile Sem Op Lib Jvm.Free Jvm.Stand Jvm.Pilot.@@N@@.Jvm.D
/-! MADE BY PROGRAM (witnessworld.py) out of the Statement's table words and the real class files: 26 classes; the members and pool entries that the words name. The judged class is class 1, her method 1. -/
namespace start1
open Jvm.ClassFile
def u (s : String) : CpInfo := .utf8 (stringToUtf16 s)
/-- a pool by its gaps: so many unusable entries, then the entry; so many at the end -/
def gap : Nat → List CpInfo → List CpInfo
  | 0, r => r
  | n + 1, r => .unusable :: gap n r
def poolList (es : List (Nat × CpInfo)) (last : Nat) : List CpInfo := es.foldr (fun e r => gap e.1 (e.2 :: r)) (gap last [])
def pool (es : List (Nat × CpInfo)) (last : Nat) : Array CpInfo := ⟨poolList es last⟩
def fileOf (pool : Array CpInfo) (this : Nat) (attrs : Array Attribute := #[]) (ms : Array MethodInfo := #[]) (fl : Nat := 33) (sup : Nat := 0) (ifs : Array Nat := #[]) (fds : Array FieldInfo := #[]) : ClassFile where
  minorVersion := 0
  majorVersion := 65
  constantPool := pool
  accessFlags := fl
  thisClass := this
  superClass := sup
  interfaces := ifs
  fields := fds
  methods := ms
  attributes := attrs
def plain (name : String) (sup : Option ClassId) : Class where
  name := name
  kind := .ordinary
  loader := none
  accessFlags := 33
  super := sup
  interfaces := #[]
  cf := none
  fields := #[]
  methods := #[]
  instanceTypes := #[]
  staticTypes := #[]
  resolved := #[]
  callSites := []
  init := .initialized
  statics := none
  mirror := none

def pool0 : Array CpInfo := pool [(5, u "<init>"), (0, u "()V"), (1, .class_ 10), (1, u "java/lang/Object")] 113

def k0c0 : Code := { maxStack := 0, maxLocals := 1, code := object_method_1_code, exceptionTable := #[], attributes := #[] }
def k0m0 : Method := { name := "<init>", desc := "()V", sig := { parameters := [], returnType := none }, accessFlags := 1, code := some k0c0 }
/-- java/lang/Object -/
def k0 : Class := { plain "java/lang/Object" none with
  accessFlags := 33
  interfaces := #[]
  cf := some (fileOf pool0 8 #[] #[{ accessFlags := 1, nameIndex := 5, descriptorIndex := 6, attributes := #[] }] 33 0 #[] #[])
  fields := #[]
  methods := #[k0m0]
  instanceTypes := #[]
  staticTypes := #[]
  resolved := Array.replicate 124 none
  statics := none }

def pool1 : Array CpInfo := pool [(2, .class_ 4), (0, .nameAndType 5 6), (0, u "java/lang/Object"), (0, u "<init>"), (0, u "()V"), (0, .integer 2147483647), (0, .class_ 9), (0, u "com/example/lonborg/lonborg/Item"), (0, .fieldref 11 12), (0, .class_ 13), (0, .nameAndType 14 15), (0, u "com/example/lonborg/lonborg/Resources"), (0, u "NONE"), (0, u "Lcom/example/lonborg/lonborg/Resources;"), (0, .methodref 8 17), (0, .nameAndType 5 18), (0, u "(JJLcom/example/lonborg/lonborg/Resources;)V"), (0, .class_ 20), (0, u "com/example/lonborg/lonborg/ItemTree"), (0, .methodref 19 3), (0, .methodref 19 23), (0, .nameAndType 24 25), (0, u "add"), (0, u "(Lcom/example/lonborg/lonborg/Item;)V"), (0, .methodref 19 27), (0, .nameAndType 28 29), (0, u "first"), (0, u "()Lcom/example/lonborg/lonborg/Item;"), (0, .methodref 31 32), (0, .class_ 33), (0, .nameAndType 34 35), (0, u "com/example/lonborg/lonborg/ItemTreeFirstPinLaw"), (0, u "less"), (0, u "(JJJJ)Z"), (2, u "law"), (0, u "(JJJJII)Z")] 9

def k1m0 : Method := { name := "<init>", desc := "()V", sig := { parameters := [], returnType := none }, accessFlags := 1, code := none }
def k1c1 : Code := { maxStack := 10, maxLocals := 21, code := code, exceptionTable := #[], attributes := #[] }
def k1m1 : Method := { name := "law", desc := "(JJJJII)Z", sig := { parameters := [.long, .long, .long, .long, .int, .int], returnType := some .boolean }, accessFlags := 9, code := some k1c1 }
def k1c2 : Code := { maxStack := 4, maxLocals := 8, code := method_3_code, exceptionTable := #[], attributes := #[] }
def k1m2 : Method := { name := "less", desc := "(JJJJ)Z", sig := { parameters := [.long, .long, .long, .long], returnType := some .boolean }, accessFlags := 10, code := some k1c2 }
/-- com/example/lonborg/lonborg/ItemTreeFirstPinLaw -/
def k1 : Class := { plain "com/example/lonborg/lonborg/ItemTreeFirstPinLaw" (some 0) with
  accessFlags := 49
  interfaces := #[]
  cf := some (fileOf pool1 31 #[] #[{ accessFlags := 1, nameIndex := 5, descriptorIndex := 6, attributes := #[] }, { accessFlags := 9, nameIndex := 38, descriptorIndex := 39, attributes := #[] }, { accessFlags := 10, nameIndex := 34, descriptorIndex := 35, attributes := #[] }] 49 2 #[] #[])
  fields := #[]
  methods := #[k1m0, k1m1, k1m2]
  instanceTypes := #[]
  staticTypes := #[]
  resolved := Array.replicate 49 none
  statics := none }

def pool2 : Array CpInfo := pool [(1, .methodref 2 3), (0, .class_ 4), (0, .nameAndType 5 6), (0, u "java/lang/Object"), (0, u "<init>"), (0, u "()V"), (0, .fieldref 8 9), (0, .class_ 10), (0, .nameAndType 11 12), (0, u "com/example/lonborg/lonborg/Item"), (0, u "id"), (0, u "J"), (0, .fieldref 8 14), (0, .nameAndType 15 12), (0, u "priority"), (0, .fieldref 8 17), (0, .nameAndType 18 19), (0, u "payload"), (0, u "[B"), (0, .fieldref 8 21), (0, .nameAndType 22 23), (0, u "needs"), (0, u "Lcom/example/lonborg/lonborg/Resources;"), (0, .methodref 8 25), (0, .nameAndType 5 26), (0, u "(JJ[BLcom/example/lonborg/lonborg/Resources;)V"), (17, u "(JJLcom/example/lonborg/lonborg/Resources;)V"), (2, u "()J"), (3, u "checkedNeeds"), (0, u "()Lcom/example/lonborg/lonborg/Resources;")] 6

def k2c0 : Code := { maxStack := 3, maxLocals := 7, code := prog_1_method_1_code, exceptionTable := #[], attributes := #[] }
def k2m0 : Method := { name := "<init>", desc := "(JJ[BLcom/example/lonborg/lonborg/Resources;)V", sig := { parameters := [.long, .long, (.array .byte), (.object "com/example/lonborg/lonborg/Resources")], returnType := none }, accessFlags := 0, code := some k2c0 }
def k2c1 : Code := { maxStack := 7, maxLocals := 6, code := prog_1_method_2_code, exceptionTable := #[], attributes := #[] }
def k2m1 : Method := { name := "<init>", desc := "(JJLcom/example/lonborg/lonborg/Resources;)V", sig := { parameters := [.long, .long, (.object "com/example/lonborg/lonborg/Resources")], returnType := none }, accessFlags := 0, code := some k2c1 }
def k2c2 : Code := { maxStack := 2, maxLocals := 1, code := prog_1_method_3_code, exceptionTable := #[], attributes := #[] }
def k2m2 : Method := { name := "id", desc := "()J", sig := { parameters := [], returnType := some .long }, accessFlags := 1, code := some k2c2 }
def k2c3 : Code := { maxStack := 2, maxLocals := 1, code := prog_1_method_4_code, exceptionTable := #[], attributes := #[] }
def k2m3 : Method := { name := "priority", desc := "()J", sig := { parameters := [], returnType := some .long }, accessFlags := 1, code := some k2c3 }
def k2c4 : Code := { maxStack := 1, maxLocals := 1, code := prog_1_method_7_code, exceptionTable := #[], attributes := #[] }
def k2m4 : Method := { name := "checkedNeeds", desc := "()Lcom/example/lonborg/lonborg/Resources;", sig := { parameters := [], returnType := some (.object "com/example/lonborg/lonborg/Resources") }, accessFlags := 0, code := some k2c4 }
/-- com/example/lonborg/lonborg/Item -/
def k2 : Class := { plain "com/example/lonborg/lonborg/Item" (some 0) with
  accessFlags := 33
  interfaces := #[]
  cf := some (fileOf pool2 8 #[] #[{ accessFlags := 0, nameIndex := 5, descriptorIndex := 26, attributes := #[] }, { accessFlags := 0, nameIndex := 5, descriptorIndex := 44, attributes := #[] }, { accessFlags := 1, nameIndex := 11, descriptorIndex := 47, attributes := #[] }, { accessFlags := 1, nameIndex := 15, descriptorIndex := 47, attributes := #[] }, { accessFlags := 0, nameIndex := 51, descriptorIndex := 52, attributes := #[] }] 33 2 #[] #[{ accessFlags := 18, nameIndex := 11, descriptorIndex := 12, attributes := #[] }, { accessFlags := 18, nameIndex := 15, descriptorIndex := 12, attributes := #[] }, { accessFlags := 18, nameIndex := 18, descriptorIndex := 19, attributes := #[] }, { accessFlags := 18, nameIndex := 22, descriptorIndex := 23, attributes := #[] }])
  fields := #[{ name := "id", type := .long, accessFlags := 18, slot := 0, constantValue := 0 }, { name := "priority", type := .long, accessFlags := 18, slot := 1, constantValue := 0 }, { name := "payload", type := (.array .byte), accessFlags := 18, slot := 2, constantValue := 0 }, { name := "needs", type := (.object "com/example/lonborg/lonborg/Resources"), accessFlags := 18, slot := 3, constantValue := 0 }]
  methods := #[k2m0, k2m1, k2m2, k2m3, k2m4]
  instanceTypes := #[.long, .long, (.array .byte), (.object "com/example/lonborg/lonborg/Resources")]
  staticTypes := #[]
  resolved := Array.replicate 59 none
  statics := none }

def pool3 : Array CpInfo := pool [(2, .class_ 4), (1, u "java/lang/Object"), (2, .fieldref 8 9), (0, .class_ 10), (0, .nameAndType 11 12), (0, u "com/example/lonborg/lonborg/Resources"), (0, u "names"), (0, u "[Ljava/lang/String;"), (2, u "amounts"), (0, u "[J"), (97, u "fitsIn"), (0, u "(Lcom/example/lonborg/lonborg/Resources;)Z"), (38, u "NONE"), (0, u "Lcom/example/lonborg/lonborg/Resources;"), (0, u "MAX_NAMES"), (0, u "I")] 38

def k3c0 : Code := { maxStack := 4, maxLocals := 9, code := prog_18_method_4_code, exceptionTable := #[], attributes := #[] }
def k3m0 : Method := { name := "fitsIn", desc := "(Lcom/example/lonborg/lonborg/Resources;)Z", sig := { parameters := [(.object "com/example/lonborg/lonborg/Resources")], returnType := some .boolean }, accessFlags := 0, code := some k3c0 }
/-- com/example/lonborg/lonborg/Resources -/
def k3 : Class := { plain "com/example/lonborg/lonborg/Resources" (some 0) with
  accessFlags := 32
  interfaces := #[]
  cf := some (fileOf pool3 8 #[] #[{ accessFlags := 0, nameIndex := 114, descriptorIndex := 115, attributes := #[] }] 32 2 #[] #[{ accessFlags := 24, nameIndex := 154, descriptorIndex := 155, attributes := #[] }, { accessFlags := 26, nameIndex := 156, descriptorIndex := 157, attributes := #[] }, { accessFlags := 18, nameIndex := 11, descriptorIndex := 12, attributes := #[] }, { accessFlags := 18, nameIndex := 15, descriptorIndex := 16, attributes := #[] }])
  fields := #[{ name := "NONE", type := (.object "com/example/lonborg/lonborg/Resources"), accessFlags := 24, slot := 0, constantValue := 0 }, { name := "MAX_NAMES", type := .int, accessFlags := 26, slot := 1, constantValue := 0 }, { name := "names", type := (.array (.object "java/lang/String")), accessFlags := 18, slot := 0, constantValue := 0 }, { name := "amounts", type := (.array .long), accessFlags := 18, slot := 1, constantValue := 0 }]
  methods := #[k3m0]
  instanceTypes := #[(.array (.object "java/lang/String")), (.array .long)]
  staticTypes := #[(.object "com/example/lonborg/lonborg/Resources"), .int]
  resolved := Array.replicate 196 none
  statics := some 0 }

def pool4 : Array CpInfo := pool [(1, .methodref 2 3), (0, .class_ 4), (0, .nameAndType 5 6), (0, u "java/lang/Object"), (0, u "<init>"), (0, u "()V"), (0, .class_ 8), (0, u "com/example/lonborg/lonborg/ItemTree$Leaf"), (0, .methodref 7 3), (0, .fieldref 11 12), (0, .class_ 13), (0, .nameAndType 14 15), (0, u "com/example/lonborg/lonborg/ItemTree"), (0, u "root"), (0, u "Lcom/example/lonborg/lonborg/ItemTree$Node;"), (0, .methodref 17 18), (0, .class_ 19), (0, .nameAndType 20 21), (0, u "com/example/lonborg/lonborg/ItemTree$Node"), (0, u "add"), (0, u "(Lcom/example/lonborg/lonborg/Item;)Lcom/example/lonborg/lonborg/ItemTree$Node;"), (0, .class_ 23), (0, u "com/example/lonborg/lonborg/ItemTree$Branch"), (3, .fieldref 11 28), (0, .nameAndType 29 30), (0, u "size"), (0, u "J"), (0, .methodref 17 32), (0, .nameAndType 33 34), (0, u "first"), (0, u "()Lcom/example/lonborg/lonborg/Item;"), (31, u "I"), (4, .methodref 72 73), (0, .class_ 74), (0, .nameAndType 75 76), (0, u "com/example/lonborg/lonborg/Item"), (0, u "priority"), (0, u "()J"), (0, .methodref 72 78), (0, .nameAndType 79 76), (0, u "id"), (0, u "CAPACITY"), (4, u "(Lcom/example/lonborg/lonborg/Item;)V"), (4, u "before"), (0, u "(Lcom/example/lonborg/lonborg/Item;JJ)Z")] 7

def k4c0 : Code := { maxStack := 3, maxLocals := 1, code := prog_2_method_1_code, exceptionTable := #[], attributes := #[] }
def k4m0 : Method := { name := "<init>", desc := "()V", sig := { parameters := [], returnType := none }, accessFlags := 0, code := some k4c0 }
def k4c1 : Code := { maxStack := 5, maxLocals := 3, code := prog_2_method_2_code, exceptionTable := #[], attributes := #[] }
def k4m1 : Method := { name := "add", desc := "(Lcom/example/lonborg/lonborg/Item;)V", sig := { parameters := [(.object "com/example/lonborg/lonborg/Item")], returnType := none }, accessFlags := 0, code := some k4c1 }
def k4c2 : Code := { maxStack := 4, maxLocals := 1, code := prog_2_method_3_code, exceptionTable := #[], attributes := #[] }
def k4m2 : Method := { name := "first", desc := "()Lcom/example/lonborg/lonborg/Item;", sig := { parameters := [], returnType := some (.object "com/example/lonborg/lonborg/Item") }, accessFlags := 0, code := some k4c2 }
def k4c3 : Code := { maxStack := 4, maxLocals := 5, code := prog_2_method_10_code, exceptionTable := #[], attributes := #[] }
def k4m3 : Method := { name := "before", desc := "(Lcom/example/lonborg/lonborg/Item;JJ)Z", sig := { parameters := [(.object "com/example/lonborg/lonborg/Item"), .long, .long], returnType := some .boolean }, accessFlags := 10, code := some k4c3 }
/-- com/example/lonborg/lonborg/ItemTree -/
def k4 : Class := { plain "com/example/lonborg/lonborg/ItemTree" (some 0) with
  accessFlags := 32
  interfaces := #[]
  cf := some (fileOf pool4 11 #[.nestMembers #[22, 7, 17]] #[{ accessFlags := 0, nameIndex := 5, descriptorIndex := 6, attributes := #[] }, { accessFlags := 0, nameIndex := 20, descriptorIndex := 85, attributes := #[] }, { accessFlags := 0, nameIndex := 33, descriptorIndex := 34, attributes := #[] }, { accessFlags := 10, nameIndex := 90, descriptorIndex := 91, attributes := #[] }] 32 2 #[] #[{ accessFlags := 26, nameIndex := 80, descriptorIndex := 66, attributes := #[] }, { accessFlags := 2, nameIndex := 14, descriptorIndex := 15, attributes := #[] }, { accessFlags := 2, nameIndex := 29, descriptorIndex := 30, attributes := #[] }])
  fields := #[{ name := "CAPACITY", type := .int, accessFlags := 26, slot := 0, constantValue := 0 }, { name := "root", type := (.object "com/example/lonborg/lonborg/ItemTree$Node"), accessFlags := 2, slot := 0, constantValue := 0 }, { name := "size", type := .long, accessFlags := 2, slot := 1, constantValue := 0 }]
  methods := #[k4m0, k4m1, k4m2, k4m3]
  instanceTypes := #[(.object "com/example/lonborg/lonborg/ItemTree$Node"), .long]
  staticTypes := #[.int]
  resolved := ((Array.replicate 99 none).setIfInBounds 9 (some (.method ⟨6, 0⟩))).setIfInBounds 7 (some (.cls 6))
  statics := none }

def pool5 : Array CpInfo := pool [(1, .methodref 2 3), (0, .class_ 4), (0, .nameAndType 5 6), (0, u "java/lang/Object"), (0, u "<init>"), (0, u "()V"), (0, .fieldref 8 9), (0, .class_ 10), (0, .nameAndType 11 12), (0, u "com/example/lonborg/lonborg/LeastNeeds"), (0, u "EMPTY"), (0, u "Lcom/example/lonborg/lonborg/LeastNeeds;"), (0, .fieldref 14 15), (0, .class_ 16), (0, .nameAndType 17 12), (0, u "com/example/lonborg/lonborg/ItemTree$Node"), (0, u "least"), (0, .fieldref 14 19), (0, .nameAndType 20 21), (0, u "count"), (0, u "I"), (4, .fieldref 14 27), (0, .nameAndType 28 29), (0, u "stale"), (0, u "Z"), (0, .methodref 8 31), (0, .nameAndType 32 33), (0, u "with"), (0, u "(Lcom/example/lonborg/lonborg/Resources;)Lcom/example/lonborg/lonborg/LeastNeeds;"), (2, u "add"), (0, u "(Lcom/example/lonborg/lonborg/Item;)Lcom/example/lonborg/lonborg/ItemTree$Node;"), (0, u "first"), (0, u "()Lcom/example/lonborg/lonborg/Item;"), (11, u "widen"), (0, u "(Lcom/example/lonborg/lonborg/Resources;)V"), (3, .class_ 57), (0, u "com/example/lonborg/lonborg/ItemTree")] 9

def k5c0 : Code := { maxStack := 2, maxLocals := 1, code := prog_5_method_1_code, exceptionTable := #[], attributes := #[] }
def k5m0 : Method := { name := "<init>", desc := "()V", sig := { parameters := [], returnType := none }, accessFlags := 2, code := some k5c0 }
def k5m1 : Method := { name := "add", desc := "(Lcom/example/lonborg/lonborg/Item;)Lcom/example/lonborg/lonborg/ItemTree$Node;", sig := { parameters := [(.object "com/example/lonborg/lonborg/Item")], returnType := some (.object "com/example/lonborg/lonborg/ItemTree$Node") }, accessFlags := 1024, code := none }
def k5m2 : Method := { name := "first", desc := "()Lcom/example/lonborg/lonborg/Item;", sig := { parameters := [], returnType := some (.object "com/example/lonborg/lonborg/Item") }, accessFlags := 1024, code := none }
def k5c3 : Code := { maxStack := 3, maxLocals := 2, code := prog_5_method_10_code, exceptionTable := #[], attributes := #[] }
def k5m3 : Method := { name := "widen", desc := "(Lcom/example/lonborg/lonborg/Resources;)V", sig := { parameters := [(.object "com/example/lonborg/lonborg/Resources")], returnType := none }, accessFlags := 0, code := some k5c3 }
/-- com/example/lonborg/lonborg/ItemTree$Node -/
def k5 : Class := { plain "com/example/lonborg/lonborg/ItemTree$Node" (some 0) with
  accessFlags := 1056
  interfaces := #[]
  cf := some (fileOf pool5 14 #[.nestHost 56] #[{ accessFlags := 2, nameIndex := 5, descriptorIndex := 6, attributes := #[] }, { accessFlags := 1024, nameIndex := 36, descriptorIndex := 37, attributes := #[] }, { accessFlags := 1024, nameIndex := 38, descriptorIndex := 39, attributes := #[] }, { accessFlags := 0, nameIndex := 51, descriptorIndex := 52, attributes := #[] }] 1056 2 #[] #[{ accessFlags := 0, nameIndex := 20, descriptorIndex := 21, attributes := #[] }, { accessFlags := 0, nameIndex := 17, descriptorIndex := 12, attributes := #[] }, { accessFlags := 0, nameIndex := 28, descriptorIndex := 29, attributes := #[] }])
  fields := #[{ name := "count", type := .int, accessFlags := 0, slot := 0, constantValue := 0 }, { name := "least", type := (.object "com/example/lonborg/lonborg/LeastNeeds"), accessFlags := 0, slot := 1, constantValue := 0 }, { name := "stale", type := .boolean, accessFlags := 0, slot := 2, constantValue := 0 }]
  methods := #[k5m0, k5m1, k5m2, k5m3]
  instanceTypes := #[.int, (.object "com/example/lonborg/lonborg/LeastNeeds"), .boolean]
  staticTypes := #[]
  resolved := Array.replicate 67 none
  statics := none }

def pool6 : Array CpInfo := pool [(1, .class_ 2), (0, u "com/example/lonborg/lonborg/ItemTree"), (0, .methodref 4 5), (0, .class_ 6), (0, .nameAndType 7 8), (0, u "com/example/lonborg/lonborg/ItemTree$Node"), (0, u "<init>"), (0, u "()V"), (0, .class_ 10), (0, u "com/example/lonborg/lonborg/Item"), (0, .fieldref 12 13), (0, .class_ 14), (0, .nameAndType 15 16), (0, u "com/example/lonborg/lonborg/ItemTree$Leaf"), (0, u "items"), (0, u "[Lcom/example/lonborg/lonborg/Item;"), (0, .methodref 12 18), (0, .nameAndType 19 20), (0, u "placeOf"), (0, u "(Lcom/example/lonborg/lonborg/Item;)I"), (0, .fieldref 12 22), (0, .nameAndType 23 24), (0, u "count"), (0, u "I"), (0, .methodref 9 26), (0, .nameAndType 27 28), (0, u "checkedNeeds"), (0, u "()Lcom/example/lonborg/lonborg/Resources;"), (0, .methodref 12 30), (0, .nameAndType 31 32), (0, u "widen"), (0, u "(Lcom/example/lonborg/lonborg/Resources;)V"), (0, .methodref 34 35), (0, .class_ 36), (0, .nameAndType 37 38), (0, u "java/lang/System"), (0, u "arraycopy"), (0, u "(Ljava/lang/Object;ILjava/lang/Object;II)V"), (0, .methodref 12 5), (27, .methodref 9 68), (0, .nameAndType 69 70), (0, u "priority"), (0, u "()J"), (0, .methodref 9 72), (0, .nameAndType 73 70), (0, u "id"), (0, .methodref 1 75), (0, .nameAndType 76 77), (0, u "before"), (0, u "(Lcom/example/lonborg/lonborg/Item;JJ)Z"), (8, u "add"), (0, u "(Lcom/example/lonborg/lonborg/Item;)Lcom/example/lonborg/lonborg/ItemTree$Node;"), (1, u "first"), (0, u "()Lcom/example/lonborg/lonborg/Item;")] 18

def k6c0 : Code := { maxStack := 2, maxLocals := 1, code := prog_4_method_1_code, exceptionTable := #[], attributes := #[] }
def k6m0 : Method := { name := "<init>", desc := "()V", sig := { parameters := [], returnType := none }, accessFlags := 2, code := some k6c0 }
def k6c1 : Code := { maxStack := 6, maxLocals := 4, code := prog_4_method_2_code, exceptionTable := #[], attributes := #[] }
def k6m1 : Method := { name := "add", desc := "(Lcom/example/lonborg/lonborg/Item;)Lcom/example/lonborg/lonborg/ItemTree$Node;", sig := { parameters := [(.object "com/example/lonborg/lonborg/Item")], returnType := some (.object "com/example/lonborg/lonborg/ItemTree$Node") }, accessFlags := 0, code := some k6c1 }
def k6c2 : Code := { maxStack := 2, maxLocals := 1, code := prog_4_method_3_code, exceptionTable := #[], attributes := #[] }
def k6m2 : Method := { name := "first", desc := "()Lcom/example/lonborg/lonborg/Item;", sig := { parameters := [], returnType := some (.object "com/example/lonborg/lonborg/Item") }, accessFlags := 0, code := some k6c2 }
def k6c3 : Code := { maxStack := 5, maxLocals := 5, code := prog_4_method_9_code, exceptionTable := #[], attributes := #[] }
def k6m3 : Method := { name := "placeOf", desc := "(Lcom/example/lonborg/lonborg/Item;)I", sig := { parameters := [(.object "com/example/lonborg/lonborg/Item")], returnType := some .int }, accessFlags := 2, code := some k6c3 }
/-- com/example/lonborg/lonborg/ItemTree$Leaf -/
def k6 : Class := { plain "com/example/lonborg/lonborg/ItemTree$Leaf" (some 5) with
  accessFlags := 48
  interfaces := #[]
  cf := some (fileOf pool6 12 #[.nestHost 1] #[{ accessFlags := 2, nameIndex := 7, descriptorIndex := 8, attributes := #[] }, { accessFlags := 0, nameIndex := 86, descriptorIndex := 87, attributes := #[] }, { accessFlags := 0, nameIndex := 89, descriptorIndex := 90, attributes := #[] }, { accessFlags := 2, nameIndex := 19, descriptorIndex := 20, attributes := #[] }] 48 4 #[] #[{ accessFlags := 18, nameIndex := 15, descriptorIndex := 16, attributes := #[] }])
  fields := #[{ name := "items", type := (.array (.object "com/example/lonborg/lonborg/Item")), accessFlags := 18, slot := 3, constantValue := 0 }]
  methods := #[k6m0, k6m1, k6m2, k6m3]
  instanceTypes := #[.int, (.object "com/example/lonborg/lonborg/LeastNeeds"), .boolean, (.array (.object "com/example/lonborg/lonborg/Item"))]
  staticTypes := #[]
  resolved := Array.replicate 109 none
  statics := none }

def pool7 : Array CpInfo := pool [(1, .methodref 2 3), (0, .class_ 4), (0, .nameAndType 5 6), (0, u "java/lang/Object"), (0, u "<init>"), (0, u "()V"), (0, .fieldref 8 9), (0, .class_ 10), (0, .nameAndType 11 12), (0, u "com/example/lonborg/lonborg/LeastNeeds"), (0, u "parts"), (0, u "[Lcom/example/lonborg/lonborg/Resources;"), (0, .methodref 14 15), (0, .class_ 16), (0, .nameAndType 17 18), (0, u "com/example/lonborg/lonborg/Resources"), (0, u "fitsIn"), (0, u "(Lcom/example/lonborg/lonborg/Resources;)Z"), (7, .methodref 8 27), (0, .nameAndType 28 29), (0, u "replaced"), (0, u "(ILcom/example/lonborg/lonborg/Resources;)Lcom/example/lonborg/lonborg/LeastNeeds;"), (2, u "with"), (0, u "(Lcom/example/lonborg/lonborg/Resources;)Lcom/example/lonborg/lonborg/LeastNeeds;"), (0, .methodref 35 36), (0, .class_ 37), (0, .nameAndType 38 39), (0, u "java/lang/Math"), (0, u "max"), (0, u "(II)I"), (7, .methodref 8 48), (0, .nameAndType 5 49), (0, u "([Lcom/example/lonborg/lonborg/Resources;)V"), (2, u "EMPTY"), (0, u "Lcom/example/lonborg/lonborg/LeastNeeds;"), (0, u "MAX_PARTS"), (0, u "I")] 9

def k7c0 : Code := { maxStack := 2, maxLocals := 2, code := prog_8_method_1_code, exceptionTable := #[], attributes := #[] }
def k7m0 : Method := { name := "<init>", desc := "([Lcom/example/lonborg/lonborg/Resources;)V", sig := { parameters := [(.array (.object "com/example/lonborg/lonborg/Resources"))], returnType := none }, accessFlags := 2, code := some k7c0 }
def k7c1 : Code := { maxStack := 3, maxLocals := 4, code := prog_8_method_3_code, exceptionTable := #[], attributes := #[] }
def k7m1 : Method := { name := "with", desc := "(Lcom/example/lonborg/lonborg/Resources;)Lcom/example/lonborg/lonborg/LeastNeeds;", sig := { parameters := [(.object "com/example/lonborg/lonborg/Resources")], returnType := some (.object "com/example/lonborg/lonborg/LeastNeeds") }, accessFlags := 0, code := some k7c1 }
def k7c2 : Code := { maxStack := 4, maxLocals := 6, code := prog_8_method_5_code, exceptionTable := #[], attributes := #[] }
def k7m2 : Method := { name := "replaced", desc := "(ILcom/example/lonborg/lonborg/Resources;)Lcom/example/lonborg/lonborg/LeastNeeds;", sig := { parameters := [.int, (.object "com/example/lonborg/lonborg/Resources")], returnType := some (.object "com/example/lonborg/lonborg/LeastNeeds") }, accessFlags := 2, code := some k7c2 }
/-- com/example/lonborg/lonborg/LeastNeeds -/
def k7 : Class := { plain "com/example/lonborg/lonborg/LeastNeeds" (some 0) with
  accessFlags := 32
  interfaces := #[]
  cf := some (fileOf pool7 8 #[] #[{ accessFlags := 2, nameIndex := 5, descriptorIndex := 49, attributes := #[] }, { accessFlags := 0, nameIndex := 32, descriptorIndex := 33, attributes := #[] }, { accessFlags := 2, nameIndex := 28, descriptorIndex := 29, attributes := #[] }] 32 2 #[] #[{ accessFlags := 24, nameIndex := 52, descriptorIndex := 53, attributes := #[] }, { accessFlags := 26, nameIndex := 54, descriptorIndex := 55, attributes := #[] }, { accessFlags := 18, nameIndex := 11, descriptorIndex := 12, attributes := #[] }])
  fields := #[{ name := "EMPTY", type := (.object "com/example/lonborg/lonborg/LeastNeeds"), accessFlags := 24, slot := 0, constantValue := 0 }, { name := "MAX_PARTS", type := .int, accessFlags := 26, slot := 1, constantValue := 0 }, { name := "parts", type := (.array (.object "com/example/lonborg/lonborg/Resources")), accessFlags := 18, slot := 0, constantValue := 0 }]
  methods := #[k7m0, k7m1, k7m2]
  instanceTypes := #[(.array (.object "com/example/lonborg/lonborg/Resources"))]
  staticTypes := #[(.object "com/example/lonborg/lonborg/LeastNeeds"), .int]
  resolved := Array.replicate 65 none
  statics := some 1 }

def pool8 : Array CpInfo := pool [(1, .class_ 2), (0, u "java/lang/Math"), (1, .class_ 6), (1, u "java/lang/Object"), (0, u "<init>"), (0, u "()V"), (89, .class_ 100), (1, u "java/lang/Math$RandomNumberGeneratorHolder"), (71, u "negativeZeroFloatBits"), (0, u "J"), (2, u "negativeZeroDoubleBits"), (21, u "max"), (46, u "$assertionsDisabled"), (0, u "Z"), (88, u "(II)I"), (2, u "twoToTheDoubleScaleDown"), (0, u "D"), (4, u "twoToTheDoubleScaleUp"), (9, u "E"), (3, u "PI"), (2, u "TAU"), (2, u "DEGREES_TO_RADIANS"), (0, u "RADIANS_TO_DEGREES")] 94

def k8m0 : Method := { name := "<init>", desc := "()V", sig := { parameters := [], returnType := none }, accessFlags := 2, code := none }
def k8c1 : Code := { maxStack := 2, maxLocals := 2, code := jdk_29_method_65_code, exceptionTable := #[], attributes := #[] }
def k8m1 : Method := { name := "max", desc := "(II)I", sig := { parameters := [.int, .int], returnType := some .int }, accessFlags := 9, code := some k8c1 }
/-- java/lang/Math -/
def k8 : Class := { plain "java/lang/Math" (some 0) with
  accessFlags := 49
  interfaces := #[]
  cf := some (fileOf pool8 1 #[.nestMembers #[98]] #[{ accessFlags := 2, nameIndex := 7, descriptorIndex := 8, attributes := #[] }, { accessFlags := 9, nameIndex := 198, descriptorIndex := 335, attributes := #[] }] 49 4 #[] #[{ accessFlags := 25, nameIndex := 354, descriptorIndex := 339, attributes := #[] }, { accessFlags := 25, nameIndex := 358, descriptorIndex := 339, attributes := #[] }, { accessFlags := 25, nameIndex := 361, descriptorIndex := 339, attributes := #[] }, { accessFlags := 26, nameIndex := 364, descriptorIndex := 339, attributes := #[] }, { accessFlags := 26, nameIndex := 365, descriptorIndex := 339, attributes := #[] }, { accessFlags := 26, nameIndex := 172, descriptorIndex := 173, attributes := #[] }, { accessFlags := 26, nameIndex := 176, descriptorIndex := 173, attributes := #[] }, { accessFlags := 8, nameIndex := 344, descriptorIndex := 339, attributes := #[] }, { accessFlags := 8, nameIndex := 338, descriptorIndex := 339, attributes := #[] }, { accessFlags := 4120, nameIndex := 245, descriptorIndex := 246, attributes := #[] }])
  fields := #[{ name := "E", type := .double, accessFlags := 25, slot := 0, constantValue := 0 }, { name := "PI", type := .double, accessFlags := 25, slot := 1, constantValue := 0 }, { name := "TAU", type := .double, accessFlags := 25, slot := 2, constantValue := 0 }, { name := "DEGREES_TO_RADIANS", type := .double, accessFlags := 26, slot := 3, constantValue := 0 }, { name := "RADIANS_TO_DEGREES", type := .double, accessFlags := 26, slot := 4, constantValue := 0 }, { name := "negativeZeroFloatBits", type := .long, accessFlags := 26, slot := 5, constantValue := 0 }, { name := "negativeZeroDoubleBits", type := .long, accessFlags := 26, slot := 6, constantValue := 0 }, { name := "twoToTheDoubleScaleUp", type := .double, accessFlags := 8, slot := 7, constantValue := 0 }, { name := "twoToTheDoubleScaleDown", type := .double, accessFlags := 8, slot := 8, constantValue := 0 }, { name := "$assertionsDisabled", type := .boolean, accessFlags := 4120, slot := 9, constantValue := 0 }]
  methods := #[k8m0, k8m1]
  instanceTypes := #[]
  staticTypes := #[.double, .double, .double, .double, .double, .long, .long, .double, .double, .boolean]
  resolved := Array.replicate 460 none
  statics := none }

def pool9 : Array CpInfo := pool [(2, .class_ 4), (1, u "java/lang/Object"), (0, u "<init>"), (0, u "()V"), (1, .class_ 10), (1, u "java/lang/System"), (0, u "allowSecurityManager"), (0, u "I"), (16, u "cons"), (0, u "Ljava/io/Console;"), (77, .class_ 110), (1, u "java/lang/System$CallersHolder"), (43, u "initialErrStream"), (0, u "Ljava/io/PrintStream;"), (19, u "security"), (0, u "Ljava/lang/SecurityManager;"), (31, .class_ 209), (0, u "java/lang/System$1"), (7, u "props"), (0, u "Ljava/util/Properties;"), (2, u "lineSeparator"), (0, u "Ljava/lang/String;"), (96, .class_ 321), (1, u "java/lang/System$LoggerFinder"), (5, .class_ 328), (0, u "java/lang/System$Logger"), (67, u "err"), (2, u "out"), (91, u "notSupportedJnuEncoding"), (15, u "in"), (17, u "initialIn"), (0, u "Ljava/io/InputStream;"), (35, u "bootLayer"), (0, u "Ljava/lang/ModuleLayer;"), (99, .class_ 664), (0, u "java/lang/System$2"), (9, u "NEVER"), (2, u "MAYBE"), (49, u "arraycopy"), (0, u "(Ljava/lang/Object;ILjava/lang/Object;II)V"), (72, .class_ 802), (0, u "java/lang/System$Logger$Level")] 31

def k9m0 : Method := { name := "<init>", desc := "()V", sig := { parameters := [], returnType := none }, accessFlags := 2, code := none }
def k9m1 : Method := { name := "arraycopy", desc := "(Ljava/lang/Object;ILjava/lang/Object;II)V", sig := { parameters := [(.object "java/lang/Object"), .int, (.object "java/lang/Object"), .int, .int], returnType := none }, accessFlags := 265, code := none }
/-- java/lang/System -/
def k9 : Class := { plain "java/lang/System" (some 0) with
  accessFlags := 49
  interfaces := #[]
  cf := some (fileOf pool9 8 #[.nestMembers #[319, 327, 801, 108, 663, 208]] #[{ accessFlags := 2, nameIndex := 5, descriptorIndex := 6, attributes := #[] }, { accessFlags := 265, nameIndex := 727, descriptorIndex := 728, attributes := #[] }] 49 2 #[] #[{ accessFlags := 25, nameIndex := 507, descriptorIndex := 526, attributes := #[] }, { accessFlags := 25, nameIndex := 399, descriptorIndex := 155, attributes := #[] }, { accessFlags := 25, nameIndex := 396, descriptorIndex := 155, attributes := #[] }, { accessFlags := 10, nameIndex := 525, descriptorIndex := 526, attributes := #[] }, { accessFlags := 26, nameIndex := 674, descriptorIndex := 12, attributes := #[] }, { accessFlags := 26, nameIndex := 677, descriptorIndex := 12, attributes := #[] }, { accessFlags := 10, nameIndex := 11, descriptorIndex := 12, attributes := #[] }, { accessFlags := 74, nameIndex := 175, descriptorIndex := 176, attributes := #[] }, { accessFlags := 10, nameIndex := 491, descriptorIndex := 222, attributes := #[] }, { accessFlags := 74, nameIndex := 29, descriptorIndex := 30, attributes := #[] }, { accessFlags := 74, nameIndex := 154, descriptorIndex := 155, attributes := #[] }, { accessFlags := 10, nameIndex := 217, descriptorIndex := 218, attributes := #[] }, { accessFlags := 10, nameIndex := 221, descriptorIndex := 222, attributes := #[] }, { accessFlags := 8, nameIndex := 562, descriptorIndex := 563, attributes := #[] }])
  fields := #[{ name := "in", type := (.object "java/io/InputStream"), accessFlags := 25, slot := 0, constantValue := 0 }, { name := "out", type := (.object "java/io/PrintStream"), accessFlags := 25, slot := 1, constantValue := 0 }, { name := "err", type := (.object "java/io/PrintStream"), accessFlags := 25, slot := 2, constantValue := 0 }, { name := "initialIn", type := (.object "java/io/InputStream"), accessFlags := 10, slot := 3, constantValue := 0 }, { name := "NEVER", type := .int, accessFlags := 26, slot := 4, constantValue := 0 }, { name := "MAYBE", type := .int, accessFlags := 26, slot := 5, constantValue := 0 }, { name := "allowSecurityManager", type := .int, accessFlags := 10, slot := 6, constantValue := 0 }, { name := "security", type := (.object "java/lang/SecurityManager"), accessFlags := 74, slot := 7, constantValue := 0 }, { name := "notSupportedJnuEncoding", type := (.object "java/lang/String"), accessFlags := 10, slot := 8, constantValue := 0 }, { name := "cons", type := (.object "java/io/Console"), accessFlags := 74, slot := 9, constantValue := 0 }, { name := "initialErrStream", type := (.object "java/io/PrintStream"), accessFlags := 74, slot := 10, constantValue := 0 }, { name := "props", type := (.object "java/util/Properties"), accessFlags := 10, slot := 11, constantValue := 0 }, { name := "lineSeparator", type := (.object "java/lang/String"), accessFlags := 10, slot := 12, constantValue := 0 }, { name := "bootLayer", type := (.object "java/lang/ModuleLayer"), accessFlags := 8, slot := 13, constantValue := 0 }]
  methods := #[k9m0, k9m1]
  instanceTypes := #[]
  staticTypes := #[(.object "java/io/InputStream"), (.object "java/io/PrintStream"), (.object "java/io/PrintStream"), (.object "java/io/InputStream"), .int, .int, .int, (.object "java/lang/SecurityManager"), (.object "java/lang/String"), (.object "java/io/Console"), (.object "java/io/PrintStream"), (.object "java/util/Properties"), (.object "java/lang/String"), (.object "java/lang/ModuleLayer")]
  resolved := Array.replicate 834 none
  statics := none }

def pool10 : Array CpInfo := pool [(1, .class_ 2), (0, u "java/io/Serializable"), (0, .class_ 4), (0, u "java/lang/Object")] 2

/-- java/io/Serializable -/
def k10 : Class := { plain "java/io/Serializable" (some 0) with
  accessFlags := 1537
  interfaces := #[]
  cf := some (fileOf pool10 1 #[] #[] 1537 3 #[] #[])
  fields := #[]
  methods := #[]
  instanceTypes := #[]
  staticTypes := #[]
  resolved := Array.replicate 7 none
  statics := none }

def pool11 : Array CpInfo := pool [(1, .class_ 2), (0, u "java/lang/Comparable"), (0, .class_ 4), (0, u "java/lang/Object")] 7

/-- java/lang/Comparable -/
def k11 : Class := { plain "java/lang/Comparable" (some 0) with
  accessFlags := 1537
  interfaces := #[]
  cf := some (fileOf pool11 1 #[] #[] 1537 3 #[] #[])
  fields := #[]
  methods := #[]
  instanceTypes := #[]
  staticTypes := #[]
  resolved := Array.replicate 12 none
  statics := none }

def pool12 : Array CpInfo := pool [(2, .class_ 4), (1, u "java/lang/CharSequence"), (42, .class_ 48), (0, u "java/lang/CharSequence$1CodePointIterator"), (10, .class_ 60), (0, u "java/lang/CharSequence$1CharIterator"), (5, .class_ 67), (0, u "java/lang/Object")] 63

/-- java/lang/CharSequence -/
def k12 : Class := { plain "java/lang/CharSequence" (some 0) with
  accessFlags := 1537
  interfaces := #[]
  cf := some (fileOf pool12 2 #[.nestMembers #[47, 59]] #[] 1537 66 #[] #[])
  fields := #[]
  methods := #[]
  instanceTypes := #[]
  staticTypes := #[]
  resolved := Array.replicate 131 none
  statics := none }

def pool13 : Array CpInfo := pool [(1, .class_ 2), (0, u "java/lang/constant/Constable"), (0, .class_ 4), (0, u "java/lang/Object")] 6

/-- java/lang/constant/Constable -/
def k13 : Class := { plain "java/lang/constant/Constable" (some 0) with
  accessFlags := 1537
  interfaces := #[]
  cf := some (fileOf pool13 1 #[] #[] 1537 3 #[] #[])
  fields := #[]
  methods := #[]
  instanceTypes := #[]
  staticTypes := #[]
  resolved := Array.replicate 11 none
  statics := none }

def pool14 : Array CpInfo := pool [(1, .class_ 2), (0, u "java/lang/constant/ConstantDesc"), (0, .class_ 4), (0, u "java/lang/Object")] 32

/-- java/lang/constant/ConstantDesc -/
def k14 : Class := { plain "java/lang/constant/ConstantDesc" (some 0) with
  accessFlags := 1537
  interfaces := #[]
  cf := some (fileOf pool14 1 #[] #[] 1537 3 #[] #[])
  fields := #[]
  methods := #[]
  instanceTypes := #[]
  staticTypes := #[]
  resolved := Array.replicate 37 none
  statics := none }

def pool15 : Array CpInfo := pool [(2, .class_ 4), (1, u "java/lang/Object"), (0, u "<init>"), (0, u "()V"), (3, .class_ 12), (1, u "java/lang/String"), (0, u "value"), (0, u "[B"), (2, u "coder"), (0, u "B"), (2, u "hash"), (0, u "I"), (2, u "hashIsZero"), (0, u "Z"), (13, u "COMPACT_STRINGS"), (534, .class_ 576), (0, u "java/lang/CharSequence"), (22, u "CASE_INSENSITIVE_ORDER"), (0, u "Ljava/util/Comparator;"), (500, u "serialPersistentFields"), (0, u "[Ljava/io/ObjectStreamField;"), (0, .class_ 1104), (0, u "java/lang/String$CaseInsensitiveComparator"), (1, .class_ 1107), (0, u "java/io/Serializable"), (0, .class_ 1109), (0, u "java/lang/Comparable"), (0, .class_ 1111), (0, u "java/lang/constant/Constable"), (0, .class_ 1113), (0, u "java/lang/constant/ConstantDesc"), (2, u "serialVersionUID"), (0, u "J"), (3, u "REPL"), (0, u "C"), (2, u "LATIN1"), (1, u "UTF16")] 323

def k15m0 : Method := { name := "<init>", desc := "()V", sig := { parameters := [], returnType := none }, accessFlags := 1, code := none }
/-- java/lang/String -/
def k15 : Class := { plain "java/lang/String" (some 0) with
  accessFlags := 49
  interfaces := #[10, 11, 12, 13, 14]
  cf := some (fileOf pool15 10 #[.nestMembers #[1103]] #[{ accessFlags := 1, nameIndex := 5, descriptorIndex := 6, attributes := #[] }] 49 2 #[1106, 1108, 575, 1110, 1112] #[{ accessFlags := 18, nameIndex := 13, descriptorIndex := 14, attributes := #[] }, { accessFlags := 18, nameIndex := 17, descriptorIndex := 18, attributes := #[] }, { accessFlags := 2, nameIndex := 21, descriptorIndex := 22, attributes := #[] }, { accessFlags := 2, nameIndex := 25, descriptorIndex := 26, attributes := #[] }, { accessFlags := 26, nameIndex := 1116, descriptorIndex := 1117, attributes := #[] }, { accessFlags := 24, nameIndex := 40, descriptorIndex := 26, attributes := #[] }, { accessFlags := 26, nameIndex := 1101, descriptorIndex := 1102, attributes := #[] }, { accessFlags := 26, nameIndex := 1121, descriptorIndex := 1122, attributes := #[] }, { accessFlags := 25, nameIndex := 599, descriptorIndex := 600, attributes := #[] }, { accessFlags := 24, nameIndex := 1125, descriptorIndex := 18, attributes := #[] }, { accessFlags := 24, nameIndex := 1127, descriptorIndex := 18, attributes := #[] }])
  fields := #[{ name := "value", type := (.array .byte), accessFlags := 18, slot := 0, constantValue := 0 }, { name := "coder", type := .byte, accessFlags := 18, slot := 1, constantValue := 0 }, { name := "hash", type := .int, accessFlags := 2, slot := 2, constantValue := 0 }, { name := "hashIsZero", type := .boolean, accessFlags := 2, slot := 3, constantValue := 0 }, { name := "serialVersionUID", type := .long, accessFlags := 26, slot := 0, constantValue := 0 }, { name := "COMPACT_STRINGS", type := .boolean, accessFlags := 24, slot := 1, constantValue := 0 }, { name := "serialPersistentFields", type := (.array (.object "java/io/ObjectStreamField")), accessFlags := 26, slot := 2, constantValue := 0 }, { name := "REPL", type := .char, accessFlags := 26, slot := 3, constantValue := 0 }, { name := "CASE_INSENSITIVE_ORDER", type := (.object "java/util/Comparator"), accessFlags := 25, slot := 4, constantValue := 0 }, { name := "LATIN1", type := .byte, accessFlags := 24, slot := 5, constantValue := 0 }, { name := "UTF16", type := .byte, accessFlags := 24, slot := 6, constantValue := 0 }]
  methods := #[k15m0]
  instanceTypes := #[(.array .byte), .byte, .int, .boolean]
  staticTypes := #[.long, .boolean, (.array (.object "java/io/ObjectStreamField")), .char, (.object "java/util/Comparator"), .byte, .byte]
  resolved := Array.replicate 1451 none
  statics := none }

def pool16 : Array CpInfo := pool [(1, u "java/lang/Cloneable"), (0, .class_ 1), (0, u "java/lang/Object"), (0, .class_ 3)] 3

/-- java/lang/Cloneable -/
def k16 : Class := { plain "java/lang/Cloneable" (some 0) with
  accessFlags := 1537
  interfaces := #[]
  cf := some (fileOf pool16 2 #[] #[] 1537 4 #[] #[])
  fields := #[]
  methods := #[]
  instanceTypes := #[]
  staticTypes := #[]
  resolved := Array.replicate 8 none
  statics := none }

/-- the primitive byte -/
def k17 : Class := { plain "byte" none with kind := .primitive 'B', accessFlags := 0x411 }
/-- [B -/
def k18 : Class := { plain "[B" (some 0) with kind := .array 17 .byte, interfaces := #[16, 10], accessFlags := 1041 }

/-- the primitive int -/
def k19 : Class := { plain "int" none with kind := .primitive 'I', accessFlags := 0x411 }
/-- [I -/
def k20 : Class := { plain "[I" (some 0) with kind := .array 19 .int, interfaces := #[16, 10], accessFlags := 1041 }

/-- the primitive long -/
def k21 : Class := { plain "long" none with kind := .primitive 'J', accessFlags := 0x411 }
/-- [J -/
def k22 : Class := { plain "[J" (some 0) with kind := .array 21 .long, interfaces := #[16, 10], accessFlags := 1041 }

/-- [Lcom/example/lonborg/lonborg/Item; -/
def k23 : Class := { plain "[Lcom/example/lonborg/lonborg/Item;" (some 0) with kind := .array 2 (.object "com/example/lonborg/lonborg/Item"), interfaces := #[16, 10], accessFlags := 1041 }

/-- [Lcom/example/lonborg/lonborg/Resources; -/
def k24 : Class := { plain "[Lcom/example/lonborg/lonborg/Resources;" (some 0) with kind := .array 3 (.object "com/example/lonborg/lonborg/Resources"), interfaces := #[16, 10], accessFlags := 1041 }

/-- [Ljava/lang/String; -/
def k25 : Class := { plain "[Ljava/lang/String;" (some 0) with kind := .array 15 (.object "java/lang/String"), interfaces := #[16, 10], accessFlags := 1041 }

def heap : Heap := #[{ cls := 3, slots := #[.ref 4, .int 0], vm := .statics 3 },
  { cls := 7, slots := #[.ref 5, .int 0], vm := .statics 7 },
  { cls := 24, slots := #[], vm := .none },
  { cls := 25, slots := #[], vm := .none },
  { cls := 3, slots := #[.ref 3, .null], vm := .none },
  { cls := 7, slots := #[.ref 2], vm := .none }]
def classes : Array Class := #[k0, k1, k2, k3, k4, k5, k6, k7, k8, k9, k10, k11, k12, k13, k14, k15, k16, k17, k18, k19, k20, k21, k22, k23, k24, k25]
def interned : List (Array UInt16 × Addr) := []
def slotsUsed : Nat := 7
def theMethod : MethodId := ⟨1, 1⟩
def args0 : Array Value := #[.long 1, .long 2, .long 3, .long 4, .int 5, .int 7]
def aboutOver (below : List Frame) : State where
  vm := { classes := classes, interned := interned.toArray }
  heap := heap
  slotsUsed := slotsUsed
  threads := #[{ frames := .invoking theMethod args0 :: below }]
def below0 : List Frame := [.native { method := ⟨0, 0⟩, args := #[] }]
def about1 : State := aboutOver below0
def p0 : Program := .bare "" "" ""
def e0 : Env := launch0.env 0 0 0
theorem w_frames : about1.frames = Frame.invoking theMethod args0 :: below0 := rfl
set_option maxRecDepth 65536 in
theorem w_args : argsFit about1.vm theMethod args0 = true := by decide +kernel
set_option maxRecDepth 65536 in
theorem w_heap : heapFits about1 = true := by decide +kernel
set_option maxRecDepth 65536 in
theorem w_runnable : about1.curStatus? = some .runnable := by decide +kernel
set_option maxRecDepth 65536 in
theorem w_alone : about1.alone = true := by decide +kernel
set_option maxRecDepth 65536 in
theorem w_named : about1.methodNamed? x = some theMethod := by decide +kernel
set_option maxRecDepth 65536 in
theorem w_hears : about1.hears theMethod below0 = true := by decide +kernel
set_option maxRecDepth 65536 in
theorem w_ripe : about1.ripe theMethod args0 below0 = true := by decide +kernel
theorem w_running : about1.status = .running := rfl
set_option maxRecDepth 65536 in
theorem w_room : about1.hasRoom e0.platform room_1 = true :=
  launch0.hasRoom_least _ room_1 (by decide +kernel) (by decide +kernel) (by decide +kernel) (by decide +kernel) (by decide +kernel) (by decide +kernel)
theorem allAtoms_all (ts : List Jvm.Cond) (a : Array Jvm.Value) (st : Jvm.State) : (allAtoms ts).before a st = ts.all (fun c => c.before a st) := by
  induction ts with
  | nil => rfl
  | cons c t ih =>
    show (Jvm.Cond.and c (allAtoms t)).before a st = _
    rw [Jvm.Cond.before_and, ih, List.all_cons]
def words1 : List Jvm.Cond := Jvm.Cond.code x code maxLocals ret :: tables_1
/-- a 'code' word, met by the world's own term for the bytes: nothing is compared byte by byte -/
theorem code_word {y : MethodName} {bytes : ByteArray} {mx : Nat} {rt : Option FieldType} {a : Array Value} {s : State} {m : MethodId} {meth : Method} {c : Code} (h1 : s.methodNamed? y = some m) (h2 : s.vm.method? m = some meth) (h3 : meth.code = some c) (h4 : c.code = bytes)
    (h5 : (c.maxLocals == mx && c.exceptionTable.isEmpty && decide (c.maxStack ≤ mostOperands) && decide (meth.sig.returnType = rt) && !meth.locks && decide (parseMethodDescriptor y.desc = some meth.sig)) = true) : (Jvm.Cond.code y bytes mx rt).before a s = true := by
  simp only [Bool.and_eq_true, beq_iff_eq, Bool.not_eq_true', decide_eq_true_eq] at h5
  obtain ⟨⟨⟨⟨⟨g1, g2⟩, g3⟩, g4⟩, g5⟩, g6⟩ := h5
  simp [Cond.before, Cond.holds, Cond.value, h1, h2, h3, h4, g1, g2, g3, g4, g5, g6]
def isCode : Jvm.Cond → Bool
  | .code _ _ _ _ => true
  | _ => false
theorem all_split {L : List Jvm.Cond} {P : Jvm.Cond → Bool} (h1 : L.all (fun c => isCode c || P c) = true) (h2 : ∀ c ∈ L.filter isCode, P c = true) : L.all P = true := by
  refine List.all_eq_true.mpr fun c hc => ?_
  have h := List.all_eq_true.mp h1 c hc
  rcases Bool.eq_false_or_eq_true (isCode c) with hi | hi
  · exact h2 c (List.mem_filter.mpr ⟨hc, hi⟩)
  · simpa [hi] using h
set_option maxRecDepth 65536 in
theorem w_c0 : (Jvm.Cond.code x code maxLocals ret).before args0 about1 = true := code_word (m := ⟨1, 1⟩) (meth := k1m1) (c := k1c1) (by decide +kernel) rfl rfl rfl (by decide +kernel)
set_option maxRecDepth 65536 in
theorem w_c1 : (Jvm.Cond.code ({ cls := "com/example/lonborg/lonborg/Item", name := "<init>", desc := "(JJLcom/example/lonborg/lonborg/Resources;)V" } : Jvm.MethodName) prog_1_method_2_code (6 : Nat) (Option.none : Option Jvm.ClassFile.FieldType)).before args0 about1 = true := code_word (m := ⟨2, 1⟩) (meth := k2m1) (c := k2c1) (by decide +kernel) rfl rfl rfl (by decide +kernel)
set_option maxRecDepth 65536 in
theorem w_c2 : (Jvm.Cond.code ({ cls := "com/example/lonborg/lonborg/Item", name := "<init>", desc := "(JJ[BLcom/example/lonborg/lonborg/Resources;)V" } : Jvm.MethodName) prog_1_method_1_code (7 : Nat) (Option.none : Option Jvm.ClassFile.FieldType)).before args0 about1 = true := code_word (m := ⟨2, 0⟩) (meth := k2m0) (c := k2c0) (by decide +kernel) rfl rfl rfl (by decide +kernel)
set_option maxRecDepth 65536 in
theorem w_c3 : (Jvm.Cond.code ({ cls := "java/lang/Object", name := "<init>", desc := "()V" } : Jvm.MethodName) object_method_1_code (1 : Nat) (Option.none : Option Jvm.ClassFile.FieldType)).before args0 about1 = true := code_word (m := ⟨0, 0⟩) (meth := k0m0) (c := k0c0) (by decide +kernel) rfl rfl rfl (by decide +kernel)
set_option maxRecDepth 65536 in
theorem w_c4 : (Jvm.Cond.code ({ cls := "com/example/lonborg/lonborg/ItemTree", name := "<init>", desc := "()V" } : Jvm.MethodName) prog_2_method_1_code (1 : Nat) (Option.none : Option Jvm.ClassFile.FieldType)).before args0 about1 = true := code_word (m := ⟨4, 0⟩) (meth := k4m0) (c := k4c0) (by decide +kernel) rfl rfl rfl (by decide +kernel)
set_option maxRecDepth 65536 in
theorem w_c5 : (Jvm.Cond.code ({ cls := "com/example/lonborg/lonborg/ItemTree$Leaf", name := "<init>", desc := "()V" } : Jvm.MethodName) prog_4_method_1_code (1 : Nat) (Option.none : Option Jvm.ClassFile.FieldType)).before args0 about1 = true := code_word (m := ⟨6, 0⟩) (meth := k6m0) (c := k6c0) (by decide +kernel) rfl rfl rfl (by decide +kernel)
set_option maxRecDepth 65536 in
theorem w_c6 : (Jvm.Cond.code ({ cls := "com/example/lonborg/lonborg/ItemTree$Node", name := "<init>", desc := "()V" } : Jvm.MethodName) prog_5_method_1_code (1 : Nat) (Option.none : Option Jvm.ClassFile.FieldType)).before args0 about1 = true := code_word (m := ⟨5, 0⟩) (meth := k5m0) (c := k5c0) (by decide +kernel) rfl rfl rfl (by decide +kernel)
set_option maxRecDepth 65536 in
theorem w_c7 : (Jvm.Cond.code ({ cls := "com/example/lonborg/lonborg/ItemTree", name := "first", desc := "()Lcom/example/lonborg/lonborg/Item;" } : Jvm.MethodName) prog_2_method_3_code (1 : Nat) (Option.some (Jvm.ClassFile.FieldType.object "com/example/lonborg/lonborg/Item"))).before args0 about1 = true := code_word (m := ⟨4, 2⟩) (meth := k4m2) (c := k4c2) (by decide +kernel) rfl rfl rfl (by decide +kernel)
set_option maxRecDepth 65536 in
theorem w_c8 : (Jvm.Cond.code ({ cls := "com/example/lonborg/lonborg/ItemTree", name := "add", desc := "(Lcom/example/lonborg/lonborg/Item;)V" } : Jvm.MethodName) prog_2_method_2_code (3 : Nat) (Option.none : Option Jvm.ClassFile.FieldType)).before args0 about1 = true := code_word (m := ⟨4, 1⟩) (meth := k4m1) (c := k4c1) (by decide +kernel) rfl rfl rfl (by decide +kernel)
set_option maxRecDepth 65536 in
theorem w_c9 : (Jvm.Cond.code ({ cls := "com/example/lonborg/lonborg/ItemTree$Leaf", name := "add", desc := "(Lcom/example/lonborg/lonborg/Item;)Lcom/example/lonborg/lonborg/ItemTree$Node;" } : Jvm.MethodName) prog_4_method_2_code (4 : Nat) (Option.some (Jvm.ClassFile.FieldType.object "com/example/lonborg/lonborg/ItemTree$Node"))).before args0 about1 = true := code_word (m := ⟨6, 1⟩) (meth := k6m1) (c := k6c1) (by decide +kernel) rfl rfl rfl (by decide +kernel)
set_option maxRecDepth 65536 in
theorem w_c10 : (Jvm.Cond.code ({ cls := "com/example/lonborg/lonborg/ItemTree$Leaf", name := "placeOf", desc := "(Lcom/example/lonborg/lonborg/Item;)I" } : Jvm.MethodName) prog_4_method_9_code (5 : Nat) (Option.some Jvm.ClassFile.FieldType.int)).before args0 about1 = true := code_word (m := ⟨6, 3⟩) (meth := k6m3) (c := k6c3) (by decide +kernel) rfl rfl rfl (by decide +kernel)
set_option maxRecDepth 65536 in
theorem w_c11 : (Jvm.Cond.code ({ cls := "com/example/lonborg/lonborg/Item", name := "checkedNeeds", desc := "()Lcom/example/lonborg/lonborg/Resources;" } : Jvm.MethodName) prog_1_method_7_code (1 : Nat) (Option.some (Jvm.ClassFile.FieldType.object "com/example/lonborg/lonborg/Resources"))).before args0 about1 = true := code_word (m := ⟨2, 4⟩) (meth := k2m4) (c := k2c4) (by decide +kernel) rfl rfl rfl (by decide +kernel)
set_option maxRecDepth 65536 in
theorem w_c12 : (Jvm.Cond.code ({ cls := "com/example/lonborg/lonborg/ItemTree$Node", name := "widen", desc := "(Lcom/example/lonborg/lonborg/Resources;)V" } : Jvm.MethodName) prog_5_method_10_code (2 : Nat) (Option.none : Option Jvm.ClassFile.FieldType)).before args0 about1 = true := code_word (m := ⟨5, 3⟩) (meth := k5m3) (c := k5c3) (by decide +kernel) rfl rfl rfl (by decide +kernel)
set_option maxRecDepth 65536 in
theorem w_c13 : (Jvm.Cond.code ({ cls := "com/example/lonborg/lonborg/LeastNeeds", name := "with", desc := "(Lcom/example/lonborg/lonborg/Resources;)Lcom/example/lonborg/lonborg/LeastNeeds;" } : Jvm.MethodName) prog_8_method_3_code (4 : Nat) (Option.some (Jvm.ClassFile.FieldType.object "com/example/lonborg/lonborg/LeastNeeds"))).before args0 about1 = true := code_word (m := ⟨7, 1⟩) (meth := k7m1) (c := k7c1) (by decide +kernel) rfl rfl rfl (by decide +kernel)
set_option maxRecDepth 65536 in
theorem w_c14 : (Jvm.Cond.code ({ cls := "com/example/lonborg/lonborg/LeastNeeds", name := "replaced", desc := "(ILcom/example/lonborg/lonborg/Resources;)Lcom/example/lonborg/lonborg/LeastNeeds;" } : Jvm.MethodName) prog_8_method_5_code (6 : Nat) (Option.some (Jvm.ClassFile.FieldType.object "com/example/lonborg/lonborg/LeastNeeds"))).before args0 about1 = true := code_word (m := ⟨7, 2⟩) (meth := k7m2) (c := k7c2) (by decide +kernel) rfl rfl rfl (by decide +kernel)
set_option maxRecDepth 65536 in
theorem w_c15 : (Jvm.Cond.code ({ cls := "java/lang/Math", name := "max", desc := "(II)I" } : Jvm.MethodName) jdk_29_method_65_code (2 : Nat) (Option.some Jvm.ClassFile.FieldType.int)).before args0 about1 = true := code_word (m := ⟨8, 1⟩) (meth := k8m1) (c := k8c1) (by decide +kernel) rfl rfl rfl (by decide +kernel)
set_option maxRecDepth 65536 in
theorem w_c16 : (Jvm.Cond.code ({ cls := "com/example/lonborg/lonborg/LeastNeeds", name := "<init>", desc := "([Lcom/example/lonborg/lonborg/Resources;)V" } : Jvm.MethodName) prog_8_method_1_code (2 : Nat) (Option.none : Option Jvm.ClassFile.FieldType)).before args0 about1 = true := code_word (m := ⟨7, 0⟩) (meth := k7m0) (c := k7c0) (by decide +kernel) rfl rfl rfl (by decide +kernel)
set_option maxRecDepth 65536 in
theorem w_c17 : (Jvm.Cond.code ({ cls := "com/example/lonborg/lonborg/ItemTree$Leaf", name := "first", desc := "()Lcom/example/lonborg/lonborg/Item;" } : Jvm.MethodName) prog_4_method_3_code (1 : Nat) (Option.some (Jvm.ClassFile.FieldType.object "com/example/lonborg/lonborg/Item"))).before args0 about1 = true := code_word (m := ⟨6, 2⟩) (meth := k6m2) (c := k6c2) (by decide +kernel) rfl rfl rfl (by decide +kernel)
set_option maxRecDepth 65536 in
theorem w_c18 : (Jvm.Cond.code ({ cls := "com/example/lonborg/lonborg/Item", name := "priority", desc := "()J" } : Jvm.MethodName) prog_1_method_4_code (1 : Nat) (Option.some Jvm.ClassFile.FieldType.long)).before args0 about1 = true := code_word (m := ⟨2, 3⟩) (meth := k2m3) (c := k2c3) (by decide +kernel) rfl rfl rfl (by decide +kernel)
set_option maxRecDepth 65536 in
theorem w_c19 : (Jvm.Cond.code ({ cls := "com/example/lonborg/lonborg/Item", name := "id", desc := "()J" } : Jvm.MethodName) prog_1_method_3_code (1 : Nat) (Option.some Jvm.ClassFile.FieldType.long)).before args0 about1 = true := code_word (m := ⟨2, 2⟩) (meth := k2m2) (c := k2c2) (by decide +kernel) rfl rfl rfl (by decide +kernel)
set_option maxRecDepth 65536 in
theorem w_c20 : (Jvm.Cond.code ({ cls := "com/example/lonborg/lonborg/ItemTree", name := "before", desc := "(Lcom/example/lonborg/lonborg/Item;JJ)Z" } : Jvm.MethodName) prog_2_method_10_code (5 : Nat) (Option.some Jvm.ClassFile.FieldType.boolean)).before args0 about1 = true := code_word (m := ⟨4, 3⟩) (meth := k4m3) (c := k4c3) (by decide +kernel) rfl rfl rfl (by decide +kernel)
set_option maxRecDepth 65536 in
theorem w_c21 : (Jvm.Cond.code ({ cls := "com/example/lonborg/lonborg/Resources", name := "fitsIn", desc := "(Lcom/example/lonborg/lonborg/Resources;)Z" } : Jvm.MethodName) prog_18_method_4_code (9 : Nat) (Option.some Jvm.ClassFile.FieldType.boolean)).before args0 about1 = true := code_word (m := ⟨3, 0⟩) (meth := k3m0) (c := k3c0) (by decide +kernel) rfl rfl rfl (by decide +kernel)
set_option maxRecDepth 65536 in
theorem w_c22 : (Jvm.Cond.code ({ cls := "com/example/lonborg/lonborg/ItemTreeFirstPinLaw", name := "less", desc := "(JJJJ)Z" } : Jvm.MethodName) method_3_code (8 : Nat) (Option.some Jvm.ClassFile.FieldType.boolean)).before args0 about1 = true := code_word (m := ⟨1, 2⟩) (meth := k1m2) (c := k1c2) (by decide +kernel) rfl rfl rfl (by decide +kernel)
def codes1 : List Jvm.Cond := [Jvm.Cond.code x code maxLocals ret, Jvm.Cond.code ({ cls := "com/example/lonborg/lonborg/Item", name := "<init>", desc := "(JJLcom/example/lonborg/lonborg/Resources;)V" } : Jvm.MethodName) prog_1_method_2_code (6 : Nat) (Option.none : Option Jvm.ClassFile.FieldType), Jvm.Cond.code ({ cls := "com/example/lonborg/lonborg/Item", name := "<init>", desc := "(JJ[BLcom/example/lonborg/lonborg/Resources;)V" } : Jvm.MethodName) prog_1_method_1_code (7 : Nat) (Option.none : Option Jvm.ClassFile.FieldType), Jvm.Cond.code ({ cls := "java/lang/Object", name := "<init>", desc := "()V" } : Jvm.MethodName) object_method_1_code (1 : Nat) (Option.none : Option Jvm.ClassFile.FieldType), Jvm.Cond.code ({ cls := "com/example/lonborg/lonborg/ItemTree", name := "<init>", desc := "()V" } : Jvm.MethodName) prog_2_method_1_code (1 : Nat) (Option.none : Option Jvm.ClassFile.FieldType), Jvm.Cond.code ({ cls := "com/example/lonborg/lonborg/ItemTree$Leaf", name := "<init>", desc := "()V" } : Jvm.MethodName) prog_4_method_1_code (1 : Nat) (Option.none : Option Jvm.ClassFile.FieldType), Jvm.Cond.code ({ cls := "com/example/lonborg/lonborg/ItemTree$Node", name := "<init>", desc := "()V" } : Jvm.MethodName) prog_5_method_1_code (1 : Nat) (Option.none : Option Jvm.ClassFile.FieldType), Jvm.Cond.code ({ cls := "com/example/lonborg/lonborg/ItemTree", name := "first", desc := "()Lcom/example/lonborg/lonborg/Item;" } : Jvm.MethodName) prog_2_method_3_code (1 : Nat) (Option.some (Jvm.ClassFile.FieldType.object "com/example/lonborg/lonborg/Item")), Jvm.Cond.code ({ cls := "com/example/lonborg/lonborg/ItemTree", name := "add", desc := "(Lcom/example/lonborg/lonborg/Item;)V" } : Jvm.MethodName) prog_2_method_2_code (3 : Nat) (Option.none : Option Jvm.ClassFile.FieldType), Jvm.Cond.code ({ cls := "com/example/lonborg/lonborg/ItemTree$Leaf", name := "add", desc := "(Lcom/example/lonborg/lonborg/Item;)Lcom/example/lonborg/lonborg/ItemTree$Node;" } : Jvm.MethodName) prog_4_method_2_code (4 : Nat) (Option.some (Jvm.ClassFile.FieldType.object "com/example/lonborg/lonborg/ItemTree$Node")), Jvm.Cond.code ({ cls := "com/example/lonborg/lonborg/ItemTree$Leaf", name := "placeOf", desc := "(Lcom/example/lonborg/lonborg/Item;)I" } : Jvm.MethodName) prog_4_method_9_code (5 : Nat) (Option.some Jvm.ClassFile.FieldType.int), Jvm.Cond.code ({ cls := "com/example/lonborg/lonborg/Item", name := "checkedNeeds", desc := "()Lcom/example/lonborg/lonborg/Resources;" } : Jvm.MethodName) prog_1_method_7_code (1 : Nat) (Option.some (Jvm.ClassFile.FieldType.object "com/example/lonborg/lonborg/Resources")), Jvm.Cond.code ({ cls := "com/example/lonborg/lonborg/ItemTree$Node", name := "widen", desc := "(Lcom/example/lonborg/lonborg/Resources;)V" } : Jvm.MethodName) prog_5_method_10_code (2 : Nat) (Option.none : Option Jvm.ClassFile.FieldType), Jvm.Cond.code ({ cls := "com/example/lonborg/lonborg/LeastNeeds", name := "with", desc := "(Lcom/example/lonborg/lonborg/Resources;)Lcom/example/lonborg/lonborg/LeastNeeds;" } : Jvm.MethodName) prog_8_method_3_code (4 : Nat) (Option.some (Jvm.ClassFile.FieldType.object "com/example/lonborg/lonborg/LeastNeeds")), Jvm.Cond.code ({ cls := "com/example/lonborg/lonborg/LeastNeeds", name := "replaced", desc := "(ILcom/example/lonborg/lonborg/Resources;)Lcom/example/lonborg/lonborg/LeastNeeds;" } : Jvm.MethodName) prog_8_method_5_code (6 : Nat) (Option.some (Jvm.ClassFile.FieldType.object "com/example/lonborg/lonborg/LeastNeeds")), Jvm.Cond.code ({ cls := "java/lang/Math", name := "max", desc := "(II)I" } : Jvm.MethodName) jdk_29_method_65_code (2 : Nat) (Option.some Jvm.ClassFile.FieldType.int), Jvm.Cond.code ({ cls := "com/example/lonborg/lonborg/LeastNeeds", name := "<init>", desc := "([Lcom/example/lonborg/lonborg/Resources;)V" } : Jvm.MethodName) prog_8_method_1_code (2 : Nat) (Option.none : Option Jvm.ClassFile.FieldType), Jvm.Cond.code ({ cls := "com/example/lonborg/lonborg/ItemTree$Leaf", name := "first", desc := "()Lcom/example/lonborg/lonborg/Item;" } : Jvm.MethodName) prog_4_method_3_code (1 : Nat) (Option.some (Jvm.ClassFile.FieldType.object "com/example/lonborg/lonborg/Item")), Jvm.Cond.code ({ cls := "com/example/lonborg/lonborg/Item", name := "priority", desc := "()J" } : Jvm.MethodName) prog_1_method_4_code (1 : Nat) (Option.some Jvm.ClassFile.FieldType.long), Jvm.Cond.code ({ cls := "com/example/lonborg/lonborg/Item", name := "id", desc := "()J" } : Jvm.MethodName) prog_1_method_3_code (1 : Nat) (Option.some Jvm.ClassFile.FieldType.long), Jvm.Cond.code ({ cls := "com/example/lonborg/lonborg/ItemTree", name := "before", desc := "(Lcom/example/lonborg/lonborg/Item;JJ)Z" } : Jvm.MethodName) prog_2_method_10_code (5 : Nat) (Option.some Jvm.ClassFile.FieldType.boolean), Jvm.Cond.code ({ cls := "com/example/lonborg/lonborg/Resources", name := "fitsIn", desc := "(Lcom/example/lonborg/lonborg/Resources;)Z" } : Jvm.MethodName) prog_18_method_4_code (9 : Nat) (Option.some Jvm.ClassFile.FieldType.boolean), Jvm.Cond.code ({ cls := "com/example/lonborg/lonborg/ItemTreeFirstPinLaw", name := "less", desc := "(JJJJ)Z" } : Jvm.MethodName) method_3_code (8 : Nat) (Option.some Jvm.ClassFile.FieldType.boolean)]
set_option maxRecDepth 65536 in
theorem codes_eq : words1.filter isCode = codes1 := rfl
theorem w_codes : ∀ c ∈ words1.filter isCode, c.before args0 about1 = true := by
  rw [codes_eq]
  intro c hc
  simp only [codes1, List.mem_cons, List.not_mem_nil, or_false] at hc
  rcases hc with rfl | rfl | rfl | rfl | rfl | rfl | rfl | rfl | rfl | rfl | rfl | rfl | rfl | rfl | rfl | rfl | rfl | rfl | rfl | rfl | rfl | rfl | rfl
  · exact w_c0
  · exact w_c1
  · exact w_c2
  · exact w_c3
  · exact w_c4
  · exact w_c5
  · exact w_c6
  · exact w_c7
  · exact w_c8
  · exact w_c9
  · exact w_c10
  · exact w_c11
  · exact w_c12
  · exact w_c13
  · exact w_c14
  · exact w_c15
  · exact w_c16
  · exact w_c17
  · exact w_c18
  · exact w_c19
  · exact w_c20
  · exact w_c21
  · exact w_c22
set_option maxRecDepth 65536 in
theorem w_t1 : (words1.take 24).all (fun c => isCode c || c.before args0 about1) = true := by decide +kernel
set_option maxRecDepth 65536 in
theorem w_t2 : ((words1.drop 24).take 24).all (fun c => isCode c || c.before args0 about1) = true := by decide +kernel
set_option maxRecDepth 65536 in
theorem w_t3 : (((words1.drop 24).drop 24).take 24).all (fun c => isCode c || c.before args0 about1) = true := by decide +kernel
set_option maxRecDepth 65536 in
theorem w_t4 : ((((words1.drop 24).drop 24).drop 24).take 24).all (fun c => isCode c || c.before args0 about1) = true := by decide +kernel
set_option maxRecDepth 65536 in
theorem w_t5 : (((((words1.drop 24).drop 24).drop 24).drop 24).take 24).all (fun c => isCode c || c.before args0 about1) = true := by decide +kernel
set_option maxRecDepth 65536 in
theorem w_t6 : ((((((words1.drop 24).drop 24).drop 24).drop 24).drop 24).take 24).all (fun c => isCode c || c.before args0 about1) = true := by decide +kernel
set_option maxRecDepth 65536 in
theorem w_t7 : ((((((words1.drop 24).drop 24).drop 24).drop 24).drop 24).drop 24).all (fun c => isCode c || c.before args0 about1) = true := by decide +kernel
theorem w_tables : (allAtoms (Jvm.Cond.code x code maxLocals ret :: tables_1)).before args0 about1 = true := by
  rw [allAtoms_all]
  show words1.all (fun c => c.before args0 about1) = true
  refine all_split ?_ w_codes
  rw [← List.take_append_drop 24 words1, List.all_append, w_t1, ← List.take_append_drop 24 (words1.drop 24), List.all_append, w_t2, ← List.take_append_drop 24 ((words1.drop 24).drop 24), List.all_append, w_t3, ← List.take_append_drop 24 (((words1.drop 24).drop 24).drop 24), List.all_append, w_t4, ← List.take_append_drop 24 ((((words1.drop 24).drop 24).drop 24).drop 24), List.all_append, w_t5, ← List.take_append_drop 24 (((((words1.drop 24).drop 24).drop 24).drop 24).drop 24), List.all_append, w_t6, w_t7]
  rfl
set_option maxRecDepth 65536 in
theorem w_case : (Jvm.Cond.and given_1 narrow_1).before args0 about1 = true := by decide +kernel
theorem w_applies : (headSpec (Jvm.Cond.code x code maxLocals ret :: tables_1) room_1).applies x e0.platform about1 = true :=
  (Spec.applies_iff w_frames).mpr ⟨w_running, w_runnable, w_alone, w_named, w_hears, w_ripe, w_room, w_tables⟩
theorem atStart : AtStart classFile x code maxLocals ret World_1 tables_1 room_1 Calls_1 rest_1 Pre_1 launch0 p0 e0 about1 theMethod args0 below0 :=
  ⟨lists_1, trivial, launch0.admits_env _ _ _, launch0.least_env, fairChoices_fair.cas, fairChoices_fair.clock, w_frames, w_args, w_heap, w_applies, trivial, trivial, w_case⟩
end start1
theorem witness_1 : WitnessClaimed_1 := ⟨start1.p0, start1.e0, start1.about1, start1.theMethod, start1.args0, start1.below0, start1.atStart⟩
end Jvm.Pilot.@@N@@
